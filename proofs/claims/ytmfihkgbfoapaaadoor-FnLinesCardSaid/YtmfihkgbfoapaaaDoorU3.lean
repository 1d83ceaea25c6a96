/- laws.FnSkip, walked. -/
import Derived.Test.YtmfihkgbfoapaaaDoorU2
import Derived.RegionTactic
import Derived.ChangeAlike
namespace Go.Proofs.YtmfihkgbfoapaaaDoor
set_option linter.unusedVariables false
set_option linter.unusedSimpArgs false
open Go Go.RowKit Go.Lib Go.BigFrame Go.Proofs.YtmfihkgbfoapaaaDoorW.PrintWords

def skA (m : Int) : Int := bits .or .i64 (bits .or .i64 m 64) 128
def skB (m : Int) : Int := bits .andNot .i64 (bits .or .i64 m 64) 128
def skOk (m : Int) : Bool :=
  decide (0 ≤ skA m ∧ skA m ≤ 255 ∧ 0 ≤ skB m ∧ skB m ≤ 255) && hasBit (4 * skA m) 4 == hasBit (4 * skB m) 4 && hasBit (4 * skA m) 24 == hasBit (4 * skB m) 24 && hasBit (4 * skA m) 16 == hasBit (4 * skB m) 16 && hasBit (4 * skA m) 64 == hasBit (4 * skB m) 64 &&
  hasBit (4 * skA m) 32 == hasBit (4 * skB m) 32 && hasBit (4 * skA m) 128 == hasBit (4 * skB m) 128 && hasBit (4 * skA m) 256 && hasBit (4 * skB m) 256 && hasBit (4 * skA m) 512 && !hasBit (4 * skB m) 512
def skRow (j : Nat) : Bool := (List.range 16).all fun m => skOk ((16 * j + m : Nat) : Int)
theorem sk_row0 : skRow 0 = true := by kernel_rfl
theorem sk_row1 : skRow 1 = true := by kernel_rfl
theorem sk_row2 : skRow 2 = true := by kernel_rfl
theorem sk_row3 : skRow 3 = true := by kernel_rfl
theorem sk_row4 : skRow 4 = true := by kernel_rfl
theorem sk_row5 : skRow 5 = true := by kernel_rfl
theorem sk_row6 : skRow 6 = true := by kernel_rfl
theorem sk_row7 : skRow 7 = true := by kernel_rfl
theorem sk_row8 : skRow 8 = true := by kernel_rfl
theorem sk_row9 : skRow 9 = true := by kernel_rfl
theorem sk_row10 : skRow 10 = true := by kernel_rfl
theorem sk_row11 : skRow 11 = true := by kernel_rfl
theorem sk_row12 : skRow 12 = true := by kernel_rfl
theorem sk_row13 : skRow 13 = true := by kernel_rfl
theorem sk_row14 : skRow 14 = true := by kernel_rfl
theorem sk_row15 : skRow 15 = true := by kernel_rfl
theorem sk_rows : ∀ (j : Nat), j < 16 → skRow j = true
  | 0, _ => sk_row0
  | 1, _ => sk_row1
  | 2, _ => sk_row2
  | 3, _ => sk_row3
  | 4, _ => sk_row4
  | 5, _ => sk_row5
  | 6, _ => sk_row6
  | 7, _ => sk_row7
  | 8, _ => sk_row8
  | 9, _ => sk_row9
  | 10, _ => sk_row10
  | 11, _ => sk_row11
  | 12, _ => sk_row12
  | 13, _ => sk_row13
  | 14, _ => sk_row14
  | 15, _ => sk_row15
  | j + 16, h => absurd h (by omega)
theorem sk_at {m : Int} (h0 : 0 ≤ m) (h1 : m ≤ 255) : skOk m = true := by
  have := List.all_eq_true.1 (sk_rows (m.toNat / 16) (by omega)) (m.toNat % 16) (List.mem_range.2 (by omega))
  rwa [show ((16 * (m.toNat / 16) + m.toNat % 16 : Nat) : Int) = m by omega] at this
def Stp.skip (s : Stp) : Stp := ⟨false, skA s.m, s.wh, s.cu, s.f1, s.f2⟩
def Stp.show (s : Stp) : Stp := ⟨false, skB s.m, s.wh, s.cu, s.f1, s.f2⟩
theorem skOk_parts {m : Int} (h0 : skOk m = true) : (0 ≤ skA m ∧ skA m ≤ 255 ∧ 0 ≤ skB m ∧ skB m ≤ 255) ∧ hasBit (4 * skA m) 4 = hasBit (4 * skB m) 4 ∧ hasBit (4 * skA m) 24 = hasBit (4 * skB m) 24 ∧ hasBit (4 * skA m) 16 = hasBit (4 * skB m) 16 ∧ hasBit (4 * skA m) 64 = hasBit (4 * skB m) 64 ∧
    hasBit (4 * skA m) 32 = hasBit (4 * skB m) 32 ∧ hasBit (4 * skA m) 128 = hasBit (4 * skB m) 128 ∧ hasBit (4 * skA m) 256 = true ∧ hasBit (4 * skB m) 256 = true ∧ hasBit (4 * skA m) 512 = true ∧ (!hasBit (4 * skB m) 512) = true := by
  unfold skOk at h0
  obtain ⟨h0, s2⟩ := Bool.and_eq_true_iff.1 h0
  obtain ⟨h0, s1⟩ := Bool.and_eq_true_iff.1 h0
  obtain ⟨h0, c2⟩ := Bool.and_eq_true_iff.1 h0
  obtain ⟨h0, c1⟩ := Bool.and_eq_true_iff.1 h0
  obtain ⟨h0, b128⟩ := Bool.and_eq_true_iff.1 h0
  obtain ⟨h0, b32⟩ := Bool.and_eq_true_iff.1 h0
  obtain ⟨h0, b64⟩ := Bool.and_eq_true_iff.1 h0
  obtain ⟨h0, b16⟩ := Bool.and_eq_true_iff.1 h0
  obtain ⟨h0, b24⟩ := Bool.and_eq_true_iff.1 h0
  obtain ⟨h0, b4⟩ := Bool.and_eq_true_iff.1 h0
  exact ⟨of_decide_eq_true h0, eq_of_beq b4, eq_of_beq b24, eq_of_beq b16, eq_of_beq b64, eq_of_beq b32, eq_of_beq b128, c1, c2, s1, s2⟩
theorem skip_mode (s : Stp) : s.skip.cfg.mode = 4 * skA s.m := by show (if (false : Bool) = true then (1012 : Int) else 4 * skA s.m) = _; exact if_neg (by decide)
theorem show_mode (s : Stp) : s.show.cfg.mode = 4 * skB s.m := by show (if (false : Bool) = true then (1012 : Int) else 4 * skB s.m) = _; exact if_neg (by decide)
theorem not_true {b : Bool} (h : (!b) = true) : b = false := by cases b with | false => rfl | true => cases h
theorem cfg_id {a b : Stp} {d cu : Bool} {f1 f2 : ByteArray} (h1 : a.d = d) (h1' : b.d = d) (h2 : a.cu = cu) (h2' : b.cu = cu) (h3 : a.f1 = f1) (h3' : b.f1 = f1) (h4 : a.f2 = f2) (h4' : b.f2 = f2) : a.cfg.I = b.cfg.I := by
  unfold Stp.cfg; simp only [h1, h1', h2, h2', h3, h3', h4, h4']
theorem cfg_white {a b : Stp} {d : Bool} {wh : Int} (h1 : a.d = d) (h1' : b.d = d) (h2 : a.wh = wh) (h2' : b.wh = wh) : a.cfg.white = b.cfg.white := by
  unfold Stp.cfg; simp only [h1, h1', h2, h2']
theorem Stp.skips {s : Stp} (h : s.Ok) : s.skip.Ok ∧ s.show.Ok ∧ Skips s.skip.cfg s.show.cfg := by
  obtain ⟨⟨a1, a2, a3, a4⟩, b4, b24, b16, b64, b32, b128, c1, c2, s1, s2⟩ := skOk_parts (sk_at h.m0 h.m1)
  rw [← skip_mode, ← show_mode] at b4 b24 b16 b64 b32 b128
  rw [← skip_mode] at c1 s1
  rw [← show_mode] at c2 s2
  exact ⟨⟨a1, a2, h.w0, h.w1⟩, ⟨a3, a4, h.w0, h.w1⟩, ⟨cfg_id (d := false) (cu := s.cu) (f1 := s.f1) (f2 := s.f2) rfl rfl rfl rfl rfl rfl rfl rfl, cfg_white (d := false) (wh := s.wh) rfl rfl rfl rfl, b4, b24, b16, b64, b32, b128, c1, c2, s1, not_true s2⟩⟩
theorem skip_stores {w : World} {p q : Nat} {b1 b2 : Bool} {m wh : Int} {s1 s2 : ByteArray} (h : p ≠ q) (hp : w.heap[p]? = some (.cells #[.bool b1, .int .i64 m, .int .u64 wh, .bool b2, .string s1, .string s2] 25 (0, 0))) (hq : w.heap[q]? = some (.cells #[.bool b1, .int .i64 m, .int .u64 wh, .bool b2, .string s1, .string s2] 25 (0, 0)))
    (x y : Int) {W : World} (hW : (w.setCell ⟨p, 1, none⟩ (.int .i64 x)).setCell ⟨q, 1, none⟩ (.int .i64 y) = W) :
    W.heap[p]? = some (.cells #[.bool b1, .int .i64 x, .int .u64 wh, .bool b2, .string s1, .string s2] 25 (0, 0)) ∧ W.heap[q]? = some (.cells #[.bool b1, .int .i64 y, .int .u64 wh, .bool b2, .string s1, .string s2] 25 (0, 0)) := by
  subst hW
  have h1 := Go.Lib.heap_setCell_same (i := 1) hp (.int .i64 x)
  have h2 : (w.setCell ⟨p, 1, none⟩ (.int .i64 x)).heap[q]? = some (.cells #[.bool b1, .int .i64 m, .int .u64 wh, .bool b2, .string s1, .string s2] 25 (0, 0)) := by
    rw [Below.heap_setCell _ _ _ _ (by exact Ne.symm h)]; exact hq
  have h3 := Go.Lib.heap_setCell_same (i := 1) h2 (.int .i64 y)
  refine ⟨?_, h3⟩
  rw [Below.heap_setCell _ _ _ _ (by exact h)]; exact h1
theorem tok_box {w4 : World} {q : Nat} (h : w4.heap[q]? = some (Obj.cells #[.int .i64 0, .string (⟨#[]⟩ : ByteArray), .int .i64 0, .int .i64 0, .int .i64 0, .int .i64 0, .int .i64 0, .int .i64 0] 37 (0, 0))) (tok : Int) (t : ByteArray) (a b c d e f : Int) {w5 : World}
    (hw : ((((((((w4.setCell ⟨q, 0, none⟩ (.int .i64 tok)).setCell ⟨q, 1, none⟩ (.string t)).setCell ⟨q, 2, none⟩ (.int .i64 a)).setCell ⟨q, 3, none⟩ (.int .i64 b)).setCell ⟨q, 4, none⟩ (.int .i64 c)).setCell ⟨q, 5, none⟩ (.int .i64 d)).setCell ⟨q, 6, none⟩ (.int .i64 e)).setCell ⟨q, 7, none⟩ (.int .i64 f)) = w5) :
    w5.heap[q]? = some (Obj.cells (tcells tok t a b c d e f) 37 (0, 0)) ∧ Below q w4 w5 ∧ w5.heap.size = w4.heap.size := by
  have h0 := Go.Lib.heap_setCell_same (i := 0) h (.int .i64 tok)
  obtain ⟨r1, -, r3, r4⟩ := tok_stores (tok := tok) t a b c d e f (w4 := w4.setCell ⟨q, 0, none⟩ (.int .i64 tok)) (q := q) h0 hw
  exact ⟨r1, ((Below.refl q w4).setCell (p := ⟨q, 0, none⟩) (Nat.le_refl q) _).trans r3, by rw [r4, World.size_setCell]⟩
theorem two_objs (w : World) (o : Obj) : ((w.alloc o).alloc o).drew.heap[w.heap.size]? = some o ∧ ((w.alloc o).alloc o).drew.heap[w.heap.size + 1]? = some o ∧ Below w.heap.size w ((w.alloc o).alloc o).drew := by
  have s1 : (w.alloc o).heap.size = w.heap.size + 1 := World.size_alloc _ _
  refine ⟨?_, ?_, (((Below.refl _ w).alloc (Nat.le_refl _) _).alloc (by omega) _).drew⟩
  · show ((w.alloc o).alloc o).heap[w.heap.size]? = _
    rw [Below.heap_alloc _ _ _ (by omega)]; exact heap_alloc_new w o
  · show ((w.alloc o).alloc o).heap[w.heap.size + 1]? = _
    rw [← s1]; exact heap_alloc_new _ o
theorem tokens_skip (w0 w : World) (a : Option Addr) (k : Nat) (src : List UInt8) (s : Stp) (h : s.skip.Ok) (hb : Below w0.heap.size w0 w) (hs : SrcAt w0.heap.size w0 a k src) (hl : src.length ≤ 10000000000) (hv : Vars w0.heap.size w0) :
    Calls Tryd.prog 24 #[.slice a src.length k, .slice none 0 0, .agg #[.bool false, .int .i64 (skA s.m), .int .u64 s.wh, .bool s.cu, .string s.f1, .string s.f2]] w (TokPost w s.skip.cfg src) :=
  tokens_at w0 w a none k 0 src [] s.skip h hb hs (SzAt.nil _ _) hl hv
theorem tokens_show (w0 w : World) (a : Option Addr) (k : Nat) (src : List UInt8) (s : Stp) (h : s.show.Ok) (hb : Below w0.heap.size w0 w) (hs : SrcAt w0.heap.size w0 a k src) (hl : src.length ≤ 10000000000) (hv : Vars w0.heap.size w0) :
    Calls Tryd.prog 24 #[.slice a src.length k, .slice none 0 0, .agg #[.bool false, .int .i64 (skB s.m), .int .u64 s.wh, .bool s.cu, .string s.f1, .string s.f2]] w (TokPost w s.show.cfg src) :=
  tokens_at w0 w a none k 0 src [] s.show h hb hs (SzAt.nil _ _) hl hv
def notTok (k : Int) (t : K.S37) : Bool := decide (t.f0 ≠ k)
theorem filter_tok (k : Int) (src : List UInt8) (l : List Got) : (l.filter fun g => decide (g.tok ≠ k)).map (tokOf src) = (l.map (tokOf src)).filter (notTok k) := by
  rw [List.filter_map]; rfl
/-- The loop's filter, one round. -/
theorem filter_step {k : Int} {ys : List K.S37} {j : Nat} (h : j < ys.length) : (ys.take (j + 1)).filter (notTok k) = (ys.take j).filter (notTok k) ++ (if (K.rd_T37 ys (j : Int)).f0 = k then [] else [K.rd_T37 ys (j : Int)]) := by
  have e : K.rd_T37 ys (j : Int) = ys[j] := by
    unfold K.rd_T37; simp [List.getD_eq_getElem?_getD, List.getElem?_eq_getElem h]
  rw [List.take_succ_eq_append_getElem h, List.filter_append, e]
  congr 1
  by_cases hk : ys[j].f0 = k
  · rw [if_pos hk]; simp [notTok, hk]
  · rw [if_neg hk]; simp [notTok, hk]
set_option maxRecDepth 100000 in
set_option maxHeartbeats 1600000 in
theorem fnskip (w : World) (a : Option Addr) (k : Nat) (src : List UInt8) (s : Stp) (hs : SrcAt w.heap.size w a k src) (hv : Vars w.heap.size w) :
    Calls Tryd.prog 13 #[.slice a src.length k, .agg #[.bool s.d, .int .i64 s.m, .int .u64 s.wh, .bool s.cu, .string s.f1, .string s.f2]] w fun e w' => e = .returned (.bool true) ∧ Below w.heap.size w w' := by
  by_cases hbig : (2147483647 : Int) < src.length
  · clear hs hv
    go_enter Tryd.func13, Tryd.ntmps13
    go_wp2_with (fail)
    go_ret
    exact ⟨rfl, boxed w s⟩
  by_cases hf : s.f1.size ≤ 2147483647 ∧ s.f2.size ≤ 2147483647
  · have HH := Lib.hid (And.intro hs (And.intro hv (And.intro hf hbig)))
    clear hs hv hf
    go_enter Tryd.func13, Tryd.ntmps13
    go_upto_region 3 with (first
      | (go_at_call 20; refine (fits_yes _ s HH.out.2.2.1.1 HH.out.2.2.1.2).mono ?_; rintro e w1 ⟨rfl, hb1⟩))
    have hB1 : Below w.heap.size w w1 := (boxed w s).trans (hb1.mono (Nat.le_of_lt (boxed_lt _ _)))
    have hn1 := (hb1.block _ (boxed_lt _ _)).trans (heap_alloc_new w _)
    obtain ⟨c0, c1, c2, c3, c4, c5⟩ := set_loads hn1
    have HB := Lib.hid (And.intro hB1 hn1)
    clear hb1 hB1 hn1
    obtain ⟨F, hF⟩ : ∃ F, s.fit = F := ⟨_, rfl⟩
    have HF := Lib.hid hF
    clear hF
    go_upto_region 4 with (first
      | (go_at_call 21; refine (fit_spec _ s (by have := HH.out.2.2.1.1; omega) (by have := HH.out.2.2.1.2; omega)).mono ?_; rw [HF.out]; rintro e w2 ⟨rfl, hb2⟩; have hn2 := (hb2.block _ (lt_of_heap HB.out.2)).trans HB.out.2; have f2 := frozen_of_heap hn2; have g := set_loads hn2; obtain ⟨g0, g1, g2, g3, g4, g5⟩ := g; have HB2 := Lib.hid (And.intro (HB.out.1.trans (hb2.mono HB.out.1.size)) hn2); clear hb2 c0 c1 c2 c3 c4 c5 hn2))
    obtain ⟨w3, hw3⟩ : ∃ W, (((((w2.setCell ⟨w.heap.size, 0, none⟩ (.bool F.d)).setCell ⟨w.heap.size, 1, none⟩ (.int .i64 F.m)).setCell ⟨w.heap.size, 2, none⟩ (.int .u64 F.wh)).setCell ⟨w.heap.size, 3, none⟩ (.bool F.cu)).setCell ⟨w.heap.size, 4, none⟩ (.string F.f1)).setCell ⟨w.heap.size, 5, none⟩ (.string F.f2) = W := ⟨_, rfl⟩
    rw [hw3]
    obtain ⟨n3, b3, z3⟩ := set_stores HB2.out.2 _ _ _ _ _ _ hw3
    clear hw3 f2 g0 g1 g2 g3 g4 g5
    obtain ⟨c0, c1, c2, c3, c4, c5⟩ := set_loads n3
    have f3 := frozen_of_heap n3
    have HB3 := Lib.hid (And.intro (HB2.out.1.trans b3) n3)
    clear n3 b3 z3
    go_upto_region 6 with (fail)
    obtain ⟨w4, hw4⟩ : ∃ W, (w3.setCell ⟨w.heap.size, 0, none⟩ (.bool false)).setCell ⟨w.heap.size, 1, none⟩ (.int .i64 (bits .or .i64 F.m 64)) = W := ⟨_, rfl⟩
    rw [hw4]
    have n4 := Go.Lib.heap_setCell_same (i := 1) (Go.Lib.heap_setCell_same (i := 0) HB3.out.2 (.bool false)) (.int .i64 (bits .or .i64 F.m 64))
    rw [hw4] at n4
    have b4 : Below w.heap.size w w4 := by rw [← hw4]; exact (HB3.out.1.setCell (by exact Nat.le_refl _) _).setCell (by exact Nat.le_refl _) _
    clear hw4 c0 c1 c2 c3 c4 c5 f3
    obtain ⟨c0, c1, c2, c3, c4, c5⟩ := set_loads (b1 := false) (m := bits .or .i64 F.m 64) (wh := F.wh) (b2 := F.cu) (s1 := F.f1) (s2 := F.f2) n4
    have HB4 := Lib.hid (And.intro b4 n4)
    clear b4 n4
    go_cut [5, 6] (fun t5 t6 wr => ∃ p q : Nat, p ≠ q ∧ t5 = .pointer (some ⟨p, 0, none⟩) ∧ t6 = .pointer (some ⟨q, 0, none⟩) ∧ w.heap.size < p ∧ w.heap.size < q ∧ wr.heap[p]? = some (.cells #[.bool false, .int .i64 (bits .or .i64 F.m 64), .int .u64 F.wh, .bool F.cu, .string F.f1, .string F.f2] 25 (0, 0)) ∧
      wr.heap[q]? = some (.cells #[.bool false, .int .i64 (bits .or .i64 F.m 64), .int .u64 F.wh, .bool F.cu, .string F.f1, .string F.f2] 25 (0, 0)) ∧ Below w.heap.size w wr)
    case first =>
      have hlt : w.heap.size < w4.heap.size := lt_of_heap HB4.out.2
      have hlt2 : w.heap.size < w4.heap.size + 1 := by omega
      have hne : w.heap.size ≠ w4.heap.size := by omega
      have hne2 : w.heap.size ≠ w4.heap.size + 1 := by omega
      go_region
      · go_wp2_with (fail)
        go_meet
        obtain ⟨m1, m2, m3⟩ := two_objs w4 (Obj.cells #[.bool false, .int .i64 (bits .or .i64 F.m 64), .int .u64 F.wh, .bool F.cu, .string F.f1, .string F.f2] 25)
        exact ⟨_, _, by omega, rfl, rfl, hlt, by omega, m1, m2, HB4.out.1.trans (m3.mono (Nat.le_of_lt hlt))⟩
      · go_wp2_with (fail)
        go_meet
        obtain ⟨m1, m2, m3⟩ := two_objs w4 (Obj.cells #[.bool false, .int .i64 (bits .or .i64 F.m 64), .int .u64 F.wh, .bool F.cu, .string F.f1, .string F.f2] 25)
        exact ⟨_, _, by omega, rfl, rfl, by omega, hlt, m2, m1, HB4.out.1.trans (m3.mono (Nat.le_of_lt hlt))⟩
    case rest =>
      clear c0 c1 c2 c3 c4 c5
      obtain ⟨p, q, hpq, rfl, rfl, hp, hq, np, nq, hB⟩ := hcut
      have HC := Lib.hid (And.intro hpq (And.intro hp (And.intro hq (And.intro np (And.intro nq hB)))))
      have hqp := Ne.symm hpq
      clear hp hq
      obtain ⟨c0, c1, c2, c3, c4, c5⟩ := set_loads np
      obtain ⟨d0, d1, d2, d3, d4, d5⟩ := set_loads nq
      have fp := frozen_of_heap np
      have fq := frozen_of_heap nq
      clear np nq hB
      go_upto_region 9 with (fail)
      obtain ⟨wA, hwA⟩ : ∃ W, (wc.setCell ⟨p, 1, none⟩ (.int .i64 (skA F.m))).setCell ⟨q, 1, none⟩ (.int .i64 (skB F.m)) = W := ⟨_, rfl⟩
      have HWA := Lib.hid hwA
      unfold skA skB at hwA
      rw [hwA]
      clear hwA c0 c1 c2 c3 c4 c5 d0 d1 d2 d3 d4 d5 fp fq
      have hnA := skip_stores HC.out.1 HC.out.2.2.2.1 HC.out.2.2.2.2.1 (skA F.m) (skB F.m) HWA.out
      have hbA : Below w.heap.size w wA := by rw [← HWA.out]; exact (HC.out.2.2.2.2.2.setCell (by exact Nat.le_of_lt HC.out.2.1) _).setCell (by exact Nat.le_of_lt HC.out.2.2.1) _
      obtain ⟨c0, c1, c2, c3, c4, c5⟩ := set_loads hnA.1
      have HA := Lib.hid (And.intro hbA hnA)
      clear hbA hnA
      have hok : F.Ok := by rw [← HF.out]; exact s.fit_ok
      obtain ⟨k1, k2, k3⟩ := Stp.skips hok
      have HK := Lib.hid (And.intro k1 (And.intro k2 k3))
      clear hok k1 k2 k3
      obtain ⟨xs, hxs⟩ : ∃ xs, (toks F.skip.cfg src (startL src)).map (tokOf src) = xs := ⟨_, rfl⟩
      obtain ⟨ys, hys⟩ : ∃ ys, (toks F.show.cfg src (startL src)).map (tokOf src) = ys := ⟨_, rfl⟩
      obtain ⟨e1, he1⟩ : ∃ e, errNum F.skip.cfg src = e := ⟨_, rfl⟩
      obtain ⟨e2, he2⟩ : ∃ e, errNum F.show.cfg src = e := ⟨_, rfl⟩
      have hxy : xs = ys.filter (notTok (-8)) := by
        rw [← hxs, ← hys, ctoks_tok, ctoks_tok, skip_toks HK.out.2.2, filter_tok]
      have hsm := toks_same F.skip.cfg src (by have := HH.out.2.2.2; omega)
      rw [hxs] at hsm
      have hyl : ys.length ≤ 2147483648 := by
        rw [← hys, List.length_map]
        have h1 := toks_len F.show.cfg src (startL src)
        have h2 := startL_le src
        have := HH.out.2.2.2
        omega
      have HX := Lib.hid (And.intro hxs (And.intro hys (And.intro he1 (And.intro he2 (And.intro hxy (And.intro hsm hyl))))))
      clear hxs hys he1 he2 hxy hsm hyl
      go_upto_region 10 with (first
        | (go_at_call 24; refine (tokens_skip w _ a k src F HK.out.1 HA.out.1 HH.out.1 (by have := HH.out.2.2.2; omega) HH.out.2.1).mono ?_; unfold TokPost; rw [HX.out.1, HX.out.2.2.1]; rintro e w5 ⟨A, c, rfl, hc, hC, hb5⟩; have HB5 := Lib.hid (And.intro (HA.out.1.trans (hb5.mono HA.out.1.size)) (And.intro ((hb5.block _ (lt_of_heap HA.out.2.2)).trans HA.out.2.2) (And.intro hc hC))); clear hb5 hC hc c0 c1 c2 c3 c4 c5))
      obtain ⟨c0, c1, c2, c3, c4, c5⟩ := set_loads HB5.out.2.1
      go_upto_region 12 with (first
        | (go_at_call 24; refine (tokens_show w _ a k src F HK.out.2.1 HB5.out.1 HH.out.1 (by have := HH.out.2.2.2; omega) HH.out.2.1).mono ?_; unfold TokPost; rw [HX.out.2.1, HX.out.2.2.2.1]; rintro e w6 ⟨A6, c6, rfl, hc6, hC6, hb6⟩; have HB6 := Lib.hid (And.intro (HB5.out.1.trans (hb6.mono HB5.out.1.size)) (And.intro (Kd.C_below HB5.out.2.2.2 hb6) (And.intro hc6 hC6))); clear hb6 hC6 hc6 c0 c1 c2 c3 c4 c5))
      go_wp2_with (fail)
      go_loopg [13, 57] ys.length (fun kk v i wr => ∃ j : Nat, j + kk = ys.length ∧ i = .int .i64 (j : Nat) ∧ Kd.R K.k37 37 wr w6.heap.size (fun q => w6.heap.size ≤ q) v ((ys.take j).filter (notTok (-8))) ∧ Below w6.heap.size w6 wr)
      case atStart => exact ⟨0, by omega, rfl, Kd.R_nil _ _ _ _ _, Below.refl _ _⟩
      case round =>
        obtain ⟨j, hj, rfl, hR, hb⟩ := hrel
        have HL := Lib.hid (And.intro hR hb)
        clear hR hb
        by_cases hlt : j < ys.length
        · have HLT := Lib.hid hlt
          have hjb : (j : Int) ≤ 2147483648 := by have := HX.out.2.2.2.2.2.2; omega
          obtain ⟨ad, e, -⟩ := K.at_T37 HB6.out.2.2.2 (j : Int) (by omega) (by omega)
          cases e
          have hst := filter_step (k := -8) hlt
          have hC := Kd.C_below HB6.out.2.2.2 HL.out.2
          obtain ⟨T, hT⟩ : ∃ T, K.rd_T37 ys (j : Int) = T := ⟨_, rfl⟩
          rw [hT] at hst
          obtain ⟨t0, t1, ⟨t2, t3, t4⟩, ⟨t5, t6, t7⟩⟩ := T
          have HS := Lib.hid (And.intro hst (And.intro hT hC))
          clear hst hT hC
          obtain ⟨ad', e, x0, x1, x2, x3, x4, x5, x6, x7⟩ := K.at_T37 HS.out.2.2 (j : Int) (by omega) (by omega)
          cases e
          rw [HS.out.2.1] at x0 x1 x2 x3 x4 x5 x6 x7
          simp only [Int.toNat_natCast] at x0 x1 x2 x3 x4 x5 x6 x7
          go_upto_region 15 with (first
            | ((with_reducible refine gate_dst (N := 15) rfl ?_); refine box_event ?hg (N := 15) ?hd (cs := #[.int .i64 0, .string (⟨#[]⟩ : ByteArray), .int .i64 0, .int .i64 0, .int .i64 0, .int .i64 0, .int .i64 0, .int .i64 0]) (t := 37) ?hr ?_; (case hd => rfl); (case hg => rfl); (case hr => first | (go_simp; done) | (go_simp; rfl)); intro gb hg wb hbox hbb; clear x0 x1 x2 x3 x4 x5 x6 x7; have HBX := Lib.hid (And.intro hg (And.intro hbox hbb)); have fb := frozen_of_heap hbox; have z0 := cell_of_heap (j := 0) hbox; have z1 := cell_of_heap (j := 1) hbox; have z2 := cell_of_heap (j := 2) hbox; have z3 := cell_of_heap (j := 3) hbox; have z4 := cell_of_heap (j := 4) hbox; have z5 := cell_of_heap (j := 5) hbox; have z6 := cell_of_heap (j := 6) hbox; have z7 := cell_of_heap (j := 7) hbox; simp at z0 z1 z2 z3 z4 z5 z6 z7; clear hg hbox hbb))
          obtain ⟨wq, hwq⟩ : ∃ W, ((((((((wb.setCell ⟨gb, 0, none⟩ (.int .i64 t0)).setCell ⟨gb, 1, none⟩ (.string t1)).setCell ⟨gb, 2, none⟩ (.int .i64 t2)).setCell ⟨gb, 3, none⟩ (.int .i64 t3)).setCell ⟨gb, 4, none⟩ (.int .i64 t4)).setCell ⟨gb, 5, none⟩ (.int .i64 t5)).setCell ⟨gb, 6, none⟩ (.int .i64 t6)).setCell ⟨gb, 7, none⟩ (.int .i64 t7)) = W := ⟨_, rfl⟩
          rw [hwq]
          obtain ⟨q5, b5, s5⟩ := tok_box HBX.out.2.1 t0 t1 t2 t3 t4 t5 t6 t7 hwq
          have hbq : Below wr.heap.size wr wq := HBX.out.2.2.trans (b5.mono (by rw [HBX.out.1]; exact Nat.le_refl _))
          have hR5 := Kd.R_below HL.out.1 hbq
          have hB5 : Below w6.heap.size w6 wq := HL.out.2.trans (hbq.mono HL.out.2.size)
          clear hwq fb z0 z1 z2 z3 z4 z5 z6 z7
          have z0 : wq.cell? ⟨gb, 0, none⟩ = some (.int .i64 t0) := (cell_of_heap q5 0).trans rfl
          have z1 : wq.cell? ⟨gb, 1, none⟩ = some (.string t1) := (cell_of_heap q5 1).trans rfl
          have z2 : wq.cell? ⟨gb, 2, none⟩ = some (.int .i64 t2) := (cell_of_heap q5 2).trans rfl
          have z3 : wq.cell? ⟨gb, 3, none⟩ = some (.int .i64 t3) := (cell_of_heap q5 3).trans rfl
          have z4 : wq.cell? ⟨gb, 4, none⟩ = some (.int .i64 t4) := (cell_of_heap q5 4).trans rfl
          have z5 : wq.cell? ⟨gb, 5, none⟩ = some (.int .i64 t5) := (cell_of_heap q5 5).trans rfl
          have z6 : wq.cell? ⟨gb, 6, none⟩ = some (.int .i64 t6) := (cell_of_heap q5 6).trans rfl
          have z7 : wq.cell? ⟨gb, 7, none⟩ = some (.int .i64 t7) := (cell_of_heap q5 7).trans rfl
          have HQ := Lib.hid (And.intro hR5 hB5)
          clear q5 b5 s5 hbq hR5 hB5
          by_cases h8 : t0 = -8
          · have hst := HS.out.1
            rw [if_pos h8, List.append_nil] at hst
            have HST := Lib.hid hst
            have hb8 : (t0 != (-8 : Int)) = false := bne_eq_false_iff_eq.2 h8
            have H8 := Lib.hid h8
            clear hst h8
            go_wp2_with (fail)
            go_roundg (ys.length - (j + 1))
            case measure => have := HLT.out; omega
            case rel => exact ⟨j + 1, Nat.add_sub_of_le HLT.out, by go_num, by rw [HST.out]; exact HQ.out.1, HQ.out.2⟩
          · have hst := HS.out.1
            rw [if_neg h8] at hst
            have HST := Lib.hid hst
            have hb8 : (t0 != (-8 : Int)) = true := bne_iff_ne.2 h8
            have H8 := Lib.hid h8
            clear hst h8
            go_wp2_with (first | ((with_reducible refine gate_builtin (b := .append) (xs := #[.tmp 64, .tmp 66]) rfl ?_); at_builtin; refine Kd.R_append K.k37 (w0 := w6) w6.heap.size rfl (.tmp 64) (.tmp 66) 28 37 (.agg #[.int .i64 0, .string ⟨#[]⟩, .int .i64 0, .int .i64 0, .int .i64 0, .int .i64 0, .int .i64 0, .int .i64 0]) 72 rfl Tryd.underlying28 info37 rfl (by decide) (by omega) u13 ((ys.take j).filter (notTok (-8))) ⟨t0, t1, ⟨t2, t3, t4⟩, ⟨t5, t6, t7⟩⟩ [.int .i64 t0, .string t1, .int .i64 t2, .int .i64 t3, .int .i64 t4, .int .i64 t5, .int .i64 t6, .int .i64 t7] (fun k_ => (w6.heap.size ≤ k_)) (fun _ => False) rfl rfl ?aP (fun _ hk => hk.elim) ?aF ?aO ?aB ?aS ?aL ?_; (case aP => exact K.k37_mkM _ _ _ ⟨t0, t1, ⟨t2, t3, t4⟩, ⟨t5, t6, t7⟩⟩); (case aF => intro k_ hk; have := HQ.out.2.size; omega); (case aO => exact HQ.out.1); (case aB => exact HQ.out.2); (case aS => have := HQ.out.2.size; omega); (case aL => have h1 := HX.out.2.2.2.2.2.2; have h2 := List.length_filter_le (notTok (-8)) (ys.take j); have h3 := List.length_take_le j ys; omega); intro v1 wz ho hb hg hat; have HAP := Lib.hid (And.intro ho hb); clear ho hb hg hat))
            go_roundg (ys.length - (j + 1))
            case measure => have := HLT.out; omega
            case rel => exact ⟨j + 1, Nat.add_sub_of_le HLT.out, by go_num, by rw [HST.out]; exact HAP.out.1, HAP.out.2⟩
        · obtain rfl : j = ys.length := by omega
          have hall : (ys.take ys.length).filter (notTok (-8)) = xs := by rw [List.take_length]; exact HX.out.2.2.2.2.1.symm
          have hR := HL.out.1
          rw [hall] at hR
          obtain ⟨A9, c9, e9, hc9, hC9⟩ := Kd.R_reads hR
          subst e9
          have HR9 := Lib.hid (And.intro hc9 hC9)
          clear hall hR hc9 hC9
          go_wp2_with (first
            | (go_at_call 23; refine (works_at w _ (HB6.out.1.trans (HL.out.2.mono HB6.out.1.size)) HH.out.2.1).mono ?_; rintro e w7 ⟨rfl, hb7⟩; have HB7 := Lib.hid (And.intro (HL.out.2.trans (hb7.mono HL.out.2.size)) (Kd.C_below HR9.out.2 hb7)); clear hb7)
            | (go_at_call 29; refine (same_at _ A A9 c c9 xs xs (Kd.C_below HB6.out.2.1 HB7.out.1) HB5.out.2.2.1 HB7.out.2 HR9.out.1 _ HX.out.2.2.2.2.2.1).mono ?_; rintro e w8 ⟨rfl, hb8⟩; have HB8 := Lib.hid (HB7.out.1.trans (hb8.mono HB7.out.1.size)); clear hb8))
          go_ret
          exact ⟨rfl, HB6.out.1.trans (HB8.out.mono HB6.out.1.size)⟩
  · have HH := Lib.hid hf
    clear hs hv hf
    go_enter Tryd.func13, Tryd.ntmps13
    go_wp2_with (first
      | (go_at_call 20; refine (fits_no _ s HH.out).mono ?_; rintro e w1 ⟨rfl, hb1⟩))
    go_ret
    exact ⟨rfl, (boxed w s).trans (hb1.mono (Nat.le_of_lt (boxed_lt _ _)))⟩
end Go.Proofs.YtmfihkgbfoapaaaDoor
