/- laws.FnSingle, walked. -/
import Derived.Test.YtmfihkgbfoapaaaDoorV1
import Derived.Test.YtmfihkgbfoapaaaDoorU2
namespace Go.Proofs.YtmfihkgbfoapaaaDoor
set_option linter.unusedVariables false
set_option linter.unusedSimpArgs false
open Go Go.RowKit Go.Lib Go.BigFrame Go.Proofs.YtmfihkgbfoapaaaDoorW.PrintWords

def bare : Stp := ⟨false, 0, 0, false, ⟨#[]⟩, ⟨#[]⟩⟩
theorem bare_ok : bare.Ok := by constructor <;> (first | decide | (simp [bare]; done))
theorem hasBit_none (b : Int) : hasBit 0 b = false := by
  unfold hasBit bits
  simp
  rfl
theorem bare_mode : bare.cfg.mode = 0 := rfl
theorem bare_white : bare.cfg.white = 0 := rfl
theorem bare_one (src : List UInt8) (c : Item) (l : List Item) : oneAt bare.cfg src (c :: l) = One.self (c :: l) := by
  unfold oneAt oneId oneNum oneStr oneDot oneChr oneCom oneRaw
  simp only [bare_mode, hasBit_none]
  have h : ¬ chOf (c :: l) = -1 := by show ¬ ((c.r : Nat) : Int) = -1; omega
  rw [if_neg h]
  simp
theorem bare_end (src : List UInt8) : oneAt bare.cfg src [] = ⟨-1, [], 0, false⟩ := by
  unfold oneAt
  rw [chOf_nil, if_neg (by rw [bare.cfg.I.e0]; simp), if_neg (by decide), if_pos rfl]
theorem bare_more (l : List Item) : more (isWh bare.cfg.white) l = l := by
  cases l with
  | nil => rfl
  | cons c l =>
    unfold more
    rw [List.dropWhile_cons, if_neg]
    rw [bare_white]
    unfold isWh
    simp
theorem bare_scan (src : List UInt8) (c : Item) (l : List Item) : scanGo bare.cfg src (c :: l) = ⟨(c.r : Int), c :: l, l, 0⟩ := by
  rw [scanGo, dif_neg (by rw [bare_more, bare_one]; rintro ⟨h, -⟩; cases h), bare_more, bare_one]
  rfl
theorem bare_scan0 (src : List UInt8) : scanGo bare.cfg src [] = ⟨-1, [], [], 0⟩ := by
  rw [scanGo, dif_neg (by rw [bare_more, bare_end]; rintro ⟨h, -⟩; cases h), bare_more, bare_end]
theorem bare_toks (src : List UInt8) (l : List Item) : (toks bare.cfg src l).length = l.length + 1 ∧ errsOf (toks bare.cfg src l) = 0 ∧
    ((toks bare.cfg src l).map (tokOf src)).map (fun t => (⟨t.f0, t.f3⟩ : K.S48)) = runesOf src l := by
  induction l with
  | nil =>
    rw [toks, dif_neg (by rw [bare_scan0]; simp), bare_scan0]
    exact ⟨rfl, rfl, rfl⟩
  | cons c l ih =>
    rw [toks, dif_pos (by rw [bare_scan]; exact ⟨by show ((c.r : Nat) : Int) ≠ -1; omega, by simp⟩), bare_scan]
    refine ⟨by simp [ih.1], ?_, ?_⟩
    · have := ih.2.1
      unfold errsOf at this ⊢
      simpa using this
    · rw [List.map_cons, List.map_cons, ih.2.2]
      rfl
theorem sure_all {src : List UInt8} (h : sureL (items src) = true) : lexErrs (items src) = 0 ∧ startL src = items src := by
  have hok : ∀ c ∈ items src, okc c = true := by simpa [sureL] using h
  constructor
  · unfold lexErrs
    have : ∀ l : List Item, (∀ c ∈ l, okc c = true) → (l.map lexErr).sum = 0 := by
      intro l
      induction l with
      | nil => intro _; rfl
      | cons c l ih =>
        intro hl
        have h1 := hl c List.mem_cons_self
        rw [List.map_cons, List.sum_cons, ih fun x hx => hl x (List.mem_cons_of_mem _ hx)]
        unfold okc at h1
        simp at h1
        unfold lexErr
        simp [h1]
    exact this _ hok
  · unfold startL
    rw [if_neg]
    intro hc
    cases hi : items src with
    | nil => rw [hi] at hc; cases hc
    | cons c l =>
      rw [hi] at hc
      have := hok c (by rw [hi]; exact List.mem_cons_self)
      have hr : c.r = 65279 := by have : ((c.r : Nat) : Int) = 65279 := hc; omega
      unfold okc at this
      rw [hr] at this
      simp at this
theorem bare_err {src : List UInt8} (h : sureL (items src) = true) : errNum bare.cfg src = 0 := by
  unfold errNum
  rw [(sure_all h).1, (sure_all h).2, (bare_toks src _).2.1]
theorem rune_box {w4 : World} {q : Nat} (h : w4.heap[q]? = some (Obj.cells #[.int .i64 0, .int .i64 0, .int .i64 0, .int .i64 0] 48 (0, 0))) (a b c d : Int) {w5 : World}
    (hw : ((((w4.setCell ⟨q, 0, none⟩ (.int .i64 a)).setCell ⟨q, 1, none⟩ (.int .i64 b)).setCell ⟨q, 2, none⟩ (.int .i64 c)).setCell ⟨q, 3, none⟩ (.int .i64 d)) = w5) :
    w5.heap[q]? = some (Obj.cells #[.int .i64 a, .int .i64 b, .int .i64 c, .int .i64 d] 48 (0, 0)) ∧ Below q w4 w5 ∧ w5.heap.size = w4.heap.size := by
  have h0 := Go.Lib.heap_setCell_same (i := 0) h (.int .i64 a)
  have h1 := Go.Lib.heap_setCell_same (i := 1) h0 (.int .i64 b)
  have h2 := Go.Lib.heap_setCell_same (i := 2) h1 (.int .i64 c)
  have h3 := Go.Lib.heap_setCell_same (i := 3) h2 (.int .i64 d)
  rw [hw] at h3
  refine ⟨h3, ?_, ?_⟩
  · rw [← hw]
    exact ((((Below.refl q w4).setCell (p := ⟨q, 0, none⟩) (Nat.le_refl q) _).setCell (p := ⟨q, 1, none⟩) (Nat.le_refl q) _).setCell (p := ⟨q, 2, none⟩) (Nat.le_refl q) _).setCell (p := ⟨q, 3, none⟩) (Nat.le_refl q) _
  · rw [← hw]; simp only [World.size_setCell]
theorem rune_loads {W : World} {q : Nat} {a b c d : Int} (h : W.heap[q]? = some (Obj.cells #[.int .i64 a, .int .i64 b, .int .i64 c, .int .i64 d] 48 (0, 0))) :
    W.cell? ⟨q, 0, none⟩ = some (.int .i64 a) ∧ W.cell? ⟨q, 1, none⟩ = some (.int .i64 b) ∧ W.cell? ⟨q, 2, none⟩ = some (.int .i64 c) ∧ W.cell? ⟨q, 3, none⟩ = some (.int .i64 d) :=
  ⟨(cell_of_heap h 0).trans rfl, (cell_of_heap h 1).trans rfl, (cell_of_heap h 2).trans rfl, (cell_of_heap h 3).trans rfl⟩
set_option maxRecDepth 100000 in
set_option maxHeartbeats 1600000 in
theorem fnsingle (w : World) (a : Option Addr) (k : Nat) (src : List UInt8) (hs : SrcAt w.heap.size w a k src) (hv : Vars w.heap.size w) :
    Calls Tryd.prog 11 #[.slice a src.length k] w fun e w' => e = .returned (.bool true) ∧ Below w.heap.size w w' := by
  by_cases hbig : (2147483647 : Int) < src.length
  · clear hs hv
    go_enter Tryd.func11, Tryd.ntmps11
    go_wp2_with (fail)
    go_ret
    exact ⟨rfl, Below.refl _ _⟩
  have hl10 : src.length ≤ 10000000000 := by omega
  have HH := Lib.hid (And.intro hs (And.intro hv (And.intro hl10 hbig)))
  have hru := Lib.hid (runes_spec w a k src hs hl10)
  clear hs hv hl10
  obtain ⟨ts, hts⟩ : ∃ ts, (toks bare.cfg src (startL src)).map (tokOf src) = ts := ⟨_, rfl⟩
  obtain ⟨er, her⟩ : ∃ er, errNum bare.cfg src = er := ⟨_, rfl⟩
  have HT := Lib.hid (And.intro hts her)
  clear hts her
  go_enter Tryd.func11, Tryd.ntmps11
  go_upto_region 4 with (go_at_call 27; refine (hru.out).mono ?_; rintro e w1 (⟨hsure, rfl, hb1⟩ | ⟨hsure, A, c, rfl, hc, hC, hb1⟩))
  · have HB := Lib.hid (And.intro hsure hb1)
    clear hsure hb1
    go_wp2_with (first
      | (go_at_call 24; refine (tokens_at w _ a none k 0 src [] bare bare_ok HB.out.2 HH.out.1 (SzAt.nil _ _) HH.out.2.2.1 HH.out.2.1).mono ?_; unfold TokPost; rw [HT.out.1, HT.out.2]; rintro e w3 ⟨A, c, rfl, hc, hC, hb3⟩; have HB3 := Lib.hid (And.intro (HB.out.2.trans (hb3.mono HB.out.2.size)) (And.intro hc hC)); clear hb3 hC hc)
      | (go_at_call 23; refine (works_at w _ (HB3.out.1) HH.out.2.1).mono ?_; rintro e w7 ⟨rfl, hb7⟩))
    go_ret
    exact ⟨rfl, HB3.out.1.trans (hb7.mono HB3.out.1.size)⟩
  · have he0 := bare_err hsure
    rw [HT.out.2] at he0
    subst he0
    obtain ⟨L, hL⟩ : ∃ L, items src = L := ⟨_, rfl⟩
    have hst := (sure_all hsure).2
    have hts := HT.out.1
    rw [hst] at hts
    have hbt := bare_toks src (items src)
    rw [← List.length_map (f := tokOf src), hts] at hbt
    rw [hL] at hbt hC hc ⊢
    obtain ⟨rs, hrs⟩ : ∃ rs, runesOf src L = rs := ⟨_, rfl⟩
    have hrl := runesOf_len src L
    rw [hrs] at hbt hrl hC hc ⊢
    have hil := items_le src
    rw [hL] at hil
    have hle : rs.length = ts.length := by rw [hrl, hbt.1]
    rw [hle] at hC hc ⊢
    have hlb : (ts.length : Int) ≤ 2147483648 := by rw [hbt.1]; omega
    have HB := Lib.hid (And.intro hb1 (And.intro hc (And.intro hC (And.intro hbt.2.2 (And.intro hlb hle)))))
    clear hb1 hc hC hbt hrl hil hle hlb hts hst hL hrs hsure
    go_upto_region 9 with (first
      | (go_at_call 24; refine (tokens_at w _ a none k 0 src [] bare bare_ok HB.out.1 HH.out.1 (SzAt.nil _ _) HH.out.2.2.1 HH.out.2.1).mono ?_; unfold TokPost; rw [HT.out.1, HT.out.2]; rintro e w3 ⟨A2, c2, rfl, hc, hC, hb3⟩; have HB3 := Lib.hid (And.intro hb3 (And.intro hc hC)); clear hb3 hC hc))
    go_wp2_with (fail)
    go_loopg [39] ts.length (fun kk i wr => ∃ j : Nat, j + kk = ts.length ∧ i = .int .i64 (j : Nat) ∧ Below w3.heap.size w3 wr)
    case atStart => exact ⟨0, by omega, rfl, Below.refl _ _⟩
    case round =>
      obtain ⟨j, hj, rfl, hb⟩ := hrel
      have HL := Lib.hid hb
      have hjb : (j : Int) ≤ 2147483648 := by have := HB.out.2.2.2.2.1; omega
      by_cases hlt : j < ts.length
      · have HLT := Lib.hid hlt
        have hC1 := Kd.C_below HB.out.2.2.1 (HB3.out.1.trans (hb.mono HB3.out.1.size))
        have hC2 := Kd.C_below HB3.out.2.2 hb
        obtain ⟨ad1, e1, -⟩ := K.at_T48 HB.out.2.2.1 (j : Int) (by omega) (by omega)
        obtain ⟨ad2, e2, -⟩ := K.at_T37 HB3.out.2.2 (j : Int) (by omega) (by omega)
        cases e1
        cases e2
        obtain ⟨ad', e, x0, x1, x2, x3⟩ := K.at_T48 hC1 (j : Int) (by omega) (by omega)
        cases e
        have hread : K.rd_T48 rs (j : Int) = ⟨(K.rd_T37 ts (j : Int)).f0, (K.rd_T37 ts (j : Int)).f3⟩ := by
          unfold K.rd_T48 K.rd_T37
          rw [← HB.out.2.2.2.1]
          simp [List.getD_eq_getElem?_getD, List.getElem?_map, List.getElem?_eq_getElem hlt]
        rw [hread] at x0 x1 x2 x3
        obtain ⟨T, hT⟩ : ∃ T, K.rd_T37 ts (j : Int) = T := ⟨_, rfl⟩
        rw [hT] at x0 x1 x2 x3
        obtain ⟨t0, t1, ⟨t2, t3, t4⟩, ⟨t5, t6, t7⟩⟩ := T
        simp only [Int.toNat_natCast] at x0 x1 x2 x3
        have HTT := Lib.hid hT
        clear hread hT hC1 hC2 hb hlt
        go_upto_region 12 with (first
          | ((with_reducible refine gate_dst (N := 9) rfl ?_); refine box_event ?hg (N := 9) ?hd (cs := #[.int .i64 0, .int .i64 0, .int .i64 0, .int .i64 0]) (t := 48) ?hr ?_; (case hd => rfl); (case hg => rfl); (case hr => first | (go_simp; done) | (go_simp; rfl)); intro gb hg wb hbox hbb; clear x0 x1 x2 x3; have HBX := Lib.hid (And.intro hg (And.intro hbox hbb)); have fb := frozen_of_heap hbox; have z0 := cell_of_heap (j := 0) hbox; have z1 := cell_of_heap (j := 1) hbox; have z2 := cell_of_heap (j := 2) hbox; have z3 := cell_of_heap (j := 3) hbox; simp at z0 z1 z2 z3; clear hg hbox hbb))
        obtain ⟨wq, hwq⟩ : ∃ W, ((((wb.setCell ⟨gb, 0, none⟩ (.int .i64 t0)).setCell ⟨gb, 1, none⟩ (.int .i64 t5)).setCell ⟨gb, 2, none⟩ (.int .i64 t6)).setCell ⟨gb, 3, none⟩ (.int .i64 t7)) = W := ⟨_, rfl⟩
        rw [hwq]
        obtain ⟨q5, b5, s5⟩ := rune_box HBX.out.2.1 t0 t5 t6 t7 hwq
        have hbq : Below wr.heap.size wr wq := HBX.out.2.2.trans (b5.mono (by rw [HBX.out.1]; exact Nat.le_refl _))
        have hB5 : Below w3.heap.size w3 wq := HL.out.trans (hbq.mono HL.out.size)
        clear hwq fb z0 z1 z2 z3
        have HQ := Lib.hid (And.intro q5 hB5)
        have hC2 := Kd.C_below HB3.out.2.2 hB5
        clear q5 b5 s5 hbq hB5
        obtain ⟨ad', e, y0, y1, y2, y3, y4, y5, y6, y7⟩ := K.at_T37 hC2 (j : Int) (by omega) (by have := HLT.out; omega)
        cases e
        rw [HTT.out] at y0 y1 y2 y3 y4 y5 y6 y7
        simp only [Int.toNat_natCast] at y0 y1 y2 y3 y4 y5 y6 y7
        obtain ⟨z0, z1, z2, z3⟩ := rune_loads HQ.out.1
        have hlt := HLT.out
        clear hC2
        refine wp_region_quiet_lit (by kernel_rfl) (by kernel_rfl) ?_
        repeat (go_big_quiet_step (fail))
        all_goals (refine wpQuiet_nil ?_; intro _ hw'; obtain ⟨nq, hw''⟩ := hw'; subst hw'')
        have HQ2 := Lib.hid (show Below w3.heap.size w3 (wq.drewN nq) from ⟨HQ.out.2.os, HQ.out.2.tape, HQ.out.2.output, HQ.out.2.size, HQ.out.2.block⟩)
        clear y0 y1 y2 y3 y4 y5 y6 y7 z0 z1 z2 z3
        generalize wq.drewN nq = wz at HQ2 ⊢
        go_wp2_with (fail)
        go_roundg (ts.length - (j + 1))
        case measure => have := HLT.out; omega
        case rel => exact ⟨j + 1, Nat.add_sub_of_le HLT.out, by go_num, HQ2.out⟩
      · go_wp2_with (fail)
        go_ret
        exact ⟨rfl, HB.out.1.trans ((HB3.out.1.trans (HL.out.mono HB3.out.1.size)).mono HB.out.1.size)⟩
end Go.Proofs.YtmfihkgbfoapaaaDoor
