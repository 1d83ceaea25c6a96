/- laws.FnNUL, walked. -/
import Derived.Test.YtmfihkgbfoapaaaDoorU2
import Derived.Test.YtmfihkgbfoapaaaDoorM5
namespace Go.Proofs.YtmfihkgbfoapaaaDoor
set_option linter.unusedVariables false
set_option linter.unusedSimpArgs false
open Go Go.RowKit Go.Lib Go.BigFrame Go.Proofs.YtmfihkgbfoapaaaDoorW.PrintWords

/-- The bytes of a text with a NUL in its middle. -/
def nulText (src src2 : List UInt8) : List UInt8 := src ++ 0 :: src2
theorem inf5 : (Tryd.prog.info? 5).map (fun i => (i.zero, i.size, i.bytes)) = some (some (.int .u8 0), 1, 1) := by kernel_rfl
theorem src_C {B : Nat} {w : World} {a : Option Addr} {k : Nat} {src : List UInt8} (h : SrcAt B w a k src) : Kd.C (Kd.int .u8) w a src.length (ints src) := Kd.C_of_reads (readsInt_of.1 h.reads)
theorem ints_append (a b : List UInt8) : ints (a ++ b) = ints a ++ ints b := by simp [ints]
theorem nul_ints (src src2 : List UInt8) : ints (nulText src src2) = ints src ++ ints [0] ++ ints src2 := by unfold nulText; rw [← ints_append, ← ints_append]; simp
theorem row_nil {w : World} {base : Nat} (h : base ≤ w.heap.size) {W : World} (hq : W.heap[w.heap.size]? = some (.cells #[] 5 (0, 0))) : Kd.R (Kd.int .u8) 5 W base (fun _ => True) (.slice (some ⟨w.heap.size, 0, none⟩) 0 0) [] := by
  exact Kd.R_of_own (enc := Value.int .u8) (h1 := fun _ => rfl) ⟨rfl, .inr ⟨w.heap.size, 0, #[], rfl, h, hq, Nat.le_refl _, Nat.zero_le _, rfl, rfl⟩⟩ (fun _ _ => trivial)
theorem row_new {w : World} {base : Nat} {ok : Nat → Prop} {v : Value} {xs : List Int} (h : Kd.R (Kd.int .u8) 5 w base ok v xs) : v.ownBlock ≠ some w.heap.size := by
  intro e
  obtain ⟨h0, inner, ho, hr⟩ := h
  obtain ⟨cs, hc⟩ := own_typed ho _ e
  exact absurd (lt_of_heap hc) (Nat.lt_irrefl _)
theorem zero_C {w : World} {g : Nat} (h : w.heap[g]? = some (.cells #[.int .u8 0] 5 (0, 0))) : Kd.C (Kd.int .u8) w (some ⟨g, 0, none⟩) 1 (ints [0]) := by
  refine Kd.C_of_reads (readsInt_of.1 ⟨rfl, by decide, fun _ => ⟨_, rfl, fun j hj => ?_⟩⟩)
  obtain rfl : j = 0 := by omega
  exact (cell_of_heap h 0).trans rfl
theorem R_src {W : World} {base : Nat} {ok : Nat → Prop} {v : Value} {txt : List UInt8} (h : Kd.R (Kd.int .u8) 5 W base ok v (ints txt)) : ∃ A c, v = .slice A txt.length c ∧ SrcAt W.heap.size W A c txt := by
  obtain ⟨A, c, e, hc, hC⟩ := Kd.R_reads h
  rw [ints_length] at e hc hC
  refine ⟨A, c, e, hc, ?_, fun h0 => ?_⟩
  · obtain ⟨-, inner, ⟨hl, ho⟩, -⟩ := h
    rcases ho with ⟨e1, -⟩ | ⟨g, cap, cur, e1, _, _, _, hm, _⟩
    · rw [e] at e1; injection e1 with _ _ e2; omega
    · rw [e] at e1; injection e1 with _ _ e2; omega
  · obtain ⟨-, inner, ⟨hl, ho⟩, -⟩ := h
    rcases ho with ⟨e1, hn⟩ | ⟨g, cap, cur, e1, _, hq, _, hm, _⟩
    · rw [ints_length] at hn; omega
    · rw [e] at e1
      injection e1 with e2 _ _
      refine ⟨g, 0, e2, lt_of_heap hq, fun j hj => ?_⟩
      obtain ⟨ad, e3, hcell⟩ := Kd.at_int hC (j : Int) (by omega) (by omega)
      rw [e2] at e3; injection e3 with e3; subst e3
      rw [Int.toNat_natCast, Addr.add_lit, rd_ints] at hcell
      exact hcell
def ZeroAt (n1 : Nat) (w : World) (L : Nat → Bool) (u24 u26 u27 : Value) : Prop := ∃ g, u27 = .slice (some ⟨g, 0, none⟩) 1 1 ∧ n1 ≤ g ∧ w.heap[g]? = some (.cells #[.int .u8 0] 5 (0, 0)) ∧ (L 0 = true → L 2 = false → u24.ownBlock ≠ some g) ∧ (L 2 = true → u26.ownBlock ≠ some g)
theorem zero_keep {n1 : Nat} {w w' : World} {L : Nat → Bool} {u24 u26 u27 : Value} (h : ZeroAt n1 w L u24 u26 u27) (hb : Below w.heap.size w w') : ZeroAt n1 w' L u24 u26 u27 := by
  obtain ⟨g, h1, h2, h3, h4, h5⟩ := h
  exact ⟨g, h1, h2, (hb.block g (lt_of_heap h3)).trans h3, h4, h5⟩
theorem zero_first {n1 : Nat} {w w' : World} {L : Nat → Bool} {u24 u26 u27 : Value} (h : ZeroAt n1 w L u24 u26 u27) (hb : Below w.heap.size w w') : ZeroAt n1 w' (upd L 0) (.slice (some ⟨w.heap.size, 0, none⟩) 0 0) u26 u27 := by
  obtain ⟨g, h1, h2, h3, h4, h5⟩ := h
  have := lt_of_heap h3
  exact ⟨g, h1, h2, (hb.block g (lt_of_heap h3)).trans h3, (fun _ _ e => by injection e with e; have : w.heap.size = g := e; omega), h5⟩
theorem zero_app {n1 : Nat} {w w' : World} {L : Nat → Bool} {u24 u26 u27 v1 : Value} (h : ZeroAt n1 w L u24 u26 u27) (h0 : L 0 = true) (h2' : L 2 = false) (hg : w.grownBy w' u24.ownBlock) (hat : v1.ownBlock = u24.ownBlock ∨ ∃ b, v1.ownBlock = some b ∧ w.heap.size ≤ b) : ZeroAt n1 w' (upd L 2) u24 v1 u27 := by
  obtain ⟨g, h1, h2, h3, h4, h5⟩ := h
  have hne := h4 h0 h2'
  have hlt := lt_of_heap h3
  refine ⟨g, h1, h2, (hg.block g hlt (fun e => hne e.symm)).trans h3, (fun _ h => absurd (show (true : Bool) = false from h) (by decide)), fun _ e => ?_⟩
  rcases hat with e1 | ⟨b, e1, hbb⟩
  · exact hne (e1.symm.trans e)
  · rw [e1] at e; injection e with e; omega
theorem nul_item {l : List UInt8} (h : (0 : UInt8) ∈ l) : ∃ c ∈ items l, c.r = 0 := by
  induction hn : l.length using Nat.strongRecOn generalizing l with
  | _ n ih =>
    subst hn
    have h0 : 0 < l.length := List.length_pos_of_mem h
    rw [items_cons h0]
    have hs : l.take (hd l).2 ++ l.drop (hd l).2 = l := List.take_append_drop _ _
    rw [← hs] at h
    rcases List.mem_append.1 h with h | h
    · refine ⟨hdItem l, List.mem_cons_self, ?_⟩
      obtain ⟨i, hi, e⟩ := mem_gb h
      rw [List.length_take] at hi
      have ei : gb (l.take (hd l).2) i = gb l i := by
        unfold gb; simp [List.getD_eq_getElem?_getD, List.getElem?_take_of_lt (show i < (hd l).2 by omega)]
      rw [ei] at e
      have e0 : gb l i = 0 := e
      by_cases hb : gb l 0 < 128
      · have hh := hd_ascii hb
        rw [hh] at hi
        have : i = 0 := by simp only at hi; omega
        subst this
        show (hd l).1 = 0
        rw [hh]; exact e0
      · have hc := decodeN_cont (n := l.length) (b1 := gb l 1) (b2 := gb l 2) (b3 := gb l 3) (show 128 ≤ gb l 0 by omega) i (by have : (hd l).2 = (decodeN l.length (gb l 0) (gb l 1) (gb l 2) (gb l 3)).2 := rfl; omega)
        have h4 := hd_le4 l
        have h3 : i = 0 ∨ i = 1 ∨ i = 2 ∨ i = 3 := by omega
        exfalso
        rcases h3 with rfl | rfl | rfl | rfl <;> simp at hc <;> omega
    · have hp := hd_pos l
      obtain ⟨c, hc, hr⟩ := ih _ (by rw [List.length_drop]; omega) h rfl
      exact ⟨c, List.mem_cons_of_mem _ hc, hr⟩
theorem nul_pos (C : Cfg) (a b : List UInt8) : 0 < errNum C (nulText a b) := by
  obtain ⟨c, hc, hr⟩ := nul_item (l := nulText a b) (by unfold nulText; simp)
  exact errNum_pos hc (.inr hr)
/-- What holds while the region runs, by what is done. -/
structure NulSt (n : Nat) (w1 : World) (a : Option Addr) (k : Nat) (src : List UInt8) (a2 : Option Addr) (k2 : Nat) (src2 : List UInt8) (s F : Stp) (L : Nat → Bool) (u7 u8 u9 u23 u24 u25 u26 u27 u28 u29 u30 u31 u32 u33 u34 u35 u36 : Value) (w : World) : Prop where
  below : Below w1.heap.size w1 w
  o42 : L 4 = true → L 2 = true
  o43 : L 4 = true → L 3 = true
  o64 : L 6 = true → L 4 = true
  f25 : L 1 = true → u25 = .slice a src.length k
  f29 : L 5 = true → u29 = .slice a2 src2.length k2
  f31 : L 7 = true → u31 = .agg #[.bool s.d, .int .i64 s.m, .int .u64 s.wh, .bool s.cu, .string s.f1, .string s.f2]
  f32 : L 8 = true → u32 = .agg #[.bool F.d, .int .i64 F.m, .int .u64 F.wh, .bool F.cu, .string F.f1, .string F.f2]
  row0 : L 0 = true → L 2 = false → Kd.R (Kd.int .u8) 5 w w1.heap.size (fun _ => True) u24 []
  row2 : L 2 = true → L 4 = false → Kd.R (Kd.int .u8) 5 w w1.heap.size (fun _ => True) u26 (ints src)
  row4 : L 4 = true → L 6 = false → Kd.R (Kd.int .u8) 5 w w1.heap.size (fun _ => True) u28 (ints src ++ ints [0])
  row6 : L 6 = true → Kd.R (Kd.int .u8) 5 w w1.heap.size (fun _ => True) u30 (ints src ++ ints [0] ++ ints src2)
  zero : L 3 = true → L 4 = false → ∃ g, u27 = .slice (some ⟨g, 0, none⟩) 1 1 ∧ w1.heap.size ≤ g ∧ w.heap[g]? = some (.cells #[.int .u8 0] 5 (0, 0)) ∧ (L 0 = true → L 2 = false → u24.ownBlock ≠ some g) ∧ (L 2 = true → u26.ownBlock ≠ some g)
  f33 : L 9 = true → ∃ v, u33 = .tuple #[v, .int .i64 (errNum F.cfg (nulText src src2) : Nat), .int .i64 (errNum F.cfg (nulText src src2) : Nat)]
  f23 : L 10 = true → ∃ v, u23 = .tuple #[v, .int .i64 (errNum F.cfg (nulText src src2) : Nat), .int .i64 (errNum F.cfg (nulText src src2) : Nat)]
  f35 : L 12 = true → u35 = .int .i64 (errNum F.cfg (nulText src src2) : Nat)
  g8 : L 15 = true → u8 = .int .i64 (errNum F.cfg (nulText src src2) : Nat)
def NulInv (n : Nat) (w1 : World) (a : Option Addr) (k : Nat) (src : List UInt8) (a2 : Option Addr) (k2 : Nat) (src2 : List UInt8) (s F : Stp) (L : Nat → Bool) (act : Act) (w : World) : Prop :=
  ∃ u7 u8 u9 u23 u24 u25 u26 u27 u28 u29 u30 u31 u32 u33 u34 u35 u36 : Value, act = { tmps := #[.slice a src.length k, .slice a2 src2.length k2, .agg #[.bool s.d, .int .i64 s.m, .int .u64 s.wh, .bool s.cu, .string s.f1, .string s.f2], undef, undef, .pointer (some ⟨n, 0, none⟩), .bool false, u7, u8, u9, .slice a src.length k, .int .i64 (src.length : Nat), .bool false, .bool false, .slice a2 src2.length k2, .int .i64 (src2.length : Nat), .bool false, .bool false, .bool false, .agg #[.bool s.d, .int .i64 s.m, .int .u64 s.wh, .bool s.cu, .string s.f1, .string s.f2], .bool true, .bool false, .bool false, u23, u24, u25, u26, u27, u28, u29, u30, u31, u32, u33, u34, u35, u36, undef, undef, undef, undef, undef], defers := [] } ∧ NulSt n w1 a k src a2 k2 src2 s F L u7 u8 u9 u23 u24 u25 u26 u27 u28 u29 u30 u31 u32 u33 u34 u35 u36 w
set_option maxRecDepth 100000 in
set_option maxHeartbeats 1600000 in
theorem fnnul (w : World) (a : Option Addr) (k : Nat) (src : List UInt8) (a2 : Option Addr) (k2 : Nat) (src2 : List UInt8) (s : Stp) (hs : SrcAt w.heap.size w a k src) (hs2 : SrcAt w.heap.size w a2 k2 src2) (hv : Vars w.heap.size w) :
    Calls Tryd.prog 9 #[.slice a src.length k, .slice a2 src2.length k2, .agg #[.bool s.d, .int .i64 s.m, .int .u64 s.wh, .bool s.cu, .string s.f1, .string s.f2]] w fun e w' => e = .returned (.bool true) ∧ Below w.heap.size w w' := by
  by_cases hbig : (2147483647 : Int) < src.length
  · clear hs hv hs2
    go_enter Tryd.func9, Tryd.ntmps9
    go_wp2_with (fail)
    go_ret
    exact ⟨rfl, boxed w s⟩
  by_cases hbig2 : (2147483647 : Int) < src2.length
  · clear hs hv hs2
    go_enter Tryd.func9, Tryd.ntmps9
    go_wp2_with (fail)
    go_ret
    exact ⟨rfl, boxed w s⟩
  by_cases hf : s.f1.size ≤ 2147483647 ∧ s.f2.size ≤ 2147483647
  · have HH := Lib.hid (And.intro hs (And.intro hv (And.intro hf (And.intro hbig (And.intro hs2 hbig2)))))
    clear hs hv hf hs2
    go_enter Tryd.func9, Tryd.ntmps9
    go_upto_region 3 with (first
      | (go_at_call 20; refine (fits_yes _ s HH.out.2.2.1.1 HH.out.2.2.1.2).mono ?_; rintro e w1 ⟨rfl, hb1⟩))
    have hB1 : Below w.heap.size w w1 := (boxed w s).trans (hb1.mono (Nat.le_of_lt (boxed_lt _ _)))
    have hn1 := (hb1.block _ (boxed_lt _ _)).trans (heap_alloc_new w _)
    obtain ⟨c0, c1, c2, c3, c4, c5⟩ := set_loads hn1
    have HB := Lib.hid (And.intro hB1 hn1)
    clear hb1 hB1 hn1
    obtain ⟨F, hF⟩ : ∃ F, s.fit = F := ⟨_, rfl⟩
    have HF := Lib.hid hF
    clear hF
    go_cut [8] (fun v wr => v = .int .i64 (errNum F.cfg (nulText src src2) : Nat) ∧ Below w1.heap.size w1 wr)
    case first =>
      refine wp_region_inv (NulInv w.heap.size w1 a k src a2 k2 src2 s F) (by kernel_rfl) (by kernel_rfl) ?_ ?_ ?_
      · exact ⟨_, _, _, _, _, _, _, _, _, _, _, _, _, _, _, _, _, rfl, ⟨(Below.refl _ _).drew, fun h => (Bool.false_ne_true h).elim, fun h => (Bool.false_ne_true h).elim, fun h => (Bool.false_ne_true h).elim, fun h => (Bool.false_ne_true h).elim, fun h => (Bool.false_ne_true h).elim, fun h => (Bool.false_ne_true h).elim, fun h => (Bool.false_ne_true h).elim, fun h => (Bool.false_ne_true h).elim, fun h => (Bool.false_ne_true h).elim, fun h => (Bool.false_ne_true h).elim, fun h => (Bool.false_ne_true h).elim, fun h => (Bool.false_ne_true h).elim, fun h => (Bool.false_ne_true h).elim, fun h => (Bool.false_ne_true h).elim, fun h => (Bool.false_ne_true h).elim, fun h => (Bool.false_ne_true h).elim⟩⟩
      · intro L act wx i o hI ho hL hp
        obtain ⟨u7, u8, u9, u23, u24, u25, u26, u27, u28, u29, u30, u31, u32, u33, u34, u35, u36, rfl, hS⟩ := hI
        have HS := Lib.hid hS
        clear hS
        have hi : i < 17 := by
          rcases Nat.lt_or_ge i 17 with h | h
          · exact h
          · rw [List.getElem?_eq_none (by simpa using h)] at ho; cases ho
        match i, hi, ho, hL, hp with
        | 0, _, ho, hL, hp =>
          injection ho with ho; subst ho
          go_wp2_with (fail)
          have hb : Below wx.heap.size wx (wx.alloc (Obj.cells #[] 5)) := (Below.refl _ _).alloc (Nat.le_refl _) _
          have hq := heap_alloc_new wx (Obj.cells #[] 5)
          exact ⟨_, _, _, _, _, _, _, _, _, _, _, _, _, _, _, _, _, rfl, ⟨(HS.out.below.trans (hb.mono HS.out.below.size)), (HS.out.o42), (HS.out.o43), (HS.out.o64), (HS.out.f25), (HS.out.f29), (HS.out.f31), (HS.out.f32), (fun _ _ => row_nil HS.out.below.size hq), (fun h1 h2 => Kd.R_below (HS.out.row2 h1 h2) hb), (fun h1 h2 => Kd.R_below (HS.out.row4 h1 h2) hb), (fun h1 => Kd.R_below (HS.out.row6 h1) hb), (fun h1 h2 => zero_first (HS.out.zero h1 h2) hb), (HS.out.f33), (HS.out.f23), (HS.out.f35), (HS.out.g8)⟩⟩
        | 1, _, ho, hL, hp =>
          injection ho with ho; subst ho
          go_wp2_with (fail)
          exact ⟨_, _, _, _, _, _, _, _, _, _, _, _, _, _, _, _, _, rfl, ⟨(HS.out.below), (HS.out.o42), (HS.out.o43), (HS.out.o64), (fun _ => rfl), (HS.out.f29), (HS.out.f31), (HS.out.f32), (HS.out.row0), (HS.out.row2), (HS.out.row4), (HS.out.row6), (HS.out.zero), (HS.out.f33), (HS.out.f23), (HS.out.f35), (HS.out.g8)⟩⟩
        | 5, _, ho, hL, hp =>
          injection ho with ho; subst ho
          go_wp2_with (fail)
          exact ⟨_, _, _, _, _, _, _, _, _, _, _, _, _, _, _, _, _, rfl, ⟨(HS.out.below), (HS.out.o42), (HS.out.o43), (HS.out.o64), (HS.out.f25), (fun _ => rfl), (HS.out.f31), (HS.out.f32), (HS.out.row0), (HS.out.row2), (HS.out.row4), (HS.out.row6), (HS.out.zero), (HS.out.f33), (HS.out.f23), (HS.out.f35), (HS.out.g8)⟩⟩
        | 2, _, ho, hL, hp =>
          injection ho with ho; subst ho
          have e25 := HS.out.f25 (hp 1 (by decide))
          subst e25
          have HR := Lib.hid (HS.out.row0 (hp 0 (by decide)) hL)
          have HC := Lib.hid (src_C (HH.out.1.up (HB.out.1.trans (HS.out.below.mono HB.out.1.size)) (Nat.le_refl _)))
          go_wp2_with (first | ((with_reducible refine gate_builtin (b := .append) (xs := #[.tmp 24, .tmp 25]) rfl ?_); at_builtin; refine Kd.R_append_row (Value.int .u8) (0 : Int) (h1 := fun _ => rfl) (w0 := w1) w1.heap.size rfl (.tmp 24) (.tmp 25) 22 5 (.int .u8 0) 1 rfl Tryd.underlying22 inf5 rfl (by decide) u24 [] (ints src) a src.length k (fun _ => True) rfl rfl (fun _ _ => trivial) HR.out HC.out HS.out.below HS.out.below.size (by rw [List.length_nil]; have := HH.out.2.2.2.1; omega) ?_; intro v1 wy hr hb hg hat))
          exact ⟨_, _, _, _, _, _, _, _, _, _, _, _, _, _, _, _, _, rfl, ⟨(hb), (fun h => rfl), (HS.out.o43), (HS.out.o64), (HS.out.f25), (HS.out.f29), (HS.out.f31), (HS.out.f32), (fun _ h => absurd (show (true : Bool) = false from h) (by decide)), (fun _ _ => hr), (fun h1 _ => absurd (HS.out.o42 h1) (by rw [hL]; decide)), (fun h1 => absurd (HS.out.o42 (HS.out.o64 h1)) (by rw [hL]; decide)), (fun h1 h2 => zero_app (HS.out.zero h1 h2) (hp 0 (by decide)) hL hg hat), (HS.out.f33), (HS.out.f23), (HS.out.f35), (HS.out.g8)⟩⟩
        | 3, _, ho, hL, hp =>
          injection ho with ho; subst ho
          have h4 : L 4 = false := by cases hx : L 4 with | false => rfl | true => exact absurd (HS.out.o43 hx) (by rw [hL]; decide)
          go_wp2_with (fail)
          have hb : Below wx.heap.size wx (wx.alloc (Obj.cells #[.int .u8 0] 5)) := (Below.refl _ _).alloc (Nat.le_refl _) _
          have hq := heap_alloc_new wx (Obj.cells #[.int .u8 0] 5)
          exact ⟨_, _, _, _, _, _, _, _, _, _, _, _, _, _, _, _, _, rfl, ⟨(HS.out.below.trans (hb.mono HS.out.below.size)), (HS.out.o42), (fun h => rfl), (HS.out.o64), (HS.out.f25), (HS.out.f29), (HS.out.f31), (HS.out.f32), (fun h1 h2 => Kd.R_below (HS.out.row0 h1 h2) hb), (fun h1 h2 => Kd.R_below (HS.out.row2 h1 h2) hb), (fun h1 h2 => Kd.R_below (HS.out.row4 h1 h2) hb), (fun h1 => Kd.R_below (HS.out.row6 h1) hb), (fun _ _ => ⟨_, rfl, HS.out.below.size, hq, (fun h1 h2 => row_new (HS.out.row0 h1 h2)), fun h1 => row_new (HS.out.row2 h1 h4)⟩), (HS.out.f33), (HS.out.f23), (HS.out.f35), (HS.out.g8)⟩⟩
        | 4, _, ho, hL, hp =>
          injection ho with ho; subst ho
          obtain ⟨g, e27, hg1, hg2, -, hg3⟩ := HS.out.zero (hp 3 (by decide)) hL
          subst e27
          have HR := Lib.hid (HS.out.row2 (hp 2 (by decide)) hL)
          have HC := Lib.hid (zero_C hg2)
          go_wp2_with (first | ((with_reducible refine gate_builtin (b := .append) (xs := #[.tmp 26, .tmp 27]) rfl ?_); at_builtin; refine Kd.R_append_row (Value.int .u8) (0 : Int) (h1 := fun _ => rfl) (w0 := w1) w1.heap.size rfl (.tmp 26) (.tmp 27) 22 5 (.int .u8 0) 1 rfl Tryd.underlying22 inf5 rfl (by decide) u26 (ints src) (ints [0]) (some ⟨g, 0, none⟩) 1 1 (fun _ => True) rfl rfl (fun _ _ => trivial) HR.out HC.out HS.out.below HS.out.below.size (by rw [ints_length]; have := HH.out.2.2.2.1; omega) ?_; intro v1 wy hr hb hg hat))
          exact ⟨_, _, _, _, _, _, _, _, _, _, _, _, _, _, _, _, _, rfl, ⟨(hb), (fun _ => hp 2 (by decide)), (fun _ => hp 3 (by decide)), (fun h => rfl), (HS.out.f25), (HS.out.f29), (HS.out.f31), (HS.out.f32), (fun _ h => absurd (hp 2 (by decide)) (by rw [show L 2 = false from h]; decide)), (fun _ h => absurd (show (true : Bool) = false from h) (by decide)), (fun _ _ => hr), (fun h1 => absurd (HS.out.o64 h1) (by rw [hL]; decide)), (fun _ h => absurd (show (true : Bool) = false from h) (by decide)), (HS.out.f33), (HS.out.f23), (HS.out.f35), (HS.out.g8)⟩⟩
        | 6, _, ho, hL, hp =>
          injection ho with ho; subst ho
          have e29 := HS.out.f29 (hp 5 (by decide))
          subst e29
          have HR := Lib.hid (HS.out.row4 (hp 4 (by decide)) hL)
          have HC := Lib.hid (src_C (HH.out.2.2.2.2.1.up (HB.out.1.trans (HS.out.below.mono HB.out.1.size)) (Nat.le_refl _)))
          go_wp2_with (first | ((with_reducible refine gate_builtin (b := .append) (xs := #[.tmp 28, .tmp 29]) rfl ?_); at_builtin; refine Kd.R_append_row (Value.int .u8) (0 : Int) (h1 := fun _ => rfl) (w0 := w1) w1.heap.size rfl (.tmp 28) (.tmp 29) 22 5 (.int .u8 0) 1 rfl Tryd.underlying22 inf5 rfl (by decide) u28 (ints src ++ ints [0]) (ints src2) a2 src2.length k2 (fun _ => True) rfl rfl (fun _ _ => trivial) HR.out HC.out HS.out.below HS.out.below.size (by rw [List.length_append, ints_length, ints_length]; have := HH.out.2.2.2.1; have := HH.out.2.2.2.2.2; simp; omega) ?_; intro v1 wy hr hb hg hat))
          exact ⟨_, _, _, _, _, _, _, _, _, _, _, _, _, _, _, _, _, rfl, ⟨(hb), (HS.out.o42), (HS.out.o43), (fun _ => hp 4 (by decide)), (HS.out.f25), (HS.out.f29), (HS.out.f31), (HS.out.f32), (fun _ h => absurd (HS.out.o42 (hp 4 (by decide))) (by rw [show L 2 = false from h]; decide)), (fun _ h => absurd (hp 4 (by decide)) (by rw [show L 4 = false from h]; decide)), (fun _ h => absurd (show (true : Bool) = false from h) (by decide)), (fun _ => hr), (fun _ h => absurd (hp 4 (by decide)) (by rw [show L 4 = false from h]; decide)), (HS.out.f33), (HS.out.f23), (HS.out.f35), (HS.out.g8)⟩⟩
        | 7, _, ho, hL, hp =>
          injection ho with ho; subst ho
          obtain ⟨c0, c1, c2, c3, c4, c5⟩ := set_loads ((HS.out.below.block _ (lt_of_heap HB.out.2)).trans HB.out.2)
          go_wp2_with (fail)
          exact ⟨_, _, _, _, _, _, _, _, _, _, _, _, _, _, _, _, _, rfl, ⟨(HS.out.below), (HS.out.o42), (HS.out.o43), (HS.out.o64), (HS.out.f25), (HS.out.f29), (fun _ => rfl), (HS.out.f32), (HS.out.row0), (HS.out.row2), (HS.out.row4), (HS.out.row6), (HS.out.zero), (HS.out.f33), (HS.out.f23), (HS.out.f35), (HS.out.g8)⟩⟩
        | 8, _, ho, hL, hp =>
          injection ho with ho; subst ho
          have e31 := HS.out.f31 (hp 7 (by decide))
          subst e31
          go_wp2_with (first
          | (go_at_call 21; refine (fit_spec _ s (by have := HH.out.2.2.1.1; omega) (by have := HH.out.2.2.1.2; omega)).mono ?_; rw [HF.out]; rintro e wy ⟨rfl, hb⟩))
          exact ⟨_, _, _, _, _, _, _, _, _, _, _, _, _, _, _, _, _, rfl, ⟨(HS.out.below.trans (hb.mono HS.out.below.size)), (HS.out.o42), (HS.out.o43), (HS.out.o64), (HS.out.f25), (HS.out.f29), (HS.out.f31), (fun _ => rfl), (fun h1 h2 => Kd.R_below (HS.out.row0 h1 h2) hb), (fun h1 h2 => Kd.R_below (HS.out.row2 h1 h2) hb), (fun h1 h2 => Kd.R_below (HS.out.row4 h1 h2) hb), (fun h1 => Kd.R_below (HS.out.row6 h1) hb), (fun h1 h2 => zero_keep (HS.out.zero h1 h2) hb), (HS.out.f33), (HS.out.f23), (HS.out.f35), (HS.out.g8)⟩⟩
        | 9, _, ho, hL, hp =>
          injection ho with ho; subst ho
          have e32 := HS.out.f32 (hp 8 (by decide))
          subst e32
          obtain ⟨A, c, e30, hsrc⟩ := R_src (txt := nulText src src2) (by rw [nul_ints]; exact HS.out.row6 (hp 6 (by decide)))
          subst e30
          have HSR := Lib.hid hsrc
          clear hsrc
          go_wp2_with (first
          | (go_at_call 24; refine (tokens_at wx wx A none c 0 (nulText src src2) [] F (by rw [← HF.out]; exact s.fit_ok) (Below.refl _ _) HSR.out (SzAt.nil _ _) (by have := HH.out.2.2.2.1; have := HH.out.2.2.2.2.2; unfold nulText; simp only [List.length_append, List.length_cons]; omega) ((HH.out.2.1.move (HB.out.1.trans (HS.out.below.mono HB.out.1.size))).mono (Nat.le_trans HB.out.1.size HS.out.below.size))).mono ?_; unfold TokPost; rintro e wy ⟨A', c', rfl, hc', hC', hb⟩; clear hc' hC'))
          exact ⟨_, _, _, _, _, _, _, _, _, _, _, _, _, _, _, _, _, rfl, ⟨(HS.out.below.trans (hb.mono HS.out.below.size)), (HS.out.o42), (HS.out.o43), (HS.out.o64), (HS.out.f25), (HS.out.f29), (HS.out.f31), (HS.out.f32), (fun h1 h2 => Kd.R_below (HS.out.row0 h1 h2) hb), (fun h1 h2 => Kd.R_below (HS.out.row2 h1 h2) hb), (fun h1 h2 => Kd.R_below (HS.out.row4 h1 h2) hb), (fun h1 => Kd.R_below (HS.out.row6 h1) hb), (fun h1 h2 => zero_keep (HS.out.zero h1 h2) hb), (fun _ => ⟨_, rfl⟩), (HS.out.f23), (HS.out.f35), (HS.out.g8)⟩⟩
        | 10, _, ho, hL, hp =>
          injection ho with ho; subst ho
          obtain ⟨v, e33⟩ := HS.out.f33 (hp 9 (by decide))
          subst e33
          go_wp2_with (fail)
          exact ⟨_, _, _, _, _, _, _, _, _, _, _, _, _, _, _, _, _, rfl, ⟨(HS.out.below), (HS.out.o42), (HS.out.o43), (HS.out.o64), (HS.out.f25), (HS.out.f29), (HS.out.f31), (HS.out.f32), (HS.out.row0), (HS.out.row2), (HS.out.row4), (HS.out.row6), (HS.out.zero), (HS.out.f33), (fun _ => ⟨_, rfl⟩), (HS.out.f35), (HS.out.g8)⟩⟩
        | 11, _, ho, hL, hp =>
          injection ho with ho; subst ho
          obtain ⟨v, e23⟩ := HS.out.f23 (hp 10 (by decide))
          subst e23
          go_wp2_with (fail)
          exact ⟨_, _, _, _, _, _, _, _, _, _, _, _, _, _, _, _, _, rfl, ⟨(HS.out.below), (HS.out.o42), (HS.out.o43), (HS.out.o64), (HS.out.f25), (HS.out.f29), (HS.out.f31), (HS.out.f32), (HS.out.row0), (HS.out.row2), (HS.out.row4), (HS.out.row6), (HS.out.zero), (HS.out.f33), (HS.out.f23), (HS.out.f35), (HS.out.g8)⟩⟩
        | 12, _, ho, hL, hp =>
          injection ho with ho; subst ho
          obtain ⟨v, e23⟩ := HS.out.f23 (hp 10 (by decide))
          subst e23
          go_wp2_with (fail)
          exact ⟨_, _, _, _, _, _, _, _, _, _, _, _, _, _, _, _, _, rfl, ⟨(HS.out.below), (HS.out.o42), (HS.out.o43), (HS.out.o64), (HS.out.f25), (HS.out.f29), (HS.out.f31), (HS.out.f32), (HS.out.row0), (HS.out.row2), (HS.out.row4), (HS.out.row6), (HS.out.zero), (HS.out.f33), (HS.out.f23), (fun _ => rfl), (HS.out.g8)⟩⟩
        | 13, _, ho, hL, hp =>
          injection ho with ho; subst ho
          obtain ⟨v, e23⟩ := HS.out.f23 (hp 10 (by decide))
          subst e23
          go_wp2_with (fail)
          exact ⟨_, _, _, _, _, _, _, _, _, _, _, _, _, _, _, _, _, rfl, ⟨(HS.out.below), (HS.out.o42), (HS.out.o43), (HS.out.o64), (HS.out.f25), (HS.out.f29), (HS.out.f31), (HS.out.f32), (HS.out.row0), (HS.out.row2), (HS.out.row4), (HS.out.row6), (HS.out.zero), (HS.out.f33), (HS.out.f23), (HS.out.f35), (HS.out.g8)⟩⟩
        | 14, _, ho, hL, hp =>
          injection ho with ho; subst ho
          go_wp2_with (fail)
          exact ⟨_, _, _, _, _, _, _, _, _, _, _, _, _, _, _, _, _, rfl, ⟨(HS.out.below), (HS.out.o42), (HS.out.o43), (HS.out.o64), (HS.out.f25), (HS.out.f29), (HS.out.f31), (HS.out.f32), (HS.out.row0), (HS.out.row2), (HS.out.row4), (HS.out.row6), (HS.out.zero), (HS.out.f33), (HS.out.f23), (HS.out.f35), (HS.out.g8)⟩⟩
        | 15, _, ho, hL, hp =>
          injection ho with ho; subst ho
          have e35 := HS.out.f35 (hp 12 (by decide))
          subst e35
          go_wp2_with (fail)
          exact ⟨_, _, _, _, _, _, _, _, _, _, _, _, _, _, _, _, _, rfl, ⟨(HS.out.below), (HS.out.o42), (HS.out.o43), (HS.out.o64), (HS.out.f25), (HS.out.f29), (HS.out.f31), (HS.out.f32), (HS.out.row0), (HS.out.row2), (HS.out.row4), (HS.out.row6), (HS.out.zero), (HS.out.f33), (HS.out.f23), (HS.out.f35), (fun _ => rfl)⟩⟩
        | 16, _, ho, hL, hp =>
          injection ho with ho; subst ho
          go_wp2_with (fail)
          exact ⟨_, _, _, _, _, _, _, _, _, _, _, _, _, _, _, _, _, rfl, ⟨(HS.out.below), (HS.out.o42), (HS.out.o43), (HS.out.o64), (HS.out.f25), (HS.out.f29), (HS.out.f31), (HS.out.f32), (HS.out.row0), (HS.out.row2), (HS.out.row4), (HS.out.row6), (HS.out.zero), (HS.out.f33), (HS.out.f23), (HS.out.f35), (HS.out.g8)⟩⟩
        | i + 17, hi, _, _, _ => exact absurd hi (by omega)
      · intro L act wx hI hall
        obtain ⟨u7, u8, u9, u23, u24, u25, u26, u27, u28, u29, u30, u31, u32, u33, u34, u35, u36, rfl, hS⟩ := hI
        have h8 := hS.g8 (hall 15 (by decide))
        subst h8
        have HS := Lib.hid hS.below
        clear hS hall
        go_wp2_with (fail)
        go_meet
        exact ⟨rfl, HS.out⟩
    case rest =>
      obtain ⟨rfl, hb⟩ := hcut
      have HR := Lib.hid (HB.out.1.trans (hb.mono HB.out.1.size))
      have hpos : decide (0 < errNum F.cfg (nulText src src2)) = true := decide_eq_true (nul_pos _ _ _)
      clear hb c0 c1 c2 c3 c4 c5
      go_wp2_with (first
        | (go_at_call 23; refine (works_at w _ HR.out HH.out.2.1).mono ?_; rintro e w7 ⟨rfl, hb7⟩; have HB7 := Lib.hid (HR.out.trans (hb7.mono HR.out.size)); clear hb7))
      go_ret
      exact ⟨rfl, HB7.out⟩


  · have HH := Lib.hid hf
    clear hs hv hf hs2
    go_enter Tryd.func9, Tryd.ntmps9
    go_wp2_with (first
      | (go_at_call 20; refine (fits_no _ s HH.out).mono ?_; rintro e w1 ⟨rfl, hb1⟩))
    go_ret
    exact ⟨rfl, (boxed w s).trans (hb1.mono (Nat.le_of_lt (boxed_lt _ _)))⟩
end Go.Proofs.YtmfihkgbfoapaaaDoor
