/- Own texts U2 of this claim, cut to what the claim uses. -/
import Derived.Test.YtmfihkgbfoapaaaDoorZS2
import Derived.Test.YtmfihkgbfoapaaaDoorZP1
import Derived.Test.YtmfihkgbfoapaaaDoorZK3
import Derived.Test.YtmfihkgbfoapaaaDoorZR0
import Derived.Test.YtmfihkgbfoapaaaDoorZM1
namespace Go.Proofs.YtmfihkgbfoapaaaDoor
set_option linter.unusedVariables false
set_option linter.unusedSimpArgs false
open Go Go.RowKit Go.Lib Go.BigFrame Go.Proofs.YtmfihkgbfoapaaaDoorW.PrintWords
theorem SrcAt.reads {B : Nat} {w : World} {a : Option Addr} {k : Nat} {src : List UInt8} (h : SrcAt B w a k src) : ReadsInt w .u8 a src.length (ints src) := by
  have hm : maxLen ≤ 9223372036854775807 := by unfold maxLen; omega
  refine ⟨ints_length _, by have := h.1; have := h.2.1; omega, fun h0 => ?_⟩
  obtain ⟨g, o, rfl, _, hc⟩ := h.2.2 h0
  refine ⟨_, rfl, fun j hj => ?_⟩
  have e : (ints src).getD j 0 = (gb src j : Nat) := rd_ints src j
  rw [e, ← hc j hj]
  unfold Addr.add
  split <;> simp_all
theorem ints_drop (l : List UInt8) (n : Nat) : (ints l).drop n = ints (l.drop n) := by simp [ints, List.map_drop]
end Go.Proofs.YtmfihkgbfoapaaaDoor
namespace Go.Proofs.YtmfihkgbfoapaaaDoor
set_option linter.unusedVariables false
set_option linter.unusedSimpArgs false
open Go Go.RowKit Go.Lib Go.BigFrame Go.Proofs.YtmfihkgbfoapaaaDoorW.PrintWords
def TokPost (w : World) (C : Cfg) (src : List UInt8) (e : Ending) (w' : World) : Prop :=
  ∃ A c, e = .returned (.tuple #[.slice A ((toks C src (startL src)).map (tokOf src)).length c, .int .i64 (errNum C src : Nat), .int .i64 (errNum C src : Nat)]) ∧ ((toks C src (startL src)).map (tokOf src)).length ≤ c ∧
    Kd.C K.k37 w' A ((toks C src (startL src)).map (tokOf src)).length ((toks C src (startL src)).map (tokOf src)) ∧ Below w.heap.size w w'
theorem tokens_at (w0 w : World) (a1 a2 : Option Addr) (k1 k2 : Nat) (src : List UInt8) (sz : List Int) (s : Stp) (h : s.Ok) (hb : Below w0.heap.size w0 w)
    (hs : SrcAt w0.heap.size w0 a1 k1 src) (hsz : SzAt w.heap.size w a2 sz) (hl : src.length ≤ 10000000000) (hv : Vars w0.heap.size w0) :
    Calls Tryd.prog 24 #[.slice a1 src.length k1, .slice a2 sz.length k2, .agg #[.bool s.d, .int .i64 s.m, .int .u64 s.wh, .bool s.cu, .string s.f1, .string s.f2]] w (TokPost w s.cfg src) := by
  refine (tokens_fit w a1 a2 k1 k2 src sz s h (hs.up hb hb.size) hsz (by unfold Fits; omega) hl ((hv.move hb).mono hb.size)).mono ?_
  rintro e w' ⟨v, rfl, hR, hb'⟩
  obtain ⟨A, c, rfl, hc, hC⟩ := Kd.R_reads hR
  rw [errNum_wrap _ _ hl]
  exact ⟨A, c, rfl, hc, hC, hb'⟩
theorem works_at (w0 w : World) (hb : Below w0.heap.size w0 w) (hv : Vars w0.heap.size w0) : Calls Tryd.prog 23 #[] w fun e w' => e = .returned (.bool true) ∧ Below w.heap.size w w' :=
  works_spec _ _ (Nat.le_refl _) ((hv.move hb).mono hb.size)
theorem boxed (w : World) (s : Stp) : Below w.heap.size w (w.alloc (Obj.cells #[.bool s.d, .int .i64 s.m, .int .u64 s.wh, .bool s.cu, .string s.f1, .string s.f2] 25)) := (Below.refl _ w).alloc (Nat.le_refl _) _
theorem boxed_lt (w : World) (o : Obj) : w.heap.size < (w.alloc o).heap.size := by rw [World.size_alloc]; omega
end Go.Proofs.YtmfihkgbfoapaaaDoor
namespace Go.Proofs.YtmfihkgbfoapaaaDoor
set_option linter.unusedVariables false
set_option linter.unusedSimpArgs false
open Go Go.RowKit Go.Lib Go.BigFrame Go.Proofs.YtmfihkgbfoapaaaDoorW.PrintWords
theorem SzAt.C {B : Nat} {w : World} {A : Option Addr} {l : List Int} (h : SzAt B w A l) (hl : l.length ≤ 9223372036854775807) : Kd.C (Kd.int .i64) w A l.length l := by
  refine Kd.C_of_reads (readsInt_of.1 ⟨rfl, hl, fun h0 => ?_⟩)
  obtain ⟨g, o, rfl, _, hc⟩ := h.2 h0
  refine ⟨_, rfl, fun j hj => ?_⟩
  rw [Addr.add_lit]; exact hc j hj
theorem SzAt.up {B B' : Nat} {w w1 : World} {a : Option Addr} {l : List Int} (h : SzAt B w a l) (hb : Below B w w1) (hB : B ≤ B') : SzAt B' w1 a l := by
  obtain ⟨h1, h2⟩ := h.of (w' := w1) fun k hk => hb.block k hk
  refine ⟨h1, fun h0 => ?_⟩
  obtain ⟨g, o, ha, hg, hc⟩ := h2 h0
  exact ⟨g, o, ha, by omega, hc⟩
theorem set_stores {w : World} {q : Nat} {a0 a1 a2 a3 a4 a5 : Value} (h : w.heap[q]? = some (.cells #[a0, a1, a2, a3, a4, a5] 25 (0, 0))) (b1 : Bool) (m wh : Int) (b2 : Bool) (s1 s2 : ByteArray) {W : World}
    (hW : (((((w.setCell ⟨q, 0, none⟩ (.bool b1)).setCell ⟨q, 1, none⟩ (.int .i64 m)).setCell ⟨q, 2, none⟩ (.int .u64 wh)).setCell ⟨q, 3, none⟩ (.bool b2)).setCell ⟨q, 4, none⟩ (.string s1)).setCell ⟨q, 5, none⟩ (.string s2) = W) :
    W.heap[q]? = some (.cells #[.bool b1, .int .i64 m, .int .u64 wh, .bool b2, .string s1, .string s2] 25 (0, 0)) ∧ Below q w W ∧ W.heap.size = w.heap.size := by
  subst hW
  have h2 := Go.Lib.heap_setCell_same (i := 0) h (.bool b1)
  have h3 := Go.Lib.heap_setCell_same (i := 1) h2 (.int .i64 m)
  have h4 := Go.Lib.heap_setCell_same (i := 2) h3 (.int .u64 wh)
  have h5 := Go.Lib.heap_setCell_same (i := 3) h4 (.bool b2)
  have h6 := Go.Lib.heap_setCell_same (i := 4) h5 (.string s1)
  have h7 := Go.Lib.heap_setCell_same (i := 5) h6 (.string s2)
  have hq := fun (v : World) (i : Nat) (u : Value) (h : Below q w v) => h.setCell (p := ⟨q, i, none⟩) (Nat.le_refl q) u
  exact ⟨h7, hq _ _ _ (hq _ _ _ (hq _ _ _ (hq _ _ _ (hq _ _ _ (hq _ _ _ (Below.refl _ _)))))), by simp only [World.size_setCell]⟩
end Go.Proofs.YtmfihkgbfoapaaaDoor
