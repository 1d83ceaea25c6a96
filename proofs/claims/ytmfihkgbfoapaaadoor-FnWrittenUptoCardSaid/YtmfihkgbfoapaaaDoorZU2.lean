/- Own texts U2 V0 T0 of this claim, cut to what the claim uses. -/
import Derived.Test.YtmfihkgbfoapaaaDoorZS2
import Derived.Test.YtmfihkgbfoapaaaDoorZP1
import Derived.Test.YtmfihkgbfoapaaaDoorZK3
import Derived.Test.YtmfihkgbfoapaaaDoorZR0
import Derived.Test.YtmfihkgbfoapaaaDoorZM1
import Derived.Test.YtmfihkgbfoapaaaDoorZK0
import Derived.Lib.SmallJoins
import Derived.ChangeMaps5
namespace Go.Proofs.YtmfihkgbfoapaaaDoor
set_option linter.unusedVariables false
set_option linter.unusedSimpArgs false
open Go Go.RowKit Go.Lib Go.BigFrame Go.Proofs.YtmfihkgbfoapaaaDoorW.PrintWords
theorem SrcAt.reads {B : Nat} {w : World} {a : Option Addr} {k : Nat} {src : List UInt8} (h : SrcAt B w a k src) : ReadsInt w .u8 a src.length (ints src) := by
  have hm : maxLen ≤ 9223372036854775807 := by unfold maxLen; omega
  refine ⟨ints_length _, by have := h.1; have := h.2.1; omega, fun h0 => ?_⟩
  obtain ⟨g, o, rfl, _, hc⟩ := h.2.2 h0
  refine ⟨_, rfl, fun j hj => ?_⟩
  have e : (ints src).getD j 0 = (gb src j : Nat) := rd_ints src j
  rw [e, ← hc j hj]
  unfold Addr.add
  split <;> simp_all
end Go.Proofs.YtmfihkgbfoapaaaDoor
namespace Go.Proofs.YtmfihkgbfoapaaaDoor
set_option linter.unusedVariables false
set_option linter.unusedSimpArgs false
open Go Go.RowKit Go.Lib Go.BigFrame Go.Proofs.YtmfihkgbfoapaaaDoorW.PrintWords
def TokPost (w : World) (C : Cfg) (src : List UInt8) (e : Ending) (w' : World) : Prop :=
  ∃ A c, e = .returned (.tuple #[.slice A ((toks C src (startL src)).map (tokOf src)).length c, .int .i64 (errNum C src : Nat), .int .i64 (errNum C src : Nat)]) ∧ ((toks C src (startL src)).map (tokOf src)).length ≤ c ∧
    Kd.C K.k37 w' A ((toks C src (startL src)).map (tokOf src)).length ((toks C src (startL src)).map (tokOf src)) ∧ Below w.heap.size w w'
theorem tokens_at (w0 w : World) (a1 a2 : Option Addr) (k1 k2 : Nat) (src : List UInt8) (sz : List Int) (s : Stp) (h : s.Ok) (hb : Below w0.heap.size w0 w)
    (hs : SrcAt w0.heap.size w0 a1 k1 src) (hsz : SzAt w.heap.size w a2 sz) (hl : src.length ≤ 10000000000) (hv : Vars w0.heap.size w0) :
    Calls Tryd.prog 24 #[.slice a1 src.length k1, .slice a2 sz.length k2, .agg #[.bool s.d, .int .i64 s.m, .int .u64 s.wh, .bool s.cu, .string s.f1, .string s.f2]] w (TokPost w s.cfg src) := by
  refine (tokens_fit w a1 a2 k1 k2 src sz s h (hs.up hb hb.size) hsz (by unfold Fits; omega) hl ((hv.move hb).mono hb.size)).mono ?_
  rintro e w' ⟨v, rfl, hR, hb'⟩
  obtain ⟨A, c, rfl, hc, hC⟩ := Kd.R_reads hR
  rw [errNum_wrap _ _ hl]
  exact ⟨A, c, rfl, hc, hC, hb'⟩
theorem boxed (w : World) (s : Stp) : Below w.heap.size w (w.alloc (Obj.cells #[.bool s.d, .int .i64 s.m, .int .u64 s.wh, .bool s.cu, .string s.f1, .string s.f2] 25)) := (Below.refl _ w).alloc (Nat.le_refl _) _
end Go.Proofs.YtmfihkgbfoapaaaDoor
namespace Go.Proofs.YtmfihkgbfoapaaaDoor
set_option linter.unusedVariables false
set_option linter.unusedSimpArgs false
open Go Go.RowKit Go.Lib Go.BigFrame Go.Proofs.YtmfihkgbfoapaaaDoorW.PrintWords
theorem SzAt.C {B : Nat} {w : World} {A : Option Addr} {l : List Int} (h : SzAt B w A l) (hl : l.length ≤ 9223372036854775807) : Kd.C (Kd.int .i64) w A l.length l := by
  refine Kd.C_of_reads (readsInt_of.1 ⟨rfl, hl, fun h0 => ?_⟩)
  obtain ⟨g, o, rfl, _, hc⟩ := h.2 h0
  refine ⟨_, rfl, fun j hj => ?_⟩
  rw [Addr.add_lit]; exact hc j hj
theorem SzAt.up {B B' : Nat} {w w1 : World} {a : Option Addr} {l : List Int} (h : SzAt B w a l) (hb : Below B w w1) (hB : B ≤ B') : SzAt B' w1 a l := by
  obtain ⟨h1, h2⟩ := h.of (w' := w1) fun k hk => hb.block k hk
  refine ⟨h1, fun h0 => ?_⟩
  obtain ⟨g, o, ha, hg, hc⟩ := h2 h0
  exact ⟨g, o, ha, by omega, hc⟩
theorem same_at (w : World) (A1 A2 : Option Addr) (c1 c2 : Nat) (xs ys : List K.S37) (h1 : Kd.C K.k37 w A1 xs.length xs) (hc1 : xs.length ≤ c1) (h2 : Kd.C K.k37 w A2 ys.length ys) (hc2 : ys.length ≤ c2) (k : Nat) (h : K.laws_same.f k xs ys = some true) :
    Calls Tryd.prog 29 #[.slice A1 xs.length c1, .slice A2 ys.length c2] w fun e w' => e = .returned (.bool true) ∧ Below w.heap.size w w' :=
  K.laws_same.calls k A1 c1 xs A2 c2 ys true w h1 hc1 h2 hc2 h
end Go.Proofs.YtmfihkgbfoapaaaDoor
namespace Go.Proofs.YtmfihkgbfoapaaaDoor
set_option linter.unusedVariables false
set_option linter.unusedSimpArgs false
open Go Go.RowKit Go.Lib Go.BigFrame Go.Proofs.YtmfihkgbfoapaaaDoorW.PrintWords
def chr (src : List UInt8) (l : List Item) : K.S90 := ⟨chOf l, ((match l with | c :: _ => c.n | [] => 0 : Nat) : Int), ⟨offOf src l, lineAt src l, colAt src l⟩⟩
def charsOf (src : List UInt8) : List Item → List K.S90
  | [] => [chr src []]
  | c :: l => chr src (c :: l) :: charsOf src l
def okc (c : Item) : Bool := !c.bad && c.r != 0 && c.r != 65279
def sureL (l : List Item) : Bool := l.all okc
end Go.Proofs.YtmfihkgbfoapaaaDoor
namespace Go.Proofs.YtmfihkgbfoapaaaDoor
set_option linter.unusedVariables false
open Go Go.RowKit Go.Lib Go.Shelf Go.ChangeShapes Go.WideShapes Go.ChangeAt Go.Deep
theorem cells3 : Tryd.prog.cellsOf 3 = 1 := by kernel_rfl
theorem cells23 : Tryd.prog.cellsOf 23 = 1 := by kernel_rfl
theorem cells9 : Tryd.prog.cellsOf 9 = 1 := by kernel_rfl
end Go.Proofs.YtmfihkgbfoapaaaDoor
