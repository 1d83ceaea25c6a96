/- Own texts K0 K4 K5 of this claim, cut to what the claim uses. -/
import Derived.Test.YtmfihkgbfoapaaaDoorProg
import Derived.Below
import Derived.Deep.Draws
import Derived.Deep.AppendLies
import Derived.Maps.AppendAt
import Derived.OwnWalk
import Derived.Laws.BytesArg
import Derived.Laws.MakeOwn
import Derived.Laws.OwnMore
import Derived.Deep.OwnRows
import Derived.Tactics
import Derived.Lib.ConvBytes
import Derived.Laws.Slices
import Derived.WalkKit
import Derived.KernelRfl
import Derived.RowKit3
import Derived.Deep.LoopGhost
import Derived.Deep.QuietTactic
import Derived.BigQuiet
import Derived.WideLaws
import Derived.Deep.DeepCutAuto
import Derived.Deep.CutBlock
import Derived.Deep.RegionHeld3
import Derived.Laws.Rows
import Derived.Lib.AppendStr
import Derived.ArgAppend
import Derived.Laws.IdiomCopy
import Derived.OrdersHeld
import Derived.Laws.BitsLemmas
import Derived.RowKit
import Derived.Test.YtmfihkgbfoapaaaDoorZWWords
namespace Go.Proofs.YtmfihkgbfoapaaaDoor.K
open Go.RowKit Go.Proofs.YtmfihkgbfoapaaaDoorW.PrintWords Go.Proofs.YtmfihkgbfoapaaaDoorW.PrintLast
set_option linter.unusedVariables false
set_option linter.unusedSimpArgs false
def shr (k : IntKind) (x y : Int) : Int := x / 2 ^ min y.toNat k.bits
theorem shr_small {k : IntKind} {x y j : Int} (h : shr k x y = j) (hy : y ≤ k.bits) : x / 2 ^ y.toNat = j := by
  rw [← h]; unfold shr; rw [Nat.min_eq_left (by omega)]
def errW : Option Int → Value
  | none => .nilIface
  | some c => .iface 0 (.int .i64 c)
theorem errW_none : errW none = .nilIface := rfl
theorem errW_some (c : Int) : errW (some c) = .iface 0 (.int .i64 c) := rfl
structure S170 where
  f0 : Int
  f1 : Int
  f2 : Int
structure S173 where
  f0 : Int
  f1 : Int
  f2 : Int
structure S35 where
  f0 : Int
  f1 : Int
  f2 : Int
def z35 : S35 := ⟨(0 : Int), (0 : Int), (0 : Int)⟩
def k35 : Kd S35 := Kd.iso (Kd.pair (Kd.int .i64) (Kd.pair (Kd.int .i64) (Kd.int .i64))) (fun x : S35 => (x.f0, x.f1, x.f2))
theorem k35_open {w : World} {x : S35} {cs : List Value} (h : k35.K w x cs) : cs = [.int .i64 x.f0, .int .i64 x.f1, .int .i64 x.f2] := by
  obtain ⟨_, _, rfl, rfl, ⟨_, _, rfl, rfl, rfl⟩⟩ := h
  exact rfl
theorem k35_openM {w : World} {base : Nat} {ok : Nat → Prop} {x : S35} {cs : List Value} (h : k35.M w base ok x cs) : cs = [.int .i64 x.f0, .int .i64 x.f1, .int .i64 x.f2] := by
  obtain ⟨_, _, rfl, rfl, ⟨_, _, rfl, rfl, rfl⟩⟩ := h
  exact rfl
theorem k35_mkM (w : World) (base : Nat) (ok : Nat → Prop) (x : S35)  : k35.M w base ok x [.int .i64 x.f0, .int .i64 x.f1, .int .i64 x.f2] := ⟨[.int .i64 x.f0], [.int .i64 x.f1, .int .i64 x.f2], rfl, rfl, ⟨[.int .i64 x.f1], [.int .i64 x.f2], rfl, rfl, rfl⟩⟩
structure S37 where
  f0 : Int
  f1 : ByteArray
  f2 : S35
  f3 : S35
def z37 : S37 := ⟨(0 : Int), (⟨#[]⟩ : ByteArray), z35, z35⟩
def k37 : Kd S37 := Kd.iso (Kd.pair (Kd.int .i64) (Kd.pair Kd.string (Kd.pair k35 k35))) (fun x : S37 => (x.f0, x.f1, x.f2, x.f3))
theorem k37_open {w : World} {x : S37} {cs : List Value} (h : k37.K w x cs) : cs = [.int .i64 x.f0, .string x.f1, .int .i64 x.f2.f0, .int .i64 x.f2.f1, .int .i64 x.f2.f2, .int .i64 x.f3.f0, .int .i64 x.f3.f1, .int .i64 x.f3.f2] := by
  obtain ⟨_, _, rfl, rfl, ⟨_, _, rfl, rfl, ⟨_, _, rfl, s2, s5⟩⟩⟩ := h
  obtain rfl := k35_open s2
  obtain rfl := k35_open s5
  exact rfl
theorem k37_openM {w : World} {base : Nat} {ok : Nat → Prop} {x : S37} {cs : List Value} (h : k37.M w base ok x cs) : cs = [.int .i64 x.f0, .string x.f1, .int .i64 x.f2.f0, .int .i64 x.f2.f1, .int .i64 x.f2.f2, .int .i64 x.f3.f0, .int .i64 x.f3.f1, .int .i64 x.f3.f2] := by
  obtain ⟨_, _, rfl, rfl, ⟨_, _, rfl, rfl, ⟨_, _, rfl, s2, s5⟩⟩⟩ := h
  obtain rfl := k35_openM s2
  obtain rfl := k35_openM s5
  exact rfl
theorem k37_mkM (w : World) (base : Nat) (ok : Nat → Prop) (x : S37)  : k37.M w base ok x [.int .i64 x.f0, .string x.f1, .int .i64 x.f2.f0, .int .i64 x.f2.f1, .int .i64 x.f2.f2, .int .i64 x.f3.f0, .int .i64 x.f3.f1, .int .i64 x.f3.f2] := ⟨[.int .i64 x.f0], [.string x.f1, .int .i64 x.f2.f0, .int .i64 x.f2.f1, .int .i64 x.f2.f2, .int .i64 x.f3.f0, .int .i64 x.f3.f1, .int .i64 x.f3.f2], rfl, rfl, ⟨[.string x.f1], [.int .i64 x.f2.f0, .int .i64 x.f2.f1, .int .i64 x.f2.f2, .int .i64 x.f3.f0, .int .i64 x.f3.f1, .int .i64 x.f3.f2], rfl, rfl, ⟨[.int .i64 x.f2.f0, .int .i64 x.f2.f1, .int .i64 x.f2.f2], [.int .i64 x.f3.f0, .int .i64 x.f3.f1, .int .i64 x.f3.f2], rfl, (k35_mkM w base ok x.f2 ), (k35_mkM w base ok x.f3 )⟩⟩⟩
def rd_T37 (xs : List S37) (i : Int) : S37 := xs.getD i.toNat z37
theorem at_T37 {w : World} {A : Option Addr} {n : Nat} {xs : List S37} (h : Kd.C k37 w A n xs) (i : Int) (h0 : 0 ≤ i) (h1 : i < n) : ∃ ad , A = some ad ∧ w.cell? (ad.add (i.toNat * 8)) = some (.int .i64 (rd_T37 xs i).f0) ∧ w.cell? ⟨(ad.add (i.toNat * 8)).block, (ad.add (i.toNat * 8)).off + 1, none⟩ = some (.string (rd_T37 xs i).f1) ∧ w.cell? ⟨(ad.add (i.toNat * 8)).block, (ad.add (i.toNat * 8)).off + 2, none⟩ = some (.int .i64 (rd_T37 xs i).f2.f0) ∧ w.cell? ⟨(ad.add (i.toNat * 8)).block, (ad.add (i.toNat * 8)).off + 3, none⟩ = some (.int .i64 (rd_T37 xs i).f2.f1) ∧ w.cell? ⟨(ad.add (i.toNat * 8)).block, (ad.add (i.toNat * 8)).off + 4, none⟩ = some (.int .i64 (rd_T37 xs i).f2.f2) ∧ w.cell? ⟨(ad.add (i.toNat * 8)).block, (ad.add (i.toNat * 8)).off + 5, none⟩ = some (.int .i64 (rd_T37 xs i).f3.f0) ∧ w.cell? ⟨(ad.add (i.toNat * 8)).block, (ad.add (i.toNat * 8)).off + 6, none⟩ = some (.int .i64 (rd_T37 xs i).f3.f1) ∧ w.cell? ⟨(ad.add (i.toNat * 8)).block, (ad.add (i.toNat * 8)).off + 7, none⟩ = some (.int .i64 (rd_T37 xs i).f3.f2) := by
  obtain ⟨ad, c, e, _, hK, hc0⟩ := Kd.C_get h z37 i h0 h1
  have hc : ∀ j u, c[j]? = some u → w.cell? (ad.add (i.toNat * 8 + j)) = some u := hc0
  obtain rfl := k37_open hK
  exact ⟨ad, e, hc 0 _ rfl, by rw [← add_field _ _ 1 (by omega)]; exact hc 1 _ rfl, by rw [← add_field _ _ 2 (by omega)]; exact hc 2 _ rfl, by rw [← add_field _ _ 3 (by omega)]; exact hc 3 _ rfl, by rw [← add_field _ _ 4 (by omega)]; exact hc 4 _ rfl, by rw [← add_field _ _ 5 (by omega)]; exact hc 5 _ rfl, by rw [← add_field _ _ 6 (by omega)]; exact hc 6 _ rfl, by rw [← add_field _ _ 7 (by omega)]; exact hc 7 _ rfl⟩
end Go.Proofs.YtmfihkgbfoapaaaDoor.K
namespace Go.Proofs.YtmfihkgbfoapaaaDoor.K
open Go.RowKit Go.Proofs.YtmfihkgbfoapaaaDoorW.PrintWords Go.Proofs.YtmfihkgbfoapaaaDoorW.PrintLast
set_option linter.unusedVariables false
set_option linter.unusedSimpArgs false
structure S90 where
  f0 : Int
  f1 : Int
  f2 : S35
def k90 : Kd S90 := Kd.iso (Kd.pair (Kd.int .i32) (Kd.pair (Kd.int .i64) k35)) (fun x : S90 => (x.f0, x.f1, x.f2))
structure S48 where
  f0 : Int
  f1 : S35
end Go.Proofs.YtmfihkgbfoapaaaDoor.K
namespace Go.Proofs.YtmfihkgbfoapaaaDoor.K
open Go.RowKit Go.Proofs.YtmfihkgbfoapaaaDoorW.PrintWords Go.Proofs.YtmfihkgbfoapaaaDoorW.PrintLast
set_option linter.unusedVariables false
set_option linter.unusedSimpArgs false
structure S66 where
  f0 : Int
  f1 : Int
def z66 : S66 := ⟨(0 : Int), (0 : Int)⟩
end Go.Proofs.YtmfihkgbfoapaaaDoor.K
