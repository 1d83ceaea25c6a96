/- Own texts K4 K5 of this claim, cut to what the claim uses. -/
import Derived.Test.YtmfihkgbfoapaaaDoorZK0
namespace Go.Proofs.YtmfihkgbfoapaaaDoor.K
open Go.RowKit Go.Proofs.YtmfihkgbfoapaaaDoorW.PrintWords Go.Proofs.YtmfihkgbfoapaaaDoorW.PrintLast
set_option linter.unusedVariables false
set_option linter.unusedSimpArgs false
theorem info90 : (Tryd.prog.info? 90).map (fun i => (i.zero, i.size, i.bytes)) = some (some (.agg #[(.int .i32 0), (.int .i64 0), (.int .i64 0), (.int .i64 0), (.int .i64 0)]), 5, 40) := by kernel_rfl
structure S90 where
  f0 : Int
  f1 : Int
  f2 : S35
def z90 : S90 := ⟨(0 : Int), (0 : Int), z35⟩
def k90 : Kd S90 := Kd.iso (Kd.pair (Kd.int .i32) (Kd.pair (Kd.int .i64) k35)) (fun x : S90 => (x.f0, x.f1, x.f2))
theorem k90_open {w : World} {x : S90} {cs : List Value} (h : k90.K w x cs) : cs = [.int .i32 x.f0, .int .i64 x.f1, .int .i64 x.f2.f0, .int .i64 x.f2.f1, .int .i64 x.f2.f2] := by
  obtain ⟨_, _, rfl, rfl, ⟨_, _, rfl, rfl, s2⟩⟩ := h
  obtain rfl := k35_open s2
  exact rfl
theorem k90_openM {w : World} {base : Nat} {ok : Nat → Prop} {x : S90} {cs : List Value} (h : k90.M w base ok x cs) : cs = [.int .i32 x.f0, .int .i64 x.f1, .int .i64 x.f2.f0, .int .i64 x.f2.f1, .int .i64 x.f2.f2] := by
  obtain ⟨_, _, rfl, rfl, ⟨_, _, rfl, rfl, s2⟩⟩ := h
  obtain rfl := k35_openM s2
  exact rfl
theorem k90_mkM (w : World) (base : Nat) (ok : Nat → Prop) (x : S90)  : k90.M w base ok x [.int .i32 x.f0, .int .i64 x.f1, .int .i64 x.f2.f0, .int .i64 x.f2.f1, .int .i64 x.f2.f2] := ⟨[.int .i32 x.f0], [.int .i64 x.f1, .int .i64 x.f2.f0, .int .i64 x.f2.f1, .int .i64 x.f2.f2], rfl, rfl, ⟨[.int .i64 x.f1], [.int .i64 x.f2.f0, .int .i64 x.f2.f1, .int .i64 x.f2.f2], rfl, rfl, (k35_mkM w base ok x.f2 )⟩⟩
def rd_T90 (xs : List S90) (i : Int) : S90 := xs.getD i.toNat z90
theorem at_T90 {w : World} {A : Option Addr} {n : Nat} {xs : List S90} (h : Kd.C k90 w A n xs) (i : Int) (h0 : 0 ≤ i) (h1 : i < n) : ∃ ad , A = some ad ∧ w.cell? (ad.add (i.toNat * 5)) = some (.int .i32 (rd_T90 xs i).f0) ∧ w.cell? ⟨(ad.add (i.toNat * 5)).block, (ad.add (i.toNat * 5)).off + 1, none⟩ = some (.int .i64 (rd_T90 xs i).f1) ∧ w.cell? ⟨(ad.add (i.toNat * 5)).block, (ad.add (i.toNat * 5)).off + 2, none⟩ = some (.int .i64 (rd_T90 xs i).f2.f0) ∧ w.cell? ⟨(ad.add (i.toNat * 5)).block, (ad.add (i.toNat * 5)).off + 3, none⟩ = some (.int .i64 (rd_T90 xs i).f2.f1) ∧ w.cell? ⟨(ad.add (i.toNat * 5)).block, (ad.add (i.toNat * 5)).off + 4, none⟩ = some (.int .i64 (rd_T90 xs i).f2.f2) := by
  obtain ⟨ad, c, e, _, hK, hc0⟩ := Kd.C_get h z90 i h0 h1
  have hc : ∀ j u, c[j]? = some u → w.cell? (ad.add (i.toNat * 5 + j)) = some u := hc0
  obtain rfl := k90_open hK
  exact ⟨ad, e, hc 0 _ rfl, by rw [← add_field _ _ 1 (by omega)]; exact hc 1 _ rfl, by rw [← add_field _ _ 2 (by omega)]; exact hc 2 _ rfl, by rw [← add_field _ _ 3 (by omega)]; exact hc 3 _ rfl, by rw [← add_field _ _ 4 (by omega)]; exact hc 4 _ rfl⟩
structure S48 where
  f0 : Int
  f1 : S35
end Go.Proofs.YtmfihkgbfoapaaaDoor.K
namespace Go.Proofs.YtmfihkgbfoapaaaDoor.K
open Go.RowKit Go.Proofs.YtmfihkgbfoapaaaDoorW.PrintWords Go.Proofs.YtmfihkgbfoapaaaDoorW.PrintLast
set_option linter.unusedVariables false
set_option linter.unusedSimpArgs false
theorem info66 : (Tryd.prog.info? 66).map (fun i => (i.zero, i.size, i.bytes)) = some (some (.agg #[(.int .i64 0), (.int .u64 0)]), 2, 16) := by kernel_rfl
theorem info70 : (Tryd.prog.info? 70).map (fun i => (i.zero, i.size, i.bytes)) = some (some (.agg #[.int .i64 0, .string ⟨#[]⟩, .int .i64 0, .int .i64 0, .int .i64 0, .int .i64 0, .int .i64 0, .int .i64 0]), 8, 72) := by kernel_rfl
structure S66 where
  f0 : Int
  f1 : Int
def z66 : S66 := ⟨(0 : Int), (0 : Int)⟩
def k66 : Kd S66 := Kd.iso (Kd.pair (Kd.int .i64) (Kd.int .u64)) (fun x : S66 => (x.f0, x.f1))
theorem k66_open {w : World} {x : S66} {cs : List Value} (h : k66.K w x cs) : cs = [.int .i64 x.f0, .int .u64 x.f1] := by
  obtain ⟨_, _, rfl, rfl, rfl⟩ := h
  exact rfl
theorem k66_mk (w : World) (x : S66) : k66.K w x [.int .i64 x.f0, .int .u64 x.f1] := ⟨[.int .i64 x.f0], [.int .u64 x.f1], rfl, rfl, rfl⟩
theorem k66_mkM (w : World) (base : Nat) (ok : Nat → Prop) (x : S66) : k66.M w base ok x [.int .i64 x.f0, .int .u64 x.f1] := ⟨[.int .i64 x.f0], [.int .u64 x.f1], rfl, rfl, rfl⟩
def rd_T66 (xs : List S66) (i : Int) : S66 := xs.getD i.toNat z66
theorem at_T66 {w : World} {A : Option Addr} {n : Nat} {xs : List S66} (h : Kd.C k66 w A n xs) (i : Int) (h0 : 0 ≤ i) (h1 : i < n) : ∃ ad , A = some ad ∧ w.cell? (ad.add (i.toNat * 2)) = some (.int .i64 (rd_T66 xs i).f0) ∧ w.cell? ⟨(ad.add (i.toNat * 2)).block, (ad.add (i.toNat * 2)).off + 1, none⟩ = some (.int .u64 (rd_T66 xs i).f1) := by
  obtain ⟨ad, c, e, _, hK, hc0⟩ := Kd.C_get h z66 i h0 h1
  have hc : ∀ j u, c[j]? = some u → w.cell? (ad.add (i.toNat * 2 + j)) = some u := hc0
  obtain rfl := k66_open hK
  exact ⟨ad, e, hc 0 _ rfl, by rw [← add_field _ _ 1 (by omega)]; exact hc 1 _ rfl⟩
end Go.Proofs.YtmfihkgbfoapaaaDoor.K
