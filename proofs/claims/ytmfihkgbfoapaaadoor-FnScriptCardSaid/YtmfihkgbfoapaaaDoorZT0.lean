/- Own texts T0 of this claim, cut to what the claim uses. -/
import Derived.Test.YtmfihkgbfoapaaaDoorZR0
import Derived.Test.YtmfihkgbfoapaaaDoorZS2
import Derived.Lib.SmallJoins
import Derived.ChangeMaps5
namespace Go.Proofs.YtmfihkgbfoapaaaDoor
set_option linter.unusedVariables false
open Go Go.RowKit Go.Lib Go.Shelf Go.ChangeShapes Go.WideShapes Go.ChangeAt Go.Deep
theorem cells25 : Tryd.prog.cellsOf 25 = 6 := by kernel_rfl
theorem cells4 : Tryd.prog.cellsOf 4 = 1 := by kernel_rfl
theorem cells3 : Tryd.prog.cellsOf 3 = 1 := by kernel_rfl
theorem cells23 : Tryd.prog.cellsOf 23 = 1 := by kernel_rfl
theorem cells9 : Tryd.prog.cellsOf 9 = 1 := by kernel_rfl
set_option maxRecDepth 100000 in
theorem open_set {H : Type} {enc : TypeId × Value → H} {W : World} {base : Nat} {v : Value} {d : DataW H} {p : List MemPlace} (hval : Value.okWide Tryd.prog W .any base 25 v) (h : DataW.Trod enc Tryd.prog W 0 (fun _ => true) true 25 v d p) :
    ∃ s : Stp, v = .agg #[.bool s.d, .int .i64 s.m, .int .u64 s.wh, .bool s.cu, .string s.f1, .string s.f2] ∧ s.f1.size ≤ maxLen ∧ s.f2.size ≤ maxLen := by
  obtain ⟨cs, rfl, hsz⟩ := okWide_struct Tryd.underlying25 hval
  obtain ⟨fuel, hf⟩ := h
  obtain ⟨xs, n, _, hx, _, hlen, hg⟩ := DataW.trod_struct Tryd.underlying25 hf
  have hl6 : cs.toList.length = 6 := by
    have := hsz.trans cells25
    simpa using this
  obtain ⟨l⟩ := cs
  match l, hl6 with
  | [c0, c1, c2, c3, c4, c5], _ =>
    match xs, hlen with
    | [y0, y1, y2, y3, y4, y5], _ =>
      have g0 : DataW.trod enc Tryd.prog W 0 (fun _ => true) true n 4 (([c0, c1, c2, c3, c4, c5].drop 0).take (Tryd.prog.cellsOf 4)) = some y0 := hg 0 _ rfl
      have g1 : DataW.trod enc Tryd.prog W 0 (fun _ => true) true n 3 (([c0, c1, c2, c3, c4, c5].drop 1).take (Tryd.prog.cellsOf 3)) = some y1 := hg 1 _ rfl
      have g2 : DataW.trod enc Tryd.prog W 0 (fun _ => true) true n 23 (([c0, c1, c2, c3, c4, c5].drop 2).take (Tryd.prog.cellsOf 23)) = some y2 := hg 2 _ rfl
      have g3 : DataW.trod enc Tryd.prog W 0 (fun _ => true) true n 4 (([c0, c1, c2, c3, c4, c5].drop 3).take (Tryd.prog.cellsOf 4)) = some y3 := hg 3 _ rfl
      have g4 : DataW.trod enc Tryd.prog W 0 (fun _ => true) true n 9 (([c0, c1, c2, c3, c4, c5].drop 4).take (Tryd.prog.cellsOf 9)) = some y4 := hg 4 _ rfl
      have g5 : DataW.trod enc Tryd.prog W 0 (fun _ => true) true n 9 (([c0, c1, c2, c3, c4, c5].drop 5).take (Tryd.prog.cellsOf 9)) = some y5 := hg 5 _ rfl
      rw [cells4] at g0
      rw [cells3] at g1
      rw [cells23] at g2
      rw [cells4] at g3
      rw [cells9] at g4
      rw [cells9] at g5
      obtain ⟨b0, e0, -⟩ := DataW.trod_bool Tryd.underlying4 g0
      obtain ⟨b1, e1, -⟩ := DataW.trod_int Tryd.underlying3 g1
      obtain ⟨b2, e2, -⟩ := DataW.trod_int Tryd.underlying23 g2
      obtain ⟨b3, e3, -⟩ := DataW.trod_bool Tryd.underlying4 g3
      obtain ⟨b4, e4, -, z4⟩ := DataW.trod_string Tryd.underlying9 g4
      obtain ⟨b5, e5, -, z5⟩ := DataW.trod_string Tryd.underlying9 g5
      cases e0
      cases e1
      cases e2
      cases e3
      cases e4
      cases e5
      exact ⟨⟨b0, b1, b2, b3, b4, b5⟩, rfl, z4, z5⟩
end Go.Proofs.YtmfihkgbfoapaaaDoor
