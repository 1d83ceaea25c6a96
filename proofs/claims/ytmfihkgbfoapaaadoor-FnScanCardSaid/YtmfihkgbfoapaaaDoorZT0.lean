/- Own texts T0 L10 of this claim, cut to what the claim uses. -/
import Derived.Test.YtmfihkgbfoapaaaDoorZR0
import Derived.Test.YtmfihkgbfoapaaaDoorZS2
import Derived.Lib.SmallJoins
import Derived.ChangeMaps5
import Derived.Test.YtmfihkgbfoapaaaDoorZX13
import Derived.Test.YtmfihkgbfoapaaaDoorChecked
import Derived.Carry
import Derived.SevenTiedAt
import Derived.MakeChecks
import Derived.ProofKit
import Derived.LaidOnce
import Derived.LaidByTextLater
import Derived.Lay
import Derived.PinnedBridge
import Derived.Test.YtmfihkgbfoapaaaDoorTie
import Derived.Test.YtmfihkgbfoapaaaDoorCards
namespace Go.Proofs.YtmfihkgbfoapaaaDoor
set_option linter.unusedVariables false
open Go Go.RowKit Go.Lib Go.Shelf Go.ChangeShapes Go.WideShapes Go.ChangeAt Go.Deep
theorem cells25 : Tryd.prog.cellsOf 25 = 6 := by kernel_rfl
theorem cells4 : Tryd.prog.cellsOf 4 = 1 := by kernel_rfl
theorem cells3 : Tryd.prog.cellsOf 3 = 1 := by kernel_rfl
theorem cells23 : Tryd.prog.cellsOf 23 = 1 := by kernel_rfl
theorem cells9 : Tryd.prog.cellsOf 9 = 1 := by kernel_rfl
set_option maxRecDepth 100000 in
theorem open_set {H : Type} {enc : TypeId × Value → H} {W : World} {base : Nat} {v : Value} {d : DataW H} {p : List MemPlace} (hval : Value.okWide Tryd.prog W .any base 25 v) (h : DataW.Trod enc Tryd.prog W 0 (fun _ => true) true 25 v d p) :
    ∃ s : Stp, v = .agg #[.bool s.d, .int .i64 s.m, .int .u64 s.wh, .bool s.cu, .string s.f1, .string s.f2] ∧ s.f1.size ≤ maxLen ∧ s.f2.size ≤ maxLen := by
  obtain ⟨cs, rfl, hsz⟩ := okWide_struct Tryd.underlying25 hval
  obtain ⟨fuel, hf⟩ := h
  obtain ⟨xs, n, _, hx, _, hlen, hg⟩ := DataW.trod_struct Tryd.underlying25 hf
  have hl6 : cs.toList.length = 6 := by
    have := hsz.trans cells25
    simpa using this
  obtain ⟨l⟩ := cs
  match l, hl6 with
  | [c0, c1, c2, c3, c4, c5], _ =>
    match xs, hlen with
    | [y0, y1, y2, y3, y4, y5], _ =>
      have g0 : DataW.trod enc Tryd.prog W 0 (fun _ => true) true n 4 (([c0, c1, c2, c3, c4, c5].drop 0).take (Tryd.prog.cellsOf 4)) = some y0 := hg 0 _ rfl
      have g1 : DataW.trod enc Tryd.prog W 0 (fun _ => true) true n 3 (([c0, c1, c2, c3, c4, c5].drop 1).take (Tryd.prog.cellsOf 3)) = some y1 := hg 1 _ rfl
      have g2 : DataW.trod enc Tryd.prog W 0 (fun _ => true) true n 23 (([c0, c1, c2, c3, c4, c5].drop 2).take (Tryd.prog.cellsOf 23)) = some y2 := hg 2 _ rfl
      have g3 : DataW.trod enc Tryd.prog W 0 (fun _ => true) true n 4 (([c0, c1, c2, c3, c4, c5].drop 3).take (Tryd.prog.cellsOf 4)) = some y3 := hg 3 _ rfl
      have g4 : DataW.trod enc Tryd.prog W 0 (fun _ => true) true n 9 (([c0, c1, c2, c3, c4, c5].drop 4).take (Tryd.prog.cellsOf 9)) = some y4 := hg 4 _ rfl
      have g5 : DataW.trod enc Tryd.prog W 0 (fun _ => true) true n 9 (([c0, c1, c2, c3, c4, c5].drop 5).take (Tryd.prog.cellsOf 9)) = some y5 := hg 5 _ rfl
      rw [cells4] at g0
      rw [cells3] at g1
      rw [cells23] at g2
      rw [cells4] at g3
      rw [cells9] at g4
      rw [cells9] at g5
      obtain ⟨b0, e0, -⟩ := DataW.trod_bool Tryd.underlying4 g0
      obtain ⟨b1, e1, -⟩ := DataW.trod_int Tryd.underlying3 g1
      obtain ⟨b2, e2, -⟩ := DataW.trod_int Tryd.underlying23 g2
      obtain ⟨b3, e3, -⟩ := DataW.trod_bool Tryd.underlying4 g3
      obtain ⟨b4, e4, -, z4⟩ := DataW.trod_string Tryd.underlying9 g4
      obtain ⟨b5, e5, -, z5⟩ := DataW.trod_string Tryd.underlying9 g5
      cases e0
      cases e1
      cases e2
      cases e3
      cases e4
      cases e5
      exact ⟨⟨b0, b1, b2, b3, b4, b5⟩, rfl, z4, z5⟩
end Go.Proofs.YtmfihkgbfoapaaaDoor
namespace Go.Proofs.YtmfihkgbfoapaaaDoor
set_option linter.unusedVariables false
open Go Go.RowKit Go.Lib Go.Shelf Go.ChangeShapes Go.WideShapes Go.ChangeAt
theorem own : ownKnob Tryd.prog.godebug = none := by kernel_rfl
theorem laidOut : laidOutB Tryd.prog = true := by kernel_rfl
set_option maxRecDepth 100000 in
theorem lifted (os : Os) (started : os.Started) (H : Type) (enc : TypeId × Value → H) :
    ReturnsInHanded {} Tryd.checked os 10 .any (fun w args => (Rows.fnScanSpec.pre enc Tryd.prog Tryd.f10 [] false w args ∧ laidMetH Tryd.prog Rows.fnScanRow.laid w) ∧ sizedMet enc Tryd.prog Tryd.f10 (OpenSpec.ofChange Rows.fnScanSpec) false w args)
      (Rows.fnScanSpec.post enc Tryd.prog Tryd.f10 false true false false) := by
  refine returnsInHanded_of_change_and (C := Tryd.checked) (X := fun w _ => laidMetH Tryd.prog Rows.fnScanRow.laid w) (fun _ _ _ hh h => h.of_heap hh) own started (by kernel_rfl) Tryd.func10
    (ChangeSpec.witness_shaped (enc := enc) (C := Tryd.checked) (os := os) (X := fun w _ => laidMetH Tryd.prog Rows.fnScanRow.laid w) false (World.laidAll Tryd.prog os Rows.fnScanRow.laid) #[.slice none 0 0, .agg #[.bool false, .int .i64 0, .int .u64 0, .bool false, .string ⟨#[]⟩, .string ⟨#[]⟩]] 8 (World.laidAll_os _ _ _)
      (World.shaped_of_ZipB (by kernel_rfl) (by kernel_rfl)) (by kernel_rfl) (by kernel_rfl) (by kernel_rfl)
      (by rw [Go.MakeChecks.laidMetH_plain _ _ _ (by kernel_rfl)]; exact laidMet_laidAll _ (by kernel_rfl) (by kernel_rfl))) ?_
  intro W base args ds gs before hval0 hW _ _ hL _
  have hval : ∀ (j : Nat) t v, Tryd.f10.params[j]? = some t → args[j]? = some v → Value.okWide Tryd.prog W .any base t v := hval0
  have hW' := hW
  obtain ⟨p, q, hA0, hV, rfl, _, _⟩ := hW
  have hA : DataW.TrodAll enc Tryd.prog W 0 (fun _ => true) true Tryd.f10.params.toList args.toList ds p := hA0
  rw [Tryd.params10] at hA hval
  obtain ⟨v0, v1, d0, d1, p0, p1, rfl, rfl, rfl, h0, h1⟩ := trodAll_two hA
  obtain ⟨rfl, rfl⟩ := trodVars_none hV
  have k0 := h0
  have lt0 : ∀ x ∈ p0, x.block < W.heap.size := by obtain ⟨m, hm⟩ := k0; exact DataW.trod_lt m _ _ _ hm
  obtain ⟨a0, c0, src0, rfl, s0⟩ := open_src (hval 0 22 v0 rfl rfl) h0
  have k1 := h1
  have lt1 : ∀ x ∈ p1, x.block < W.heap.size := by obtain ⟨m, hm⟩ := k1; exact DataW.trod_lt m _ _ _ hm
  obtain ⟨set1, rfl, y1, x1⟩ := open_set (hval 1 25 v1 rfl rfl) h1
  rw [Go.MakeChecks.laidMetH_plain _ _ _ (by kernel_rfl)] at hL
  refine (fnscan W a0 c0 src0 set1 s0 (vars_of (size8 hL) hL)).mono fun e W' ⟨he, hb⟩ => ?_
  subst he
  exact ⟨_, rfl, _, _, _, [], _, [], hW', trodAll_mk1 (shut_bool Tryd.underlying4 _), trodAll_mk2 (Below.trod laidOut (by kernel_rfl) (of_decide_eq_true (by kernel_rfl)) k0 hb lt0) (Below.trod laidOut (by kernel_rfl) (of_decide_eq_true (by kernel_rfl)) k1 hb lt1), rfl, hb.frame _, fun h => by cases h⟩
theorem fnScan_holds : Rows.FnScanSaid :=
  OpenClaim.holds_of_wide 10 Tryd.f10 rfl rfl rfl rfl rfl rfl rfl ⟨rfl, rfl, rfl, rfl, rfl⟩ rfl rfl rfl rfl rfl (by kernel_rfl) Tryd.func10 (by kernel_rfl)
    (of_decide_eq_true (by kernel_rfl)) (by unfold Func.isWrapper; first | (rw [if_pos (by decide +kernel)]; kernel_rfl) | (rw [if_neg (by decide +kernel)]; exact ⟨rfl, rfl⟩))
    (fun os started H enc _ => lifted os started H enc)
theorem fnScan_card : Rows.FnScanCardSaid :=
  Claim7.holds_tied_plain_at .later [] [.data, .sentinel, .data, .sentinel, .pinned, .pinned, .pinned] true (true, "8cd2102d094c810226bac6b32bdeb5e55e1fde6d57f2245febe696c4e64c86ef") true fnScan_holds (fun _ h => by cases h) (by kernel_rfl) (fun _ h => by cases h) fnScan_row_tie rfl ⟨rfl, rfl⟩ (by kernel_rfl) rfl
    (fun f fn hf hfn => by
      obtain rfl : f = 10 := Option.some.inj ((show Tryd.prog.funcNamed "sieveplate/laws.FnScan" = some 10 by kernel_rfl).symm.trans hf) |>.symm
      obtain rfl : fn = Tryd.f10 := (Option.some.inj (Tryd.func10.symm.trans hfn)).symm
      exact ⟨by kernel_rfl, fun j t ht => by
        rw [Tryd.params10] at ht
        have hm : t ∈ [22, 25] := by simpa using Array.mem_of_getElem? ht
        have hall : ([22, 25].all fun u => !Tryd.prog.wantsStandIn u) = true := by kernel_rfl
        exact (show Tryd.prog.wantsStandIn t = false by simpa using List.all_eq_true.1 hall t hm)⟩)
    (by kernel_rfl)
end Go.Proofs.YtmfihkgbfoapaaaDoor
