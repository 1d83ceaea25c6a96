/- laws.FnRunes: the row and the card: whatever the arguments, the call returns true. Conditions: the row's own (the listed variables of package unicode, utf8, io, bytes). -/
import Derived.Test.YtmfihkgbfoapaaaDoorV4
import Derived.Test.YtmfihkgbfoapaaaDoorT0
import Derived.Test.YtmfihkgbfoapaaaDoorChecked
import Derived.Carry
import Derived.SevenTiedAt
import Derived.MakeChecks
import Derived.ProofKit
import Derived.LaidOnce
import Derived.LaidByTextLater
import Derived.Lay
import Derived.PinnedBridge
import Derived.Test.YtmfihkgbfoapaaaDoorTie
import Derived.Test.YtmfihkgbfoapaaaDoorCards
namespace Go.Proofs.YtmfihkgbfoapaaaDoor
set_option linter.unusedVariables false
open Go Go.RowKit Go.Lib Go.Shelf Go.ChangeShapes Go.WideShapes Go.ChangeAt
theorem own : ownKnob Tryd.prog.godebug = none := by kernel_rfl
theorem laidOut : laidOutB Tryd.prog = true := by kernel_rfl
set_option maxRecDepth 100000 in
theorem lifted (os : Os) (started : os.Started) (H : Type) (enc : TypeId × Value → H) :
    ReturnsInHanded {} Tryd.checked os 17 .any (fun w args => (Rows.fnRunesSpec.pre enc Tryd.prog Tryd.f17 [] false w args ∧ laidMetH Tryd.prog Rows.fnRunesRow.laid w) ∧ sizedMet enc Tryd.prog Tryd.f17 (OpenSpec.ofChange Rows.fnRunesSpec) false w args)
      (Rows.fnRunesSpec.post enc Tryd.prog Tryd.f17 false true false false) := by
  refine returnsInHanded_of_change_and (C := Tryd.checked) (X := fun w _ => laidMetH Tryd.prog Rows.fnRunesRow.laid w) (fun _ _ _ hh h => h.of_heap hh) own started (by kernel_rfl) Tryd.func17
    (ChangeSpec.witness_shaped (enc := enc) (C := Tryd.checked) (os := os) (X := fun w _ => laidMetH Tryd.prog Rows.fnRunesRow.laid w) false (World.laidAll Tryd.prog os Rows.fnRunesRow.laid) #[.slice none 0 0, .slice none 0 0] 8 (World.laidAll_os _ _ _)
      (World.shaped_of_ZipB (by kernel_rfl) (by kernel_rfl)) (by kernel_rfl) (by kernel_rfl) (by kernel_rfl)
      (by rw [Go.MakeChecks.laidMetH_plain _ _ _ (by kernel_rfl)]; exact laidMet_laidAll _ (by kernel_rfl) (by kernel_rfl))) ?_
  intro W base args ds gs before hval0 hW _ _ hL _
  have hval : ∀ (j : Nat) t v, Tryd.f17.params[j]? = some t → args[j]? = some v → Value.okWide Tryd.prog W .any base t v := hval0
  have hW' := hW
  obtain ⟨p, q, hA0, hV, rfl, _, _⟩ := hW
  have hA : DataW.TrodAll enc Tryd.prog W 0 (fun _ => true) true Tryd.f17.params.toList args.toList ds p := hA0
  rw [Tryd.params17] at hA hval
  obtain ⟨v0, v1, d0, d1, p0, p1, rfl, rfl, rfl, h0, h1⟩ := trodAll_two hA
  obtain ⟨rfl, rfl⟩ := trodVars_none hV
  have k0 := h0
  have lt0 : ∀ x ∈ p0, x.block < W.heap.size := by obtain ⟨m, hm⟩ := k0; exact DataW.trod_lt m _ _ _ hm
  obtain ⟨a0, c0, src0, rfl, s0⟩ := open_src (hval 0 22 v0 rfl rfl) h0
  have k1 := h1
  have lt1 : ∀ x ∈ p1, x.block < W.heap.size := by obtain ⟨m, hm⟩ := k1; exact DataW.trod_lt m _ _ _ hm
  obtain ⟨a1, c1, sz1, rfl, z1, zc1, zw1⟩ := open_sz (hval 1 49 v1 rfl rfl) h1
  rw [Go.MakeChecks.laidMetH_plain _ _ _ (by kernel_rfl)] at hL
  refine (fnrunes W a0 c0 src0 a1 c1 sz1 s0 z1 zc1 zw1 (vars_of (size8 hL) hL)).mono fun e W' ⟨he, hb⟩ => ?_
  subst he
  exact ⟨_, rfl, _, _, _, [], _, [], hW', trodAll_mk1 (shut_bool Tryd.underlying4 _), trodAll_mk2 (Below.trod laidOut (by kernel_rfl) (of_decide_eq_true (by kernel_rfl)) k0 hb lt0) (Below.trod laidOut (by kernel_rfl) (of_decide_eq_true (by kernel_rfl)) k1 hb lt1), rfl, hb.frame _, fun h => by cases h⟩
theorem fnRunes_holds : Rows.FnRunesSaid :=
  OpenClaim.holds_of_wide 17 Tryd.f17 rfl rfl rfl rfl rfl rfl rfl ⟨rfl, rfl, rfl, rfl, rfl⟩ rfl rfl rfl rfl rfl (by kernel_rfl) Tryd.func17 (by kernel_rfl)
    (of_decide_eq_true (by kernel_rfl)) (by unfold Func.isWrapper; first | (rw [if_pos (by decide +kernel)]; kernel_rfl) | (rw [if_neg (by decide +kernel)]; exact ⟨rfl, rfl⟩))
    (fun os started H enc _ => lifted os started H enc)
theorem fnRunes_card : Rows.FnRunesCardSaid :=
  Claim7.holds_tied_plain_at .later [] [.data, .sentinel, .data, .sentinel, .pinned, .pinned, .pinned] true (true, "8cd2102d094c810226bac6b32bdeb5e55e1fde6d57f2245febe696c4e64c86ef") true fnRunes_holds (fun _ h => by cases h) (by kernel_rfl) (fun _ h => by cases h) fnRunes_row_tie rfl ⟨rfl, rfl⟩ (by kernel_rfl) rfl
    (fun f fn hf hfn => by
      obtain rfl : f = 17 := Option.some.inj ((show Tryd.prog.funcNamed "sieveplate/laws.FnRunes" = some 17 by kernel_rfl).symm.trans hf) |>.symm
      obtain rfl : fn = Tryd.f17 := (Option.some.inj (Tryd.func17.symm.trans hfn)).symm
      exact ⟨by kernel_rfl, fun j t ht => by
        rw [Tryd.params17] at ht
        have hm : t ∈ [22, 49] := by simpa using Array.mem_of_getElem? ht
        have hall : ([22, 49].all fun u => !Tryd.prog.wantsStandIn u) = true := by kernel_rfl
        exact (show Tryd.prog.wantsStandIn t = false by simpa using List.all_eq_true.1 hall t hm)⟩)
    (by kernel_rfl)
end Go.Proofs.YtmfihkgbfoapaaaDoor
