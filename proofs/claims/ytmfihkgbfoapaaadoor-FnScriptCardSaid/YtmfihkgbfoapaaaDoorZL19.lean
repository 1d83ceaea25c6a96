/- laws.FnScript: the row and the card: whatever the arguments, the call returns true. Conditions: the row's own (the listed variables of package unicode, utf8, io, bytes). -/
import Derived.Test.YtmfihkgbfoapaaaDoorZX16
import Derived.Test.YtmfihkgbfoapaaaDoorZT0
import Derived.Test.YtmfihkgbfoapaaaDoorChecked
import Derived.Carry
import Derived.SevenTiedAt
import Derived.MakeChecks
import Derived.ProofKit
import Derived.LaidOnce
import Derived.LaidByTextLater
import Derived.Lay
import Derived.PinnedBridge
import Derived.Test.YtmfihkgbfoapaaaDoorTie
import Derived.Test.YtmfihkgbfoapaaaDoorCards
namespace Go.Proofs.YtmfihkgbfoapaaaDoor
set_option linter.unusedVariables false
open Go Go.RowKit Go.Lib Go.Shelf Go.ChangeShapes Go.WideShapes Go.ChangeAt
theorem own : ownKnob Tryd.prog.godebug = none := by kernel_rfl
theorem laidOut : laidOutB Tryd.prog = true := by kernel_rfl
set_option maxRecDepth 100000 in
theorem lifted (os : Os) (started : os.Started) (H : Type) (enc : TypeId × Value → H) :
    ReturnsInHanded {} Tryd.checked os 19 .any (fun w args => (Rows.fnScriptSpec.pre enc Tryd.prog Tryd.f19 [] false w args ∧ laidMetH Tryd.prog Rows.fnScriptRow.laid w) ∧ sizedMet enc Tryd.prog Tryd.f19 (OpenSpec.ofChange Rows.fnScriptSpec) false w args)
      (Rows.fnScriptSpec.post enc Tryd.prog Tryd.f19 false true false false) := by
  refine returnsInHanded_of_change_and (C := Tryd.checked) (X := fun w _ => laidMetH Tryd.prog Rows.fnScriptRow.laid w) (fun _ _ _ hh h => h.of_heap hh) own started (by kernel_rfl) Tryd.func19
    (ChangeSpec.witness_shaped (enc := enc) (C := Tryd.checked) (os := os) (X := fun w _ => laidMetH Tryd.prog Rows.fnScriptRow.laid w) false (World.laidAll Tryd.prog os Rows.fnScriptRow.laid) #[.slice none 0 0, .agg #[.bool false, .int .i64 0, .int .u64 0, .bool false, .string ⟨#[]⟩, .string ⟨#[]⟩], .slice none 0 0] 8 (World.laidAll_os _ _ _)
      (World.shaped_of_ZipB (by kernel_rfl) (by kernel_rfl)) (by kernel_rfl) (by kernel_rfl) (by kernel_rfl)
      (by rw [Go.MakeChecks.laidMetH_plain _ _ _ (by kernel_rfl)]; exact laidMet_laidAll _ (by kernel_rfl) (by kernel_rfl))) ?_
  intro W base args ds gs before hval0 hW _ _ hL _
  have hval : ∀ (j : Nat) t v, Tryd.f19.params[j]? = some t → args[j]? = some v → Value.okWide Tryd.prog W .any base t v := hval0
  have hW' := hW
  obtain ⟨p, q, hA0, hV, rfl, _, _⟩ := hW
  have hA : DataW.TrodAll enc Tryd.prog W 0 (fun _ => true) true Tryd.f19.params.toList args.toList ds p := hA0
  rw [Tryd.params19] at hA hval
  obtain ⟨v0, v1, v2, d0, d1, d2, p0, p1, p2, rfl, rfl, rfl, h0, h1, h2⟩ := trodAll_three hA
  obtain ⟨rfl, rfl⟩ := trodVars_none hV
  have k0 := h0
  have lt0 : ∀ x ∈ p0, x.block < W.heap.size := by obtain ⟨m, hm⟩ := k0; exact DataW.trod_lt m _ _ _ hm
  obtain ⟨a0, c0, src0, rfl, s0⟩ := open_src (hval 0 22 v0 rfl rfl) h0
  have k1 := h1
  have lt1 : ∀ x ∈ p1, x.block < W.heap.size := by obtain ⟨m, hm⟩ := k1; exact DataW.trod_lt m _ _ _ hm
  obtain ⟨set1, rfl, y1, x1⟩ := open_set (hval 1 25 v1 rfl rfl) h1
  have k2 := h2
  have lt2 : ∀ x ∈ p2, x.block < W.heap.size := by obtain ⟨m, hm⟩ := k2; exact DataW.trod_lt m _ _ _ hm
  obtain ⟨a2, c2, st2, rfl, z2⟩ := open_steps (hval 2 64 v2 rfl rfl) h2
  rw [Go.MakeChecks.laidMetH_plain _ _ _ (by kernel_rfl)] at hL
  refine (fnscript W a0 c0 src0 set1 a2 c2 st2 s0 z2 (vars_of (size8 hL) hL)).mono fun e W' ⟨he, hb⟩ => ?_
  subst he
  exact ⟨_, rfl, _, _, _, [], _, [], hW', trodAll_mk1 (shut_bool Tryd.underlying4 _), trodAll_mk3 (Below.trod laidOut (by kernel_rfl) (of_decide_eq_true (by kernel_rfl)) k0 hb lt0) (Below.trod laidOut (by kernel_rfl) (of_decide_eq_true (by kernel_rfl)) k1 hb lt1) (Below.trod laidOut (by kernel_rfl) (of_decide_eq_true (by kernel_rfl)) k2 hb lt2), rfl, hb.frame _, fun h => by cases h⟩
theorem fnScript_holds : Rows.FnScriptSaid :=
  OpenClaim.holds_of_wide 19 Tryd.f19 rfl rfl rfl rfl rfl rfl rfl ⟨rfl, rfl, rfl, rfl, rfl⟩ rfl rfl rfl rfl rfl (by kernel_rfl) Tryd.func19 (by kernel_rfl)
    (of_decide_eq_true (by kernel_rfl)) (by unfold Func.isWrapper; first | (rw [if_pos (by decide +kernel)]; kernel_rfl) | (rw [if_neg (by decide +kernel)]; exact ⟨rfl, rfl⟩))
    (fun os started H enc _ => lifted os started H enc)
theorem fnScript_card : Rows.FnScriptCardSaid :=
  Claim7.holds_tied_plain_at .later [] [.data, .sentinel, .data, .sentinel, .pinned, .pinned, .pinned] true (true, "8cd2102d094c810226bac6b32bdeb5e55e1fde6d57f2245febe696c4e64c86ef") true fnScript_holds (fun _ h => by cases h) (by kernel_rfl) (fun _ h => by cases h) fnScript_row_tie rfl ⟨rfl, rfl⟩ (by kernel_rfl) rfl
    (fun f fn hf hfn => by
      obtain rfl : f = 19 := Option.some.inj ((show Tryd.prog.funcNamed "sieveplate/laws.FnScript" = some 19 by kernel_rfl).symm.trans hf) |>.symm
      obtain rfl : fn = Tryd.f19 := (Option.some.inj (Tryd.func19.symm.trans hfn)).symm
      exact ⟨by kernel_rfl, fun j t ht => by
        rw [Tryd.params19] at ht
        have hm : t ∈ [22, 25, 64] := by simpa using Array.mem_of_getElem? ht
        have hall : ([22, 25, 64].all fun u => !Tryd.prog.wantsStandIn u) = true := by kernel_rfl
        exact (show Tryd.prog.wantsStandIn t = false by simpa using List.all_eq_true.1 hall t hm)⟩)
    (by kernel_rfl)
end Go.Proofs.YtmfihkgbfoapaaaDoor
