/- laws.FnDefault: the card. -/
import Derived.Test.YtmfihkgbfoapaaaDoorR5
import Derived.Test.YtmfihkgbfoapaaaDoorTie
import Derived.Test.YtmfihkgbfoapaaaDoorCards
namespace Go.Proofs.YtmfihkgbfoapaaaDoor
open Go Go.RowKit Go.Lib Go.Shelf Go.ChangeShapes Go.WideShapes Go.ChangeAt
theorem fnDefault_card : Rows.FnDefaultCardSaid :=
  Claim7.holds_tied_plain_at .later [] [.data, .sentinel, .data, .sentinel, .pinned, .pinned, .pinned] true (true, "8cd2102d094c810226bac6b32bdeb5e55e1fde6d57f2245febe696c4e64c86ef") true fnDefault_holds (fun _ h => by cases h) (by kernel_rfl) (fun _ h => by cases h) fnDefault_row_tie rfl ⟨rfl, rfl⟩ (by kernel_rfl) rfl
    (fun f fn hf hfn => by
      obtain rfl : f = 16 := Option.some.inj ((show Tryd.prog.funcNamed "sieveplate/laws.FnDefault" = some 16 by kernel_rfl).symm.trans hf) |>.symm
      obtain rfl : fn = Tryd.f16 := (Option.some.inj (Tryd.func16.symm.trans hfn)).symm
      exact ⟨by kernel_rfl, fun j t ht => by
        rw [Tryd.params16] at ht
        have hm : t ∈ [22] := by simpa using Array.mem_of_getElem? ht
        have hall : ([22].all fun u => !Tryd.prog.wantsStandIn u) = true := by kernel_rfl
        exact (show Tryd.prog.wantsStandIn t = false by simpa using List.all_eq_true.1 hall t hm)⟩)
    (by kernel_rfl)
end Go.Proofs.YtmfihkgbfoapaaaDoor
