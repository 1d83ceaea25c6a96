/- Small functions on characters: digits, letters of numbers, names of literals. -/
import Derived.Test.YtmfihkgbfoapaaaDoorD0
import Derived.Laws.BitsLemmas
namespace Go.Proofs.YtmfihkgbfoapaaaDoor
open Go Go.RowKit Go.Lib Go.BigFrame

/-- The characters of a class, as the code says it. -/
def isDec (c : Int) : Bool := decide (48 ≤ c) && decide (c ≤ 57)
def lowerOf (c : Int) : Int := bits .or .i32 32 c
def isHexa (c : Int) : Bool := isDec c || (decide (97 ≤ lowerOf c) && decide (lowerOf c ≤ 102))
def digVal (c : Int) : Int := if isDec c = true then c - 48 else if 97 ≤ lowerOf c ∧ lowerOf c ≤ 102 then lowerOf c - 87 else 16
set_option maxHeartbeats 400000 in
theorem isDecimal_spec (w : World) (c : Int) : Calls Tryd.prog 71 #[.int .i32 c] w fun e w' => e = .returned (.bool (isDec c)) ∧ w' = w := by
  go_enter Tryd.func71, Tryd.ntmps71
  go_wp2_with (fail)
  all_goals go_ret
  · exact ⟨by unfold isDec; simp [*], rfl⟩
  · exact ⟨by unfold isDec; rw [decide_eq_false (by omega)]; rfl, rfl⟩
set_option maxHeartbeats 400000 in
theorem lower_spec (w : World) (c : Int) : Calls Tryd.prog 93 #[.int .i32 c] w fun e w' => e = .returned (.int .i32 (lowerOf c)) ∧ w' = w := by
  go_enter Tryd.func93, Tryd.ntmps93
  go_wp2_with (fail)
  all_goals go_ret
  exact ⟨rfl, rfl⟩
set_option maxHeartbeats 400000 in
theorem isHex_spec (w : World) (c : Int) : Calls Tryd.prog 108 #[.int .i32 c] w fun e w' => e = .returned (.bool (isHexa c)) ∧ w' = w := by
  go_enter Tryd.func108, Tryd.ntmps108
  go_wp2_with (go_at_call 93; refine (lower_spec _ _).mono ?_; rintro e w' ⟨rfl, rfl⟩)
  all_goals go_ret
  all_goals refine ⟨?_, rfl⟩
  all_goals refine congrArg (fun b => Ending.returned (.bool b)) ?_
  all_goals unfold isHexa isDec
  all_goals apply Bool.eq_iff_iff.2
  all_goals simp only [Bool.or_eq_true, Bool.and_eq_true, decide_eq_true_eq, true_iff, Bool.false_eq_true, false_iff]
  all_goals omega
set_option maxHeartbeats 400000 in
theorem digitVal_spec (w : World) (c : Int) (hc : -1 ≤ c ∧ c ≤ 1114111) : Calls Tryd.prog 113 #[.int .i32 c] w fun e w' => e = .returned (.int .i64 (digVal c)) ∧ w' = w := by
  go_enter Tryd.func113, Tryd.ntmps113
  go_wp2_with (go_at_call 93; refine (lower_spec _ _).mono ?_; rintro e w' ⟨rfl, rfl⟩)
  all_goals go_ret
  all_goals refine ⟨?_, rfl⟩
  all_goals refine congrArg (fun b => Ending.returned (.int .i64 b)) ?_
  all_goals unfold digVal isDec
  all_goals simp only [Bool.and_eq_true, decide_eq_true_eq]
  all_goals repeat' split
  all_goals omega
def litOf (p : Int) : ByteArray := if p = 120 then ⟨#[104, 101, 120, 97, 100, 101, 99, 105, 109, 97, 108, 32, 108, 105, 116, 101, 114, 97, 108]⟩
  else if p = 111 ∨ p = 48 then ⟨#[111, 99, 116, 97, 108, 32, 108, 105, 116, 101, 114, 97, 108]⟩
  else if p = 98 then ⟨#[98, 105, 110, 97, 114, 121, 32, 108, 105, 116, 101, 114, 97, 108]⟩
  else ⟨#[100, 101, 99, 105, 109, 97, 108, 32, 108, 105, 116, 101, 114, 97, 108]⟩
set_option maxHeartbeats 400000 in
theorem litname_spec (w : World) (c : Int) : Calls Tryd.prog 95 #[.int .i32 c] w fun e w' => e = .returned (.string (litOf c)) ∧ w' = w := by
  go_enter Tryd.func95, Tryd.ntmps95
  go_wp2_with (fail)
  all_goals go_ret
  all_goals refine ⟨?_, rfl⟩
  all_goals refine congrArg (fun b => Ending.returned (.string b)) ?_
  all_goals unfold litOf
  all_goals simp only [beq_iff_eq, beq_eq_false_iff_ne, ne_eq] at *
  all_goals first | (rw [if_pos (by omega)]; done) | (rw [if_neg (by omega), if_pos (by omega)]; done) | (rw [if_neg (by omega), if_neg (by omega), if_pos (by omega)]; done) | (rw [if_neg (by omega), if_neg (by omega), if_neg (by omega)]; done)
end Go.Proofs.YtmfihkgbfoapaaaDoor
