/- Printed by the kit (print.sh); its imports and its open line were cut down by hand. -/
import Derived.Test.YtmfihkgbfoapaaaDoorZK0
namespace Go.Proofs.YtmfihkgbfoapaaaDoor.K
open Go.RowKit Go.Proofs.YtmfihkgbfoapaaaDoorW.PrintWords Go.Proofs.YtmfihkgbfoapaaaDoorW.PrintLast
set_option linter.unusedVariables false
set_option linter.unusedSimpArgs false

theorem eqA35 (d : Nat) (w : World) (x0 y0 : Int) (x1 y1 : Int) (x2 y2 : Int) :
    (Op.equalIn (d + 2) 35 (.agg #[.int .i64 x0, .int .i64 x1, .int .i64 x2]) (.agg #[.int .i64 y0, .int .i64 y1, .int .i64 y2])).run Tryd.prog w = .ok (x0 == y0 && (x1 == y1 && (x2 == y2))) w := by
  refine eqA_of Tryd.underlying35 (by kernel_rfl) ?_
  refine eqf_cons (by rfl) (by go_simp; rfl) (by go_simp; rfl) (by go_simp) ?_
  refine eqf_cons (by rfl) (by go_simp; rfl) (by go_simp; rfl) (by go_simp) ?_
  exact eqf_last (by rfl) (by go_simp; rfl) (by go_simp; rfl) (by go_simp)
theorem eqA37 (d : Nat) (w : World) (x0 y0 : Int) (x1 y1 : ByteArray) (x2 y2 : Int) (x3 y3 : Int) (x4 y4 : Int) (x5 y5 : Int) (x6 y6 : Int) (x7 y7 : Int) :
    (Op.equalIn (d + 3) 37 (.agg #[.int .i64 x0, .string x1, .int .i64 x2, .int .i64 x3, .int .i64 x4, .int .i64 x5, .int .i64 x6, .int .i64 x7]) (.agg #[.int .i64 y0, .string y1, .int .i64 y2, .int .i64 y3, .int .i64 y4, .int .i64 y5, .int .i64 y6, .int .i64 y7])).run Tryd.prog w = .ok (x0 == y0 && (x1.toList == y1.toList && ((x2 == y2 && (x3 == y3 && (x4 == y4))) && ((x5 == y5 && (x6 == y6 && (x7 == y7))))))) w := by
  refine eqA_of Tryd.underlying37 (by kernel_rfl) ?_
  refine eqf_cons (by rfl) (by go_simp; rfl) (by go_simp; rfl) (by go_simp) ?_
  refine eqf_cons (by rfl) (by go_simp; rfl) (by go_simp; rfl) (by go_simp) ?_
  refine eqf_cons (by rfl) (by go_simp) (by go_simp) (eqA35 (d + 0) w _ _ _ _ _ _) ?_
  exact eqf_last (by rfl) (by go_simp) (by go_simp) (eqA35 (d + 0) w _ _ _ _ _ _)
set_option linter.unusedVariables false
set_option linter.unusedSimpArgs false

attribute [local go_sem high] eqA37
/-! ### laws_same: function 29 -/
def laws_same.l0 : Nat → List (S37) → List (S37) → List (S37) → Int → Int → Option (Bool)
  | 0, _, _, _, _, _ => none
  | k + 1, x0, x1, x13, x14, x15 => if x15 < x14 then (if 0 ≤ x15 then (if x15 < (x13.length : Int) then (if x15 < (x1.length : Int) then (if ((rd_T37 x13 x15).f0) = (-1) then (if (!(((rd_T37 x13 x15).f0) == ((rd_T37 x1 x15).f0)) || (!((((rd_T37 x13 x15).f1).toList) == (((rd_T37 x1 x15).f1).toList)) || ((!(((rd_T37 x13 x15).f3.f0) == ((rd_T37 x1 x15).f3.f0)) || (!(((rd_T37 x13 x15).f3.f1) == ((rd_T37 x1 x15).f3.f1)) || (!(((rd_T37 x13 x15).f3.f2) == ((rd_T37 x1 x15).f3.f2)))))))) = true then (some false) else (laws_same.l0 k x0 x1 x13 x14 (wrap64 (x15 + 1)))) else (if (!(((rd_T37 x13 x15).f0) == ((rd_T37 x1 x15).f0)) || (!((((rd_T37 x13 x15).f1).toList) == (((rd_T37 x1 x15).f1).toList)) || ((!(((rd_T37 x13 x15).f2.f0) == ((rd_T37 x1 x15).f2.f0)) || (!(((rd_T37 x13 x15).f2.f1) == ((rd_T37 x1 x15).f2.f1)) || (!(((rd_T37 x13 x15).f2.f2) == ((rd_T37 x1 x15).f2.f2))))) || ((!(((rd_T37 x13 x15).f3.f0) == ((rd_T37 x1 x15).f3.f0)) || (!(((rd_T37 x13 x15).f3.f1) == ((rd_T37 x1 x15).f3.f1)) || (!(((rd_T37 x13 x15).f3.f2) == ((rd_T37 x1 x15).f3.f2))))))))) = true then (some false) else (laws_same.l0 k x0 x1 x13 x14 (wrap64 (x15 + 1))))) else (none)) else (none)) else (none)) else (some (decide ((x0.length : Int) > 0)))
def laws_same.f (k : Nat) (l0 : List (S37)) (l1 : List (S37)) : Option (Bool) := if (l0.length : Int) = (l1.length : Int) then (laws_same.l0 k l0 l1 l0 (l0.length : Int) 0) else (some false)
end Go.Proofs.YtmfihkgbfoapaaaDoor.K
