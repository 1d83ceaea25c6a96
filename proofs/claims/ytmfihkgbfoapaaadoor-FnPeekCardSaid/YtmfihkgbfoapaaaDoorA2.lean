/- Small functions of the scanner: the call of Error, the classes of characters. -/
import Derived.Test.YtmfihkgbfoapaaaDoorA1
namespace Go.Proofs.YtmfihkgbfoapaaaDoor
open Go Go.RowKit Go.Lib

set_option maxRecDepth 100000 in
set_option maxHeartbeats 400000 in
theorem count_spec (E : Env) (r : Regs) (w : World) (msg : ByteArray) (v : Value) (h : Raw E w r) :
    Calls Tryd.prog 64 #[v, .string msg, .pointer (some ⟨E.bE, 0, none⟩)] w fun e w' => e = .returned (.tuple #[]) ∧ Raw E w' { r with cnt := wrap64 (r.cnt + 1) } := by
  have c1 := h.c_cap
  have c2 := h.c_cnt
  have c3 := h.f_cnt
  go_enter Tryd.func64, Tryd.ntmps64
  go_wp2_with (fail)
  go_end0
  exact ⟨rfl, h.set_cnt _⟩

theorem neq_error (w : World) (a : Array Value) : (binOp .neq 105 (.func (.func 64) #[] a) .nilFunc).run Tryd.prog w = .ok (.bool true) w := by kernel_rfl

set_option maxRecDepth 100000 in
set_option maxHeartbeats 400000 in
theorem error_spec (E : Env) (r : Regs) (w : World) (msg : ByteArray) (h : Raw E w r) :
    Calls Tryd.prog 90 #[.pointer (some ⟨E.b, 0, none⟩), .string msg] w fun e w' => e = .returned (.tuple #[]) ∧
      Raw E w' { r with tokEnd := wrap64 (r.srcPos - r.lcl), ec := wrap64 (r.ec + 1), cnt := wrap64 (r.cnt + 1) } := by
  have c1 := h.c_srcPos
  have c2 := h.c_lcl
  have c3 := h.c_tokEnd
  have c4 := h.c_ec
  have c5 := h.c_error
  have hf := h.frozen
  have hn := neq_error
  have H := Lib.hid h
  clear h
  go_enter Tryd.func90, Tryd.ntmps90
  go_wp2_with (first
    | (refine wp_region_still_tail (id := 0) 10 (by kernel_rfl) (by kernel_rfl) ?_; simp only [List.take_succ_cons, List.take_zero, List.drop_succ_cons, List.drop_zero]; repeat still_step; try refine wpStill_nil ?_)
    | (go_at_call 64; refine (count_spec E _ _ _ _ ((H.out.set_tokEnd _).set_ec _).drew).mono ?_; rintro e w' ⟨rfl, h'⟩))
  exact bodyPost_ret (results_none rfl _ _ _) rfl ⟨rfl, h'⟩

set_option maxHeartbeats 400000 in
theorem errorf_spec (E : Env) (r : Regs) (w : World) (msg : ByteArray) (h : Raw E w r) :
    Calls Tryd.prog 96 #[.pointer (some ⟨E.b, 0, none⟩), .string msg] w fun e w' => e = .returned (.tuple #[]) ∧
      Raw E w' { r with tokEnd := wrap64 (r.srcPos - r.lcl), ec := wrap64 (r.ec + 1), cnt := wrap64 (r.cnt + 1) } := by
  have H := Lib.hid h
  clear h
  go_enter Tryd.func96, Tryd.ntmps96
  go_wp2_with (first
    | (go_at_call 90; refine (error_spec E _ _ _ H.out).mono ?_; rintro e w' ⟨rfl, h'⟩))
  go_end0
  exact ⟨rfl, h'⟩

end Go.Proofs.YtmfihkgbfoapaaaDoor
