/- A fresh scanner: impl.Fresh. laws.FnDefault, walked. -/
import Derived.Test.YtmfihkgbfoapaaaDoorE11
import Derived.OwnWalk
namespace Go.Proofs.YtmfihkgbfoapaaaDoor
open Go Go.RowKit Go.Lib Go.BigFrame Go.Proofs.YtmfihkgbfoapaaaDoorW.PrintWords

def bitsUpTo (j : Nat) : Int := [0, 1, 1, 5, 13, 29, 61, 125, 253].getD j 0
theorem mode_1 : K.impl_mode.f 20 1 = some 4 := by kernel_rfl
theorem mode_2 : K.impl_mode.f 20 2 = some 8 := by kernel_rfl
theorem mode_4 : K.impl_mode.f 20 4 = some 16 := by kernel_rfl
theorem mode_8 : K.impl_mode.f 20 8 = some 32 := by kernel_rfl
theorem mode_16 : K.impl_mode.f 20 16 = some 64 := by kernel_rfl
theorem mode_32 : K.impl_mode.f 20 32 = some 128 := by kernel_rfl
theorem mode_64 : K.impl_mode.f 20 64 = some 256 := by kernel_rfl
theorem mode_128 : K.impl_mode.f 20 128 = some 512 := by kernel_rfl

set_option maxRecDepth 100000 in
set_option maxHeartbeats 6400000 in
theorem fresh_spec (w : World) (a : Option Addr) (len k : Nat) : Calls Tryd.prog 32 #[.slice a len k] w fun e w' => e = .returned (.tuple #[.int .i64 253, .int .u64 4294977024, .int .i64 0]) ∧ Below w.heap.size w w' := by
  go_enter Tryd.func32, Tryd.ntmps32
  go_wp2_with (fail)
  obtain ⟨W, hW⟩ : ∃ W, (w.alloc (Obj.cells Tryd.zeroCells111 111)).alloc (Obj.cells #[Value.slice a len k, Value.slice none 0 0, Value.int IntKind.i64 0] 123) = W := ⟨_, rfl⟩
  rw [hW]
  have s1 : (w.alloc (Obj.cells Tryd.zeroCells111 111)).heap.size = w.heap.size + 1 := World.size_alloc _ _
  have t1 : W.heap[w.heap.size]? = some (Obj.cells Tryd.zeroCells111 111) := by
    rw [← hW, Below.heap_alloc _ _ _ (by omega)]; exact heap_alloc_new w _
  have t2 : Below w.heap.size w W := by
    rw [← hW]; exact ((Below.refl _ w).alloc (Nat.le_refl _) _).alloc (by omega) _
  clear hW s1
  obtain ⟨n, hn⟩ : ∃ n, w.heap.size = n := ⟨_, rfl⟩
  rw [hn] at t1 t2 ⊢
  refine (init_spec W n (n + 1) t1).mono ?_
  rintro e w5 ⟨rfl, hw5⟩
  have u1 := initW_heap (.iface 121 (.pointer (some ⟨n + 1, 0, none⟩))) t1
  have u2 := t2.trans (initW_below W n (.iface 121 (.pointer (some ⟨n + 1, 0, none⟩))))
  rw [← hw5] at u1 u2
  have HU := Lib.hid (And.intro u1 u2)
  have HN := Lib.hid hn
  clear u1 u2 t1 t2 hw5 hn
  go_wp2_with (fail)
  go_loopg [2, 13] 8 (fun kk v i wr => ∃ j : Nat, j + kk = 8 ∧ v = .int .i64 (bitsUpTo j) ∧ i = .int .i64 j ∧ wr.heap[n]? = some (Obj.cells (initL (.iface 121 (.pointer (some ⟨n + 1, 0, none⟩)))).toArray 111 (0, 0)) ∧ Below n w wr)
  case atStart => exact ⟨0, rfl, rfl, rfl, HU.out.1, HU.out.2⟩
  case round =>
    obtain ⟨j, hj, rfl, rfl, h1, h2⟩ := hrel
    have HH := Lib.hid (And.intro h1 h2)
    clear h1 h2
    have h8 : j = 8 ∨ j = 0 ∨ j = 1 ∨ j = 2 ∨ j = 3 ∨ j = 4 ∨ j = 5 ∨ j = 6 ∨ j = 7 := by omega
    have HC : Hid (∀ w', (w'.heap[n]? = some (Obj.cells (initL (.iface 121 (.pointer (some ⟨n + 1, 0, none⟩)))).toArray 111 (0, 0)) ∧ Below n w w') → w'.cell? ⟨n, 1041, none⟩ = some (.int .u64 1012) ∧ w'.cell? ⟨n, 1042, none⟩ = some (.int .u64 4294977024) ∧ w'.cell? ⟨n, 1040, none⟩ = some (.int .i64 0)) :=
      Lib.hid fun w' h => ⟨(cell_of_heap h.1 1041).trans (by kernel_rfl), (cell_of_heap h.1 1042).trans (by kernel_rfl), (cell_of_heap h.1 1040).trans (by kernel_rfl)⟩
    rcases h8 with rfl | rfl | rfl | rfl | rfl | rfl | rfl | rfl | rfl
    · rw [show bitsUpTo 8 = 253 from rfl]
      go_wp2_with (fail)
      refine wp_region_tail 11 (by kernel_rfl) (by kernel_rfl) ?_
      intro wx e1 e2 e3 e4
      have hx : wx.heap[n]? = some (Obj.cells (initL (.iface 121 (.pointer (some ⟨n + 1, 0, none⟩)))).toArray 111 (0, 0)) ∧ Below n w wx :=
        ⟨by rw [e1]; exact HH.out.1, ⟨e3.trans HH.out.2.os, e2.trans HH.out.2.tape, e4.trans HH.out.2.output, by rw [e1]; exact HH.out.2.size, fun k hk => by rw [e1]; exact HH.out.2.block k hk⟩⟩
      obtain ⟨-, c2, c3⟩ := HC.out wx hx
      have HX := Lib.hid hx
      clear hx e1 e2 e3 e4
      simp only [List.take_succ_cons, List.take_zero, List.drop_succ_cons, List.drop_zero]
      repeat (go_big_quiet_step (fail))
      refine wpQuiet_nil ?_
      go_wp2_with (fail)
      go_ret3
      exact ⟨rfl, by rw [HN.out]; exact HX.out.2⟩
    · rw [show bitsUpTo 0 = 0 from rfl]
      go_wp2_with (fail)
      refine wp_region_class_tail (fun w' => w'.heap[n]? = some (Obj.cells (initL (.iface 121 (.pointer (some ⟨n + 1, 0, none⟩)))).toArray 111 (0, 0)) ∧ Below n w w') 7 (by kernel_rfl) (by kernel_rfl) ⟨HH.out.1, HH.out.2.drew⟩ ?_
      simp only [List.take_succ_cons, List.take_zero, List.drop_succ_cons, List.drop_zero]
      refine wpQuiet_want rfl ?_
      intro Kn hK
      refine ⟨.pointer (some ⟨n, 0, none⟩), fun w' hw' => ?_, hK _ ?_⟩
      · unfold Oper.quietAt
        go_simp
      clear hK Kn
      refine wpQuiet_want rfl ?_
      intro Kn hK
      refine ⟨.pointer (some ⟨n, 0, none⟩), fun w' hw' => ?_, hK _ ?_⟩
      · unfold Oper.quietAt
        go_simp
      clear hK Kn
      refine wpQuiet_want rfl ?_
      intro Kn hK
      refine ⟨.pointer (some ⟨n, 1041, none⟩), fun w' hw' => ?_, hK _ ?_⟩
      · unfold Oper.quietAt
        go_simp
      clear hK Kn
      refine wpQuiet_want rfl ?_
      intro Kn hK
      refine ⟨.int .u64 1012, fun w' hw' => ?_, hK _ ?_⟩
      · obtain ⟨c1, c2, c3⟩ := HC.out w' hw'
        unfold Oper.quietAt
        go_simp
      clear hK Kn
      refine wpQuiet_want rfl ?_
      intro Kn hK
      refine ⟨.int .i64 0, fun w' hw' => ?_, hK _ ?_⟩
      · unfold Oper.quietAt
        go_simp
      clear hK Kn
      refine wpQuiet_want rfl ?_
      intro Kn hK
      refine ⟨.int .i64 1, fun w' hw' => ?_, hK _ ?_⟩
      · unfold Oper.quietAt
        go_simp
        try kernel_rfl
      clear hK Kn
      refine wpQuiet_want rfl ?_
      intro Kn hK
      refine ⟨.int .u64 4, fun w' hw' => ?_, hK _ ?_⟩
      · unfold Oper.quietAt
        go_simp
        exact (K.impl_mode.calls 20 1 4 w' mode_1).mono fun e w'' h => ⟨h.1, (h.2.block n (lt_of_heap hw'.1)).trans hw'.1, hw'.2.trans (h.2.mono (Nat.le_of_lt (lt_of_heap hw'.1)))⟩
      clear hK Kn
      refine wpQuiet_nil ?_
      intro w4 hw4
      have ha : bits .and .u64 1012 4 = 4 := by kernel_rfl
      have hb : bits .or .i64 0 1 = 1 := by kernel_rfl
      have HW := Lib.hid hw4
      clear hw4
      go_wp2_with (fail)
      go_roundg (gk - 1)
      case measure => omega
      case rel => exact ⟨1, by omega, rfl, rfl, HW.out⟩
    · rw [show bitsUpTo 1 = 1 from rfl]
      go_wp2_with (fail)
      refine wp_region_class_tail (fun w' => w'.heap[n]? = some (Obj.cells (initL (.iface 121 (.pointer (some ⟨n + 1, 0, none⟩)))).toArray 111 (0, 0)) ∧ Below n w w') 7 (by kernel_rfl) (by kernel_rfl) ⟨HH.out.1, HH.out.2.drew⟩ ?_
      simp only [List.take_succ_cons, List.take_zero, List.drop_succ_cons, List.drop_zero]
      refine wpQuiet_want rfl ?_
      intro Kn hK
      refine ⟨.pointer (some ⟨n, 0, none⟩), fun w' hw' => ?_, hK _ ?_⟩
      · unfold Oper.quietAt
        go_simp
      clear hK Kn
      refine wpQuiet_want rfl ?_
      intro Kn hK
      refine ⟨.pointer (some ⟨n, 0, none⟩), fun w' hw' => ?_, hK _ ?_⟩
      · unfold Oper.quietAt
        go_simp
      clear hK Kn
      refine wpQuiet_want rfl ?_
      intro Kn hK
      refine ⟨.pointer (some ⟨n, 1041, none⟩), fun w' hw' => ?_, hK _ ?_⟩
      · unfold Oper.quietAt
        go_simp
      clear hK Kn
      refine wpQuiet_want rfl ?_
      intro Kn hK
      refine ⟨.int .u64 1012, fun w' hw' => ?_, hK _ ?_⟩
      · obtain ⟨c1, c2, c3⟩ := HC.out w' hw'
        unfold Oper.quietAt
        go_simp
      clear hK Kn
      refine wpQuiet_want rfl ?_
      intro Kn hK
      refine ⟨.int .i64 1, fun w' hw' => ?_, hK _ ?_⟩
      · unfold Oper.quietAt
        go_simp
      clear hK Kn
      refine wpQuiet_want rfl ?_
      intro Kn hK
      refine ⟨.int .i64 2, fun w' hw' => ?_, hK _ ?_⟩
      · unfold Oper.quietAt
        go_simp
        try kernel_rfl
      clear hK Kn
      refine wpQuiet_want rfl ?_
      intro Kn hK
      refine ⟨.int .u64 8, fun w' hw' => ?_, hK _ ?_⟩
      · unfold Oper.quietAt
        go_simp
        exact (K.impl_mode.calls 20 2 8 w' mode_2).mono fun e w'' h => ⟨h.1, (h.2.block n (lt_of_heap hw'.1)).trans hw'.1, hw'.2.trans (h.2.mono (Nat.le_of_lt (lt_of_heap hw'.1)))⟩
      clear hK Kn
      refine wpQuiet_nil ?_
      intro w4 hw4
      have ha : bits .and .u64 1012 8 = 0 := by kernel_rfl
      have hb : bits .or .i64 1 2 = 3 := by kernel_rfl
      have HW := Lib.hid hw4
      clear hw4
      go_wp2_with (fail)
      go_roundg (gk - 1)
      case measure => omega
      case rel => exact ⟨2, by omega, rfl, rfl, HW.out⟩
    · rw [show bitsUpTo 2 = 1 from rfl]
      go_wp2_with (fail)
      refine wp_region_class_tail (fun w' => w'.heap[n]? = some (Obj.cells (initL (.iface 121 (.pointer (some ⟨n + 1, 0, none⟩)))).toArray 111 (0, 0)) ∧ Below n w w') 7 (by kernel_rfl) (by kernel_rfl) ⟨HH.out.1, HH.out.2.drew⟩ ?_
      simp only [List.take_succ_cons, List.take_zero, List.drop_succ_cons, List.drop_zero]
      refine wpQuiet_want rfl ?_
      intro Kn hK
      refine ⟨.pointer (some ⟨n, 0, none⟩), fun w' hw' => ?_, hK _ ?_⟩
      · unfold Oper.quietAt
        go_simp
      clear hK Kn
      refine wpQuiet_want rfl ?_
      intro Kn hK
      refine ⟨.pointer (some ⟨n, 0, none⟩), fun w' hw' => ?_, hK _ ?_⟩
      · unfold Oper.quietAt
        go_simp
      clear hK Kn
      refine wpQuiet_want rfl ?_
      intro Kn hK
      refine ⟨.pointer (some ⟨n, 1041, none⟩), fun w' hw' => ?_, hK _ ?_⟩
      · unfold Oper.quietAt
        go_simp
      clear hK Kn
      refine wpQuiet_want rfl ?_
      intro Kn hK
      refine ⟨.int .u64 1012, fun w' hw' => ?_, hK _ ?_⟩
      · obtain ⟨c1, c2, c3⟩ := HC.out w' hw'
        unfold Oper.quietAt
        go_simp
      clear hK Kn
      refine wpQuiet_want rfl ?_
      intro Kn hK
      refine ⟨.int .i64 2, fun w' hw' => ?_, hK _ ?_⟩
      · unfold Oper.quietAt
        go_simp
      clear hK Kn
      refine wpQuiet_want rfl ?_
      intro Kn hK
      refine ⟨.int .i64 4, fun w' hw' => ?_, hK _ ?_⟩
      · unfold Oper.quietAt
        go_simp
        try kernel_rfl
      clear hK Kn
      refine wpQuiet_want rfl ?_
      intro Kn hK
      refine ⟨.int .u64 16, fun w' hw' => ?_, hK _ ?_⟩
      · unfold Oper.quietAt
        go_simp
        exact (K.impl_mode.calls 20 4 16 w' mode_4).mono fun e w'' h => ⟨h.1, (h.2.block n (lt_of_heap hw'.1)).trans hw'.1, hw'.2.trans (h.2.mono (Nat.le_of_lt (lt_of_heap hw'.1)))⟩
      clear hK Kn
      refine wpQuiet_nil ?_
      intro w4 hw4
      have ha : bits .and .u64 1012 16 = 16 := by kernel_rfl
      have hb : bits .or .i64 1 4 = 5 := by kernel_rfl
      have HW := Lib.hid hw4
      clear hw4
      go_wp2_with (fail)
      go_roundg (gk - 1)
      case measure => omega
      case rel => exact ⟨3, by omega, rfl, rfl, HW.out⟩
    · rw [show bitsUpTo 3 = 5 from rfl]
      go_wp2_with (fail)
      refine wp_region_class_tail (fun w' => w'.heap[n]? = some (Obj.cells (initL (.iface 121 (.pointer (some ⟨n + 1, 0, none⟩)))).toArray 111 (0, 0)) ∧ Below n w w') 7 (by kernel_rfl) (by kernel_rfl) ⟨HH.out.1, HH.out.2.drew⟩ ?_
      simp only [List.take_succ_cons, List.take_zero, List.drop_succ_cons, List.drop_zero]
      refine wpQuiet_want rfl ?_
      intro Kn hK
      refine ⟨.pointer (some ⟨n, 0, none⟩), fun w' hw' => ?_, hK _ ?_⟩
      · unfold Oper.quietAt
        go_simp
      clear hK Kn
      refine wpQuiet_want rfl ?_
      intro Kn hK
      refine ⟨.pointer (some ⟨n, 0, none⟩), fun w' hw' => ?_, hK _ ?_⟩
      · unfold Oper.quietAt
        go_simp
      clear hK Kn
      refine wpQuiet_want rfl ?_
      intro Kn hK
      refine ⟨.pointer (some ⟨n, 1041, none⟩), fun w' hw' => ?_, hK _ ?_⟩
      · unfold Oper.quietAt
        go_simp
      clear hK Kn
      refine wpQuiet_want rfl ?_
      intro Kn hK
      refine ⟨.int .u64 1012, fun w' hw' => ?_, hK _ ?_⟩
      · obtain ⟨c1, c2, c3⟩ := HC.out w' hw'
        unfold Oper.quietAt
        go_simp
      clear hK Kn
      refine wpQuiet_want rfl ?_
      intro Kn hK
      refine ⟨.int .i64 3, fun w' hw' => ?_, hK _ ?_⟩
      · unfold Oper.quietAt
        go_simp
      clear hK Kn
      refine wpQuiet_want rfl ?_
      intro Kn hK
      refine ⟨.int .i64 8, fun w' hw' => ?_, hK _ ?_⟩
      · unfold Oper.quietAt
        go_simp
        try kernel_rfl
      clear hK Kn
      refine wpQuiet_want rfl ?_
      intro Kn hK
      refine ⟨.int .u64 32, fun w' hw' => ?_, hK _ ?_⟩
      · unfold Oper.quietAt
        go_simp
        exact (K.impl_mode.calls 20 8 32 w' mode_8).mono fun e w'' h => ⟨h.1, (h.2.block n (lt_of_heap hw'.1)).trans hw'.1, hw'.2.trans (h.2.mono (Nat.le_of_lt (lt_of_heap hw'.1)))⟩
      clear hK Kn
      refine wpQuiet_nil ?_
      intro w4 hw4
      have ha : bits .and .u64 1012 32 = 32 := by kernel_rfl
      have hb : bits .or .i64 5 8 = 13 := by kernel_rfl
      have HW := Lib.hid hw4
      clear hw4
      go_wp2_with (fail)
      go_roundg (gk - 1)
      case measure => omega
      case rel => exact ⟨4, by omega, rfl, rfl, HW.out⟩
    · rw [show bitsUpTo 4 = 13 from rfl]
      go_wp2_with (fail)
      refine wp_region_class_tail (fun w' => w'.heap[n]? = some (Obj.cells (initL (.iface 121 (.pointer (some ⟨n + 1, 0, none⟩)))).toArray 111 (0, 0)) ∧ Below n w w') 7 (by kernel_rfl) (by kernel_rfl) ⟨HH.out.1, HH.out.2.drew⟩ ?_
      simp only [List.take_succ_cons, List.take_zero, List.drop_succ_cons, List.drop_zero]
      refine wpQuiet_want rfl ?_
      intro Kn hK
      refine ⟨.pointer (some ⟨n, 0, none⟩), fun w' hw' => ?_, hK _ ?_⟩
      · unfold Oper.quietAt
        go_simp
      clear hK Kn
      refine wpQuiet_want rfl ?_
      intro Kn hK
      refine ⟨.pointer (some ⟨n, 0, none⟩), fun w' hw' => ?_, hK _ ?_⟩
      · unfold Oper.quietAt
        go_simp
      clear hK Kn
      refine wpQuiet_want rfl ?_
      intro Kn hK
      refine ⟨.pointer (some ⟨n, 1041, none⟩), fun w' hw' => ?_, hK _ ?_⟩
      · unfold Oper.quietAt
        go_simp
      clear hK Kn
      refine wpQuiet_want rfl ?_
      intro Kn hK
      refine ⟨.int .u64 1012, fun w' hw' => ?_, hK _ ?_⟩
      · obtain ⟨c1, c2, c3⟩ := HC.out w' hw'
        unfold Oper.quietAt
        go_simp
      clear hK Kn
      refine wpQuiet_want rfl ?_
      intro Kn hK
      refine ⟨.int .i64 4, fun w' hw' => ?_, hK _ ?_⟩
      · unfold Oper.quietAt
        go_simp
      clear hK Kn
      refine wpQuiet_want rfl ?_
      intro Kn hK
      refine ⟨.int .i64 16, fun w' hw' => ?_, hK _ ?_⟩
      · unfold Oper.quietAt
        go_simp
        try kernel_rfl
      clear hK Kn
      refine wpQuiet_want rfl ?_
      intro Kn hK
      refine ⟨.int .u64 64, fun w' hw' => ?_, hK _ ?_⟩
      · unfold Oper.quietAt
        go_simp
        exact (K.impl_mode.calls 20 16 64 w' mode_16).mono fun e w'' h => ⟨h.1, (h.2.block n (lt_of_heap hw'.1)).trans hw'.1, hw'.2.trans (h.2.mono (Nat.le_of_lt (lt_of_heap hw'.1)))⟩
      clear hK Kn
      refine wpQuiet_nil ?_
      intro w4 hw4
      have ha : bits .and .u64 1012 64 = 64 := by kernel_rfl
      have hb : bits .or .i64 13 16 = 29 := by kernel_rfl
      have HW := Lib.hid hw4
      clear hw4
      go_wp2_with (fail)
      go_roundg (gk - 1)
      case measure => omega
      case rel => exact ⟨5, by omega, rfl, rfl, HW.out⟩
    · rw [show bitsUpTo 5 = 29 from rfl]
      go_wp2_with (fail)
      refine wp_region_class_tail (fun w' => w'.heap[n]? = some (Obj.cells (initL (.iface 121 (.pointer (some ⟨n + 1, 0, none⟩)))).toArray 111 (0, 0)) ∧ Below n w w') 7 (by kernel_rfl) (by kernel_rfl) ⟨HH.out.1, HH.out.2.drew⟩ ?_
      simp only [List.take_succ_cons, List.take_zero, List.drop_succ_cons, List.drop_zero]
      refine wpQuiet_want rfl ?_
      intro Kn hK
      refine ⟨.pointer (some ⟨n, 0, none⟩), fun w' hw' => ?_, hK _ ?_⟩
      · unfold Oper.quietAt
        go_simp
      clear hK Kn
      refine wpQuiet_want rfl ?_
      intro Kn hK
      refine ⟨.pointer (some ⟨n, 0, none⟩), fun w' hw' => ?_, hK _ ?_⟩
      · unfold Oper.quietAt
        go_simp
      clear hK Kn
      refine wpQuiet_want rfl ?_
      intro Kn hK
      refine ⟨.pointer (some ⟨n, 1041, none⟩), fun w' hw' => ?_, hK _ ?_⟩
      · unfold Oper.quietAt
        go_simp
      clear hK Kn
      refine wpQuiet_want rfl ?_
      intro Kn hK
      refine ⟨.int .u64 1012, fun w' hw' => ?_, hK _ ?_⟩
      · obtain ⟨c1, c2, c3⟩ := HC.out w' hw'
        unfold Oper.quietAt
        go_simp
      clear hK Kn
      refine wpQuiet_want rfl ?_
      intro Kn hK
      refine ⟨.int .i64 5, fun w' hw' => ?_, hK _ ?_⟩
      · unfold Oper.quietAt
        go_simp
      clear hK Kn
      refine wpQuiet_want rfl ?_
      intro Kn hK
      refine ⟨.int .i64 32, fun w' hw' => ?_, hK _ ?_⟩
      · unfold Oper.quietAt
        go_simp
        try kernel_rfl
      clear hK Kn
      refine wpQuiet_want rfl ?_
      intro Kn hK
      refine ⟨.int .u64 128, fun w' hw' => ?_, hK _ ?_⟩
      · unfold Oper.quietAt
        go_simp
        exact (K.impl_mode.calls 20 32 128 w' mode_32).mono fun e w'' h => ⟨h.1, (h.2.block n (lt_of_heap hw'.1)).trans hw'.1, hw'.2.trans (h.2.mono (Nat.le_of_lt (lt_of_heap hw'.1)))⟩
      clear hK Kn
      refine wpQuiet_nil ?_
      intro w4 hw4
      have ha : bits .and .u64 1012 128 = 128 := by kernel_rfl
      have hb : bits .or .i64 29 32 = 61 := by kernel_rfl
      have HW := Lib.hid hw4
      clear hw4
      go_wp2_with (fail)
      go_roundg (gk - 1)
      case measure => omega
      case rel => exact ⟨6, by omega, rfl, rfl, HW.out⟩
    · rw [show bitsUpTo 6 = 61 from rfl]
      go_wp2_with (fail)
      refine wp_region_class_tail (fun w' => w'.heap[n]? = some (Obj.cells (initL (.iface 121 (.pointer (some ⟨n + 1, 0, none⟩)))).toArray 111 (0, 0)) ∧ Below n w w') 7 (by kernel_rfl) (by kernel_rfl) ⟨HH.out.1, HH.out.2.drew⟩ ?_
      simp only [List.take_succ_cons, List.take_zero, List.drop_succ_cons, List.drop_zero]
      refine wpQuiet_want rfl ?_
      intro Kn hK
      refine ⟨.pointer (some ⟨n, 0, none⟩), fun w' hw' => ?_, hK _ ?_⟩
      · unfold Oper.quietAt
        go_simp
      clear hK Kn
      refine wpQuiet_want rfl ?_
      intro Kn hK
      refine ⟨.pointer (some ⟨n, 0, none⟩), fun w' hw' => ?_, hK _ ?_⟩
      · unfold Oper.quietAt
        go_simp
      clear hK Kn
      refine wpQuiet_want rfl ?_
      intro Kn hK
      refine ⟨.pointer (some ⟨n, 1041, none⟩), fun w' hw' => ?_, hK _ ?_⟩
      · unfold Oper.quietAt
        go_simp
      clear hK Kn
      refine wpQuiet_want rfl ?_
      intro Kn hK
      refine ⟨.int .u64 1012, fun w' hw' => ?_, hK _ ?_⟩
      · obtain ⟨c1, c2, c3⟩ := HC.out w' hw'
        unfold Oper.quietAt
        go_simp
      clear hK Kn
      refine wpQuiet_want rfl ?_
      intro Kn hK
      refine ⟨.int .i64 6, fun w' hw' => ?_, hK _ ?_⟩
      · unfold Oper.quietAt
        go_simp
      clear hK Kn
      refine wpQuiet_want rfl ?_
      intro Kn hK
      refine ⟨.int .i64 64, fun w' hw' => ?_, hK _ ?_⟩
      · unfold Oper.quietAt
        go_simp
        try kernel_rfl
      clear hK Kn
      refine wpQuiet_want rfl ?_
      intro Kn hK
      refine ⟨.int .u64 256, fun w' hw' => ?_, hK _ ?_⟩
      · unfold Oper.quietAt
        go_simp
        exact (K.impl_mode.calls 20 64 256 w' mode_64).mono fun e w'' h => ⟨h.1, (h.2.block n (lt_of_heap hw'.1)).trans hw'.1, hw'.2.trans (h.2.mono (Nat.le_of_lt (lt_of_heap hw'.1)))⟩
      clear hK Kn
      refine wpQuiet_nil ?_
      intro w4 hw4
      have ha : bits .and .u64 1012 256 = 256 := by kernel_rfl
      have hb : bits .or .i64 61 64 = 125 := by kernel_rfl
      have HW := Lib.hid hw4
      clear hw4
      go_wp2_with (fail)
      go_roundg (gk - 1)
      case measure => omega
      case rel => exact ⟨7, by omega, rfl, rfl, HW.out⟩
    · rw [show bitsUpTo 7 = 125 from rfl]
      go_wp2_with (fail)
      refine wp_region_class_tail (fun w' => w'.heap[n]? = some (Obj.cells (initL (.iface 121 (.pointer (some ⟨n + 1, 0, none⟩)))).toArray 111 (0, 0)) ∧ Below n w w') 7 (by kernel_rfl) (by kernel_rfl) ⟨HH.out.1, HH.out.2.drew⟩ ?_
      simp only [List.take_succ_cons, List.take_zero, List.drop_succ_cons, List.drop_zero]
      refine wpQuiet_want rfl ?_
      intro Kn hK
      refine ⟨.pointer (some ⟨n, 0, none⟩), fun w' hw' => ?_, hK _ ?_⟩
      · unfold Oper.quietAt
        go_simp
      clear hK Kn
      refine wpQuiet_want rfl ?_
      intro Kn hK
      refine ⟨.pointer (some ⟨n, 0, none⟩), fun w' hw' => ?_, hK _ ?_⟩
      · unfold Oper.quietAt
        go_simp
      clear hK Kn
      refine wpQuiet_want rfl ?_
      intro Kn hK
      refine ⟨.pointer (some ⟨n, 1041, none⟩), fun w' hw' => ?_, hK _ ?_⟩
      · unfold Oper.quietAt
        go_simp
      clear hK Kn
      refine wpQuiet_want rfl ?_
      intro Kn hK
      refine ⟨.int .u64 1012, fun w' hw' => ?_, hK _ ?_⟩
      · obtain ⟨c1, c2, c3⟩ := HC.out w' hw'
        unfold Oper.quietAt
        go_simp
      clear hK Kn
      refine wpQuiet_want rfl ?_
      intro Kn hK
      refine ⟨.int .i64 7, fun w' hw' => ?_, hK _ ?_⟩
      · unfold Oper.quietAt
        go_simp
      clear hK Kn
      refine wpQuiet_want rfl ?_
      intro Kn hK
      refine ⟨.int .i64 128, fun w' hw' => ?_, hK _ ?_⟩
      · unfold Oper.quietAt
        go_simp
        try kernel_rfl
      clear hK Kn
      refine wpQuiet_want rfl ?_
      intro Kn hK
      refine ⟨.int .u64 512, fun w' hw' => ?_, hK _ ?_⟩
      · unfold Oper.quietAt
        go_simp
        exact (K.impl_mode.calls 20 128 512 w' mode_128).mono fun e w'' h => ⟨h.1, (h.2.block n (lt_of_heap hw'.1)).trans hw'.1, hw'.2.trans (h.2.mono (Nat.le_of_lt (lt_of_heap hw'.1)))⟩
      clear hK Kn
      refine wpQuiet_nil ?_
      intro w4 hw4
      have ha : bits .and .u64 1012 512 = 512 := by kernel_rfl
      have hb : bits .or .i64 125 128 = 253 := by kernel_rfl
      have HW := Lib.hid hw4
      clear hw4
      go_wp2_with (fail)
      go_roundg (gk - 1)
      case measure => omega
      case rel => exact ⟨8, by omega, rfl, rfl, HW.out⟩
end Go.Proofs.YtmfihkgbfoapaaaDoor
namespace Go.Proofs.YtmfihkgbfoapaaaDoor
open Go Go.RowKit Go.Lib Go.BigFrame Go.Proofs.YtmfihkgbfoapaaaDoorW.PrintWords
theorem same_from (l : List K.S37) (hlen : l.length ≤ 4611686018427387904) (j : Nat) (hj : j ≤ l.length) (k : Nat) (hk : l.length - j < k) : K.laws_same.l0 k l l l (l.length : Int) j = some (decide ((l.length : Int) > 0)) := by
  induction k generalizing j with
  | zero => omega
  | succ k ih =>
    unfold K.laws_same.l0
    by_cases h : j = l.length
    · subst h
      rw [if_neg (by omega)]
    · rw [if_pos (by omega), if_pos (by omega), if_pos (by omega), if_pos (by omega)]
      have hw : wrap64 ((j : Int) + 1) = ((j + 1 : Nat) : Int) := by unfold wrap64; omega
      rw [hw, ih (j + 1) (by omega) (by omega)]
      simp
theorem same_refl (l : List K.S37) (hl : 0 < l.length) (hlen : l.length ≤ 4611686018427387904) : K.laws_same.f (l.length + 1) l l = some true := by
  unfold K.laws_same.f
  rw [if_pos rfl]
  have := same_from l hlen 0 (by omega) (l.length + 1) (by omega)
  rw [show ((0 : Nat) : Int) = 0 from rfl] at this
  rw [this]
  simp; omega

theorem toks_len (C : Cfg) (src : List UInt8) (l : List Item) : 0 < (toks C src l).length ∧ (toks C src l).length ≤ l.length + 1 := by
  induction hn : l.length using Nat.strongRecOn generalizing l with
  | _ n ih =>
    subst hn
    rcases scanGo_lt C src l with h | h
    · rw [toks_end h.1]; simp
    · rw [toks_step h.1 h.2]
      have := ih _ h.2 _ rfl
      simp only [List.length_cons]
      omega
theorem SrcAt.up {B B' : Nat} {w w1 : World} {a : Option Addr} {k : Nat} {src : List UInt8} (h : SrcAt B w a k src) (hb : Below B w w1) (hB : B ≤ B') : SrcAt B' w1 a k src := by
  obtain ⟨h1, h2, h3⟩ := h.of (w' := w1) fun k hk => hb.block k hk
  refine ⟨h1, h2, fun h0 => ?_⟩
  obtain ⟨g, o, ha, hg, hc⟩ := h3 h0
  exact ⟨g, o, ha, by omega, hc⟩
theorem mode_253 : K.impl_mode.f 20 253 = some 1012 := by kernel_rfl
theorem SzAt.nil (B : Nat) (w : World) : SzAt B w none [] := ⟨by decide, fun h => absurd h (by decide)⟩

set_option maxRecDepth 100000 in
set_option maxHeartbeats 1600000 in
theorem fndefault (w : World) (a : Option Addr) (k : Nat) (src : List UInt8) (hs : SrcAt w.heap.size w a k src) (hv : Vars w.heap.size w) :
    Calls Tryd.prog 16 #[.slice a src.length k] w fun e w' => e = .returned (.bool true) ∧ Below w.heap.size w w' := by
  by_cases hbig : (2147483647 : Int) < src.length
  · go_enter Tryd.func16, Tryd.ntmps16
    go_wp2_with (fail)
    go_ret
    exact ⟨rfl, Below.refl _ _⟩
  · have hlen : Fits src := by unfold Fits; omega
    have hl10 : src.length ≤ 10000000000 := by omega
    have HH := Lib.hid (And.intro hs (And.intro hv (And.intro hlen hl10)))
    obtain ⟨ts, hts⟩ : ∃ ts, (toks cfg0 src (startL src)).map (tokOf src) = ts := ⟨_, rfl⟩
    obtain ⟨er, her⟩ : ∃ er, wrap64 ((lexErrs (items src) : Nat) + (errsOf (toks cfg0 src (startL src)) : Nat)) = er := ⟨_, rfl⟩
    have hsm : K.laws_same.f (ts.length + 1) ts ts = some true := by
      have h1 := toks_len cfg0 src (startL src)
      obtain ⟨pre, hp⟩ := startL_pre src
      have h2 := suffix_len hp
      exact same_refl ts (by rw [← hts, List.length_map]; exact h1.1) (by rw [← hts, List.length_map]; omega)
    have HT := Lib.hid (And.intro hts (And.intro her hsm))
    clear hs hv hlen hl10 hts her hsm
    go_enter Tryd.func16, Tryd.ntmps16
    go_upto_region 4 with (first
      | (go_at_call 32; refine (fresh_spec w a src.length k).mono ?_; rintro e w1 ⟨rfl, hb1⟩))
    have HB1 := Lib.hid hb1
    clear hb1
    go_upto_region 5 with (first
      | (go_at_call 24; refine (tokens_run w1 a none k 0 src [] true 0 0 false ⟨#[]⟩ ⟨#[]⟩ 20 0 mode0 cfg0 (HH.out.1.up HB1.out HB1.out.size) (SzAt.nil _ _) HH.out.2.2.1 HH.out.2.2.2 ((HH.out.2.1.move HB1.out).mono HB1.out.size) rfl rfl rfl ⟨by decide, by decide⟩).mono ?_; rw [HT.out.1, HT.out.2.1]; rintro e w2 ⟨v2, rfl, hR2, hb2⟩))
    obtain ⟨A2, c2, rfl, hc2, hC2⟩ := Kd.R_reads hR2
    have hB2 : Below w.heap.size w w2 := HB1.out.trans (hb2.mono HB1.out.size)
    have H2 := Lib.hid (And.intro hB2 (And.intro hc2 hC2))
    clear hR2 hb2 hB2 hc2 hC2
    go_upto_region 6 with (first
      | (go_at_call 24; refine (tokens_run w2 a none k 0 src [] false 253 4294977024 false ⟨#[]⟩ ⟨#[]⟩ 20 1012 mode_253 cfg0 (HH.out.1.up H2.out.1 H2.out.1.size) (SzAt.nil _ _) HH.out.2.2.1 HH.out.2.2.2 ((HH.out.2.1.move H2.out.1).mono H2.out.1.size) rfl rfl rfl ⟨by decide, by decide⟩).mono ?_; rw [HT.out.1, HT.out.2.1]; rintro e w3 ⟨v3, rfl, hR3, hb3⟩))
    obtain ⟨A3, c3, rfl, hc3, hC3⟩ := Kd.R_reads hR3
    have hB3 : Below w.heap.size w w3 := H2.out.1.trans (hb3.mono H2.out.1.size)
    have H3 := Lib.hid (And.intro hB3 (And.intro hc3 (And.intro hC3 (Kd.C_below H2.out.2.2 (hb3)))))
    clear hR3 hb3 hB3 hc3 hC3
    go_wp2_with (first
      | (go_at_call 23; refine (works_spec w3 w3.heap.size (Nat.le_refl _) ((HH.out.2.1.move H3.out.1).mono H3.out.1.size)).mono ?_; rintro e w4 ⟨rfl, hb4⟩; have HB4 := Lib.hid hb4; clear hb4)
      | (go_at_call 29; refine (K.laws_same.calls (ts.length + 1) A2 c2 ts A3 c3 ts true _ (Kd.C_below H3.out.2.2.2 HB4.out) H2.out.2.1 (Kd.C_below H3.out.2.2.1 HB4.out) H3.out.2.1 HT.out.2.2).mono ?_; rintro e w5 ⟨rfl, hb5⟩; have HB5 := Lib.hid hb5; clear hb5))
    go_ret
    refine ⟨rfl, ?_⟩
    have h4 : Below w.heap.size w w4 := H3.out.1.trans (HB4.out.mono H3.out.1.size)
    exact h4.trans (HB5.out.mono h4.size)
end Go.Proofs.YtmfihkgbfoapaaaDoor
