/- spec.Fit. -/
import Derived.Test.YtmfihkgbfoapaaaDoorS0
import Derived.Test.YtmfihkgbfoapaaaDoorE11
namespace Go.Proofs.YtmfihkgbfoapaaaDoor
set_option linter.unusedVariables false
set_option linter.unusedSimpArgs false
open Go Go.RowKit Go.Lib Go.BigFrame Go.Proofs.YtmfihkgbfoapaaaDoorW.PrintWords

def fitM (m : Int) : Int := bits .and .i64 m 255
def fitW (wh : Int) : Int := bits .and .u64 wh 8589934590
def keepS (d : Bool) (f : ByteArray) : ByteArray := ⟨(keepL d f.data.toList).toArray⟩

theorem results_fit (w : World) (tmps : Array Value) (q : Nat) (b1 b2 : Bool) (m wh : Int) (s1 s2 : ByteArray) {fr : Nat × Nat} (hp : tmps.getD 2 undef = .pointer (some ⟨q, 0, none⟩)) (h : w.heap[q]? = some (.cells #[.bool b1, .int .i64 m, .int .u64 wh, .bool b2, .string s1, .string s2] 25 fr)) :
    (results Tryd.f21 tmps).run Tryd.prog w = .ok (.agg #[.bool b1, .int .i64 m, .int .u64 wh, .bool b2, .string s1, .string s2]) w := by
  have hp' : tmps[2]?.getD undef = .pointer (some ⟨q, 0, none⟩) := by simpa using hp
  have c0 : w.cell? ⟨q, 0, none⟩ = some (.bool b1) := (cell_of_heap h 0).trans rfl
  have c1 : w.cell? ⟨q, 1, none⟩ = some (.int .i64 m) := (cell_of_heap h 1).trans rfl
  have c2 : w.cell? ⟨q, 2, none⟩ = some (.int .u64 wh) := (cell_of_heap h 2).trans rfl
  have c3 : w.cell? ⟨q, 3, none⟩ = some (.bool b2) := (cell_of_heap h 3).trans rfl
  have c4 : w.cell? ⟨q, 4, none⟩ = some (.string s1) := (cell_of_heap h 4).trans rfl
  have c5 : w.cell? ⟨q, 5, none⟩ = some (.string s2) := (cell_of_heap h 5).trans rfl
  simp [results, hp', asAddr]
  go_simp
theorem fit_default (w : World) (m wh : Int) (cu : Bool) (f1 f2 : ByteArray) :
    Calls Tryd.prog 21 #[.agg #[.bool true, .int .i64 m, .int .u64 wh, .bool cu, .string f1, .string f2]] w fun e w' => e = .returned (.agg #[.bool true, .int .i64 0, .int .u64 0, .bool false, .string ⟨#[]⟩, .string ⟨#[]⟩]) ∧ Below w.heap.size w w' := by
  go_enter Tryd.func21, Tryd.ntmps21
  go_wp2_with (fail)
  refine bodyPost_ret (results_fit _ _ (w.heap.size + 1) true false 0 0 ⟨#[]⟩ ⟨#[]⟩ rfl (by rw [← World.size_alloc w]; exact heap_alloc_new _ _)) rfl ⟨rfl, ?_⟩
  exact ((Below.refl _ w).alloc (Nat.le_refl _) _).alloc (by rw [World.size_alloc]; omega) _
theorem fit_plain (w : World) (m wh : Int) (f1 f2 : ByteArray) :
    Calls Tryd.prog 21 #[.agg #[.bool false, .int .i64 m, .int .u64 wh, .bool false, .string f1, .string f2]] w fun e w' => e = .returned (.agg #[.bool false, .int .i64 (fitM m), .int .u64 (fitW wh), .bool false, .string ⟨#[]⟩, .string ⟨#[]⟩]) ∧ Below w.heap.size w w' := by
  obtain ⟨fm, hfm⟩ : ∃ x, bits .and .i64 m 255 = x := ⟨_, rfl⟩
  obtain ⟨fw, hfw⟩ : ∃ x, bits .and .u64 wh 8589934590 = x := ⟨_, rfl⟩
  unfold fitM fitW
  rw [hfm, hfw]
  go_enter Tryd.func21, Tryd.ntmps21
  go_wp2_with (fail)
  obtain ⟨t1, t2, t3, t4, t5⟩ := three_blocks w _ _ _ rfl
  exact bodyPost_ret (results_fit _ _ (w.heap.size + 1) false false fm fw ⟨#[]⟩ ⟨#[]⟩ rfl t2) rfl ⟨rfl, t4⟩
theorem fit_stores {w : World} {q g : Nat} {a0 a1 a2 a3 a4 a5 : Value} (h : w.heap[q]? = some (.cells #[a0, a1, a2, a3, a4, a5] 25 (0, 0))) (hg : q ≠ g) (u1 u2 : Value) (b1 : Bool) (m wh : Int) (b2 : Bool) (s1 s2 : ByteArray) :
    ((((((((w.setCell ⟨g, 4, none⟩ u1).setCell ⟨g, 5, none⟩ u2).setCell ⟨q, 0, none⟩ (.bool b1)).setCell ⟨q, 1, none⟩ (.int .i64 m)).setCell ⟨q, 2, none⟩ (.int .u64 wh)).setCell ⟨q, 3, none⟩ (.bool b2)).setCell ⟨q, 4, none⟩ (.string s1)).setCell ⟨q, 5, none⟩ (.string s2)).heap[q]? =
      some (.cells #[.bool b1, .int .i64 m, .int .u64 wh, .bool b2, .string s1, .string s2] 25 (0, 0)) := by
  have h1 : ((w.setCell ⟨g, 4, none⟩ u1).setCell ⟨g, 5, none⟩ u2).heap[q]? = some (.cells #[a0, a1, a2, a3, a4, a5] 25 (0, 0)) := by
    rw [Below.heap_setCell _ _ _ _ (by exact hg), Below.heap_setCell _ _ _ _ (by exact hg)]; exact h
  have h2 := Go.Lib.heap_setCell_same (i := 0) h1 (.bool b1)
  have h3 := Go.Lib.heap_setCell_same (i := 1) h2 (.int .i64 m)
  have h4 := Go.Lib.heap_setCell_same (i := 2) h3 (.int .u64 wh)
  have h5 := Go.Lib.heap_setCell_same (i := 3) h4 (.bool b2)
  have h6 := Go.Lib.heap_setCell_same (i := 4) h5 (.string s1)
  have h7 := Go.Lib.heap_setCell_same (i := 5) h6 (.string s2)
  exact h7
/-- The worlds between the calls of keep. -/
structure FitCls (n : Nat) (w W : World) (w' : World) : Prop where
  size : W.heap.size = n + 1 + 1 + 1
  below : Below n w W
  up : Below W.heap.size W w'
theorem FitCls.start {n : Nat} {w W : World} (h : W.heap.size = n + 1 + 1 + 1) (hb : Below n w W) : FitCls n w W W.drew := ⟨h, hb, ⟨rfl, rfl, rfl, Nat.le_refl _, fun _ _ => rfl⟩⟩
theorem FitCls.step {n : Nat} {w W w' w'' : World} (h : FitCls n w W w') (hb : Below w'.heap.size w' w'') : FitCls n w W w'' := ⟨h.size, h.below, h.up.trans (hb.mono h.up.size)⟩
theorem FitCls.blk {n : Nat} {w W w' : World} (h : FitCls n w W w') {j : Nat} (hj : j < n + 1 + 1 + 1) {o : Obj} (ho : W.heap[j]? = some o) : w'.heap[j]? = some o := (h.up.block j (by rw [h.size]; exact hj)).trans ho
theorem FitCls.c4 {n : Nat} {w W w' : World} (h : FitCls n w W w') {b1 b2 : Bool} {m wh : Int} {f1 f2 : ByteArray} (ho : W.heap[n]? = some (.cells #[.bool b1, .int .i64 m, .int .u64 wh, .bool b2, .string f1, .string f2] 25 (0, 0))) : w'.cell? ⟨n, 4, none⟩ = some (.string f1) :=
  (cell_of_heap (h.blk (by omega) ho) 4).trans rfl
theorem FitCls.c5 {n : Nat} {w W w' : World} (h : FitCls n w W w') {b1 b2 : Bool} {m wh : Int} {f1 f2 : ByteArray} (ho : W.heap[n]? = some (.cells #[.bool b1, .int .i64 m, .int .u64 wh, .bool b2, .string f1, .string f2] 25 (0, 0))) : w'.cell? ⟨n, 5, none⟩ = some (.string f2) :=
  (cell_of_heap (h.blk (by omega) ho) 5).trans rfl
theorem fit_custom (w : World) (m wh : Int) (f1 f2 : ByteArray) (hs1 : f1.size ≤ 140737488351232) (hs2 : f2.size ≤ 140737488351232) :
    Calls Tryd.prog 21 #[.agg #[.bool false, .int .i64 m, .int .u64 wh, .bool true, .string f1, .string f2]] w fun e w' => e = .returned (.agg #[.bool false, .int .i64 (fitM m), .int .u64 (fitW wh), .bool true, .string (keepS false f1), .string (keepS true f2)]) ∧ Below w.heap.size w w' := by
  obtain ⟨fm, hfm⟩ : ∃ x, bits .and .i64 m 255 = x := ⟨_, rfl⟩
  obtain ⟨fw, hfw⟩ : ∃ x, bits .and .u64 wh 8589934590 = x := ⟨_, rfl⟩
  unfold fitM fitW
  rw [hfm, hfw]
  obtain ⟨k1, hk1⟩ : ∃ x, keepS false f1 = x := ⟨_, rfl⟩
  obtain ⟨k2, hk2⟩ : ∃ x, keepS true f2 = x := ⟨_, rfl⟩
  rw [hk1, hk2]
  have HK := Lib.hid (And.intro hk1 (And.intro hk2 (And.intro hs1 hs2)))
  clear hk1 hk2 hs1 hs2
  go_enter Tryd.func21, Tryd.ntmps21
  go_upto_region 6 with (fail)
  obtain ⟨W, hW⟩ : ∃ W, ((w.alloc (Obj.cells #[Value.bool false, Value.int IntKind.i64 m, Value.int IntKind.u64 wh, Value.bool true, Value.string f1, Value.string f2] 25)).alloc (Obj.cells #[Value.bool false, Value.int IntKind.i64 0, Value.int IntKind.u64 0, Value.bool false, Value.string { data := #[] }, Value.string { data := #[] }] 25)).alloc (Obj.cells #[Value.bool false, Value.int IntKind.i64 fm, Value.int IntKind.u64 fw, Value.bool true, Value.string { data := #[] }, Value.string { data := #[] }] 25) = W := ⟨_, rfl⟩
  rw [hW]
  obtain ⟨t1, t2, t3, t4, t5⟩ := three_blocks _ _ _ _ hW
  clear hW
  obtain ⟨n, hn⟩ : ∃ n, w.heap.size = n := ⟨_, rfl⟩
  rw [hn] at t1 t2 t3 t4 t5 ⊢
  refine wp_region_class_tail (FitCls n w W) 9 (by kernel_rfl) (by kernel_rfl) (FitCls.start t5 t4) ?_
  have HW := Lib.hid (And.intro t1 (And.intro t2 (And.intro t3 (And.intro t4 (And.intro t5 hn)))))
  clear t1 t2 t3 t4 t5 hn
  simp only [List.take_succ_cons, List.take_zero, List.drop_succ_cons, List.drop_zero]
  refine wpQuiet_want rfl ?_
  intro Kn hK
  refine ⟨.func (.func 36) #[] #[], fun w' hw' => ?_, hK _ ?_⟩
  · unfold Oper.quietAt
    go_simp
  clear hK Kn
  refine wpQuiet_want rfl ?_
  intro Kn hK
  refine ⟨.pointer (some ⟨n, 4, none⟩), fun w' hw' => ?_, hK _ ?_⟩
  · unfold Oper.quietAt
    go_simp
  clear hK Kn
  refine wpQuiet_want rfl ?_
  intro Kn hK
  refine ⟨.string f1, fun w' hw' => ?_, hK _ ?_⟩
  · have c := hw'.c4 HW.out.1
    unfold Oper.quietAt
    go_simp
  clear hK Kn
  refine wpQuiet_want rfl ?_
  intro Kn hK
  refine ⟨.string k1, fun w' hw' => ?_, hK _ ?_⟩
  · unfold Oper.quietAt
    go_simp
    refine (keep_spec w' f1 false HK.out.2.2.1).mono fun e w'' h => ⟨by rw [h.1, ← HK.out.1]; rfl, hw'.step h.2⟩
  clear hK Kn
  refine wpQuiet_want rfl ?_
  intro Kn hK
  refine ⟨.func (.func 36) #[] #[], fun w' hw' => ?_, hK _ ?_⟩
  · unfold Oper.quietAt
    go_simp
  clear hK Kn
  refine wpQuiet_want rfl ?_
  intro Kn hK
  refine ⟨.pointer (some ⟨n, 5, none⟩), fun w' hw' => ?_, hK _ ?_⟩
  · unfold Oper.quietAt
    go_simp
  clear hK Kn
  refine wpQuiet_want rfl ?_
  intro Kn hK
  refine ⟨.string f2, fun w' hw' => ?_, hK _ ?_⟩
  · have c := hw'.c5 HW.out.1
    unfold Oper.quietAt
    go_simp
  clear hK Kn
  refine wpQuiet_want rfl ?_
  intro Kn hK
  refine ⟨.string k2, fun w' hw' => ?_, hK _ ?_⟩
  · unfold Oper.quietAt
    go_simp
    refine (keep_spec w' f2 true HK.out.2.2.2).mono fun e w'' h => ⟨by rw [h.1, ← HK.out.2.1]; rfl, hw'.step h.2⟩
  clear hK Kn
  refine wpQuiet_want rfl ?_
  intro Kn hK
  refine ⟨.pointer (some ⟨n + 1 + 1, 4, none⟩), fun w' hw' => ?_, hK _ ?_⟩
  · unfold Oper.quietAt
    go_simp
  clear hK Kn
  refine wpQuiet_nil ?_
  intro w4 hw4
  have h3 := hw4.blk (by omega) HW.out.2.2.1
  have h2 := hw4.blk (by omega) HW.out.2.1
  have d0 : w4.cell? ⟨n + 1 + 1, 0, none⟩ = some (.bool false) := (cell_of_heap h3 0).trans rfl
  have d1 : w4.cell? ⟨n + 1 + 1, 1, none⟩ = some (.int .i64 fm) := (cell_of_heap h3 1).trans rfl
  have d2 : w4.cell? ⟨n + 1 + 1, 2, none⟩ = some (.int .u64 fw) := (cell_of_heap h3 2).trans rfl
  have d3 : w4.cell? ⟨n + 1 + 1, 3, none⟩ = some (.bool true) := (cell_of_heap h3 3).trans rfl
  have d4 : w4.cell? ⟨n + 1 + 1, 4, none⟩ = some (.string ⟨#[]⟩) := (cell_of_heap h3 4).trans rfl
  have d5 : w4.cell? ⟨n + 1 + 1, 5, none⟩ = some (.string ⟨#[]⟩) := (cell_of_heap h3 5).trans rfl
  have f3 := frozen_of_heap h3
  have f2' := frozen_of_heap h2
  have e0 : w4.cell? ⟨n + 1, 0, none⟩ = some (.bool false) := (cell_of_heap h2 0).trans rfl
  have e1 : w4.cell? ⟨n + 1, 1, none⟩ = some (.int .i64 0) := (cell_of_heap h2 1).trans rfl
  have e2 : w4.cell? ⟨n + 1, 2, none⟩ = some (.int .u64 0) := (cell_of_heap h2 2).trans rfl
  have e3 : w4.cell? ⟨n + 1, 3, none⟩ = some (.bool false) := (cell_of_heap h2 3).trans rfl
  have e4 : w4.cell? ⟨n + 1, 4, none⟩ = some (.string ⟨#[]⟩) := (cell_of_heap h2 4).trans rfl
  have e5 : w4.cell? ⟨n + 1, 5, none⟩ = some (.string ⟨#[]⟩) := (cell_of_heap h2 5).trans rfl
  have H4 := Lib.hid (And.intro hw4 h2)
  clear hw4 h2 h3
  go_wp2_with (fail)
  obtain ⟨hw4, h2⟩ := H4.out
  refine bodyPost_ret (results_fit _ _ (n + 1) false true fm fw k1 k2 rfl (fit_stores h2 (g := n + 1 + 1) (by omega) _ _ false fm fw true k1 k2)) rfl ⟨rfl, ?_⟩
  have hb : Below n w w4 := hw4.below.trans (hw4.up.mono (by rw [hw4.size]; omega))
  have hs := fun (v : World) (q i : Nat) (u : Value) (h : Below n w v) (hq : n ≤ q) => h.setCell (p := ⟨q, i, none⟩) hq u
  rw [HW.out.2.2.2.2.2]
  exact hs _ _ _ _ (hs _ _ _ _ (hs _ _ _ _ (hs _ _ _ _ (hs _ _ _ _ (hs _ _ _ _ (hs _ _ _ _ (hs _ _ _ _ hb (by omega)) (by omega)) (by omega)) (by omega)) (by omega)) (by omega)) (by omega)) (by omega)
end Go.Proofs.YtmfihkgbfoapaaaDoor
