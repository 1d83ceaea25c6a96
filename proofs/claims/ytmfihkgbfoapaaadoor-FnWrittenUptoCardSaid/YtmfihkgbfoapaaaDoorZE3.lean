/- Own texts E3 of this claim, cut to what the claim uses. -/
import Derived.Test.YtmfihkgbfoapaaaDoorZE1
import Derived.Test.YtmfihkgbfoapaaaDoorZM0
import Derived.Deep.DeepCutAuto
import Derived.Test.YtmfihkgbfoapaaaDoorZK1
import Derived.Laws.EntriesVeiled
namespace Go.Proofs.YtmfihkgbfoapaaaDoor
open Go Go.RowKit Go.Lib Go.BigFrame
structure PosIs (r : Regs) (o a b : Nat) : Prop where
  off : r.off + r.srcPos - r.lcl = o
  b1 : 0 ≤ r.lcl ∧ r.lcl ≤ r.srcPos ∧ r.srcPos ≤ 1024 ∧ 0 ≤ r.off ∧ r.off ≤ 70368744177664
  b2 : 0 ≤ r.line ∧ r.line ≤ 4611686018427387904
  pl : (0 < r.col ∧ r.line = a ∧ r.col = b) ∨ (r.col = 0 ∧ 0 < r.lll ∧ r.line - 1 = a ∧ r.lll = b) ∨ (r.col = 0 ∧ r.lll = 0 ∧ a = 1 ∧ b = 1)
set_option maxRecDepth 100000 in
set_option maxHeartbeats 1600000 in
theorem pos_raw (E : Env) (w : World) (r : Regs) (o a b : Nat) (hR : Raw E w r) (hp : PosIs r o a b) :
    Calls Tryd.prog 48 #[.pointer (some ⟨E.b, 0, none⟩)] w fun e w' => e = .returned (.agg #[.string ⟨#[]⟩, .int .i64 o, .int .i64 a, .int .i64 b]) ∧ Below w.heap.size w w' := by
  have hlt := hR.lt
  have HH := Lib.hid hR
  have HP := Lib.hid hp
  clear hp hR
  go_enter Tryd.func48, Tryd.ntmps48
  go_upto_region 1 with (fail)
  have hB0 := (Below.refl w.heap.size w).alloc (Nat.le_refl _) (Obj.cells #[Value.string { data := #[] }, Value.int IntKind.i64 0, Value.int IntKind.i64 0, Value.int IntKind.i64 0] 109)
  have hb0 := heap_alloc_new w (Obj.cells #[Value.string { data := #[] }, Value.int IntKind.i64 0, Value.int IntKind.i64 0, Value.int IntKind.i64 0] 109)
  obtain ⟨p, hpp⟩ : ∃ p, w.heap.size = p := ⟨_, rfl⟩
  rw [hpp] at hb0
  have hBx : Below w.heap.size w ((w.alloc (Obj.cells #[Value.string { data := #[] }, Value.int IntKind.i64 0, Value.int IntKind.i64 0, Value.int IntKind.i64 0] 109)).setCell ⟨p, 0, none⟩ (.string ⟨#[]⟩)) := hB0.setCell (by show w.heap.size ≤ p; omega) _
  have hbx := Go.Lib.heap_setCell_same (i := 0) hb0 (.string ⟨#[]⟩)
  have hne : ¬ p = E.b := by omega
  have hne2 : ¬ E.b = p := by omega
  have hR0 := HH.out.old hB0
  generalize w.alloc (Obj.cells #[Value.string { data := #[] }, Value.int IntKind.i64 0, Value.int IntKind.i64 0, Value.int IntKind.i64 0] 109) = W at hb0 hBx hbx hR0 ⊢
  rw [hpp]
  have c1 := hR0.c_file
  have hf := hR0.frozen
  have d0 := cell_of_heap (j := 0) hb0
  have f0 := frozen_of_heap hb0
  have HB := Lib.hid hBx
  have HX := Lib.hid hbx
  have HPP := Lib.hid hpp
  clear hBx hbx hR0 hb0 hB0 hpp
  simp at d0
  go_upto_region 2 with (fail)
  refine wp_region_tail 13 (by kernel_rfl) (by kernel_rfl) ?_
  intro wx e1 e2 e3 e4
  have hB1 : Below w.heap.size w wx := ⟨e3.trans HB.out.os, e2.trans HB.out.tape, e4.trans HB.out.output, by rw [e1]; exact HB.out.size, fun k hk => by rw [e1]; exact HB.out.block k hk⟩
  have hb1 := HX.out
  rw [← e1] at hb1
  have hx := HH.out.old hB1
  clear e1 e2 e3 e4 HB HX c1 hf d0 f0
  have c1 := hx.c_srcPos
  have c2 := hx.c_off
  have c3 := hx.c_lcl
  have c4 := hx.c_line
  have c5 := hx.c_col
  have c6 := hx.c_lll
  have hf := hx.frozen
  have d1 := cell_of_heap (j := 1) hb1
  have d2 := cell_of_heap (j := 2) hb1
  have d3 := cell_of_heap (j := 3) hb1
  have f0 := frozen_of_heap hb1
  have HB := Lib.hid hB1
  have HX := Lib.hid hb1
  clear hx hB1 hb1
  simp at d1 d2 d3
  have hp := HP.out
  have q0 := hp.b1
  have q1 : wrap64 (r.off + r.srcPos) = r.off + r.srcPos := by unfold wrap64; omega
  have q2 : wrap64 (r.off + r.srcPos - r.lcl) = r.off + r.srcPos - r.lcl := by unfold wrap64; omega
  have q3 : wrap64 (r.line - 1) = r.line - 1 := by have := hp.b2; unfold wrap64; omega
  have hpl := hp.pl
  clear hp q0
  simp only [List.take_succ_cons, List.take_zero, List.drop_succ_cons, List.drop_zero]
  repeat (go_big_quiet_step (fail))
  refine wpQuiet_nil ?_
  rcases hpl with ⟨p1, p2, p3⟩ | ⟨p1, p0, p2, p3⟩ | ⟨p1, p0, p2, p3⟩
  all_goals have HQ := Lib.hid (And.intro p2 p3)
  all_goals clear p2 p3
  all_goals go_wp2_with (fail)
  all_goals refine bodyPost_ret (results_cell_row rfl _ _ p 109 _ (0, 0) _ rfl (Go.Lib.heap_setCell_same (i := 3) (Go.Lib.heap_setCell_same (i := 2) (Go.Lib.heap_setCell_same (i := 1) HX.out _) _) _) Tryd.underlying109 rfl (by kernel_rfl)) rfl ?_
  all_goals have hp := HP.out
  all_goals have hpp := HPP.out
  all_goals refine ⟨?_, ((HB.out.setCell (by show w.heap.size ≤ p; omega) _).setCell (by show w.heap.size ≤ p; omega) _).setCell (by show w.heap.size ≤ p; omega) _⟩
  · rw [← HQ.out.1, ← HQ.out.2, ← hp.off]; rfl
  · rw [← HQ.out.1, ← HQ.out.2, ← hp.off]; rfl
  · rw [HQ.out.1, HQ.out.2, ← hp.off]; rfl
theorem Sl.pos {E : Env} {src : List UInt8} {w : World} {l : List Item} {x : Sx} (h : Sl E src w l x) (hlen : Fits src) : ∃ r, Raw E w r ∧ PosIs r (offOf src l) (lineAt src l) (colAt src l) := by
  obtain ⟨pre, r, hR, hd, hX⟩ := h
  have hp := hd.pos
  have hs := hd.split
  have hb := behind_pre hs
  have hoff := offOf_pre hs
  have hA := hd.at_
  have hl := hd.lcl
  have hle := hd.le
  have hpl : pre.length + l.length ≤ src.length := by
    have h1 := items_len hd.split
    have h2 := length_le_bytes (l := pre ++ l) (fun c hc => items_n (by rw [hd.split]; exact hc))
    rw [bytesOf_append, List.length_append, List.length_append] at h2; omega
  obtain ⟨so, sp, se, g, hA⟩ := hA
  have h1 := g.off; have h2 := g.pos; have h3 := g.spse; have h4 := g.se4; have h5 := g.len
  rw [bytesOf_append, List.length_append] at hA
  unfold Fits at hlen
  refine ⟨r, hR, ⟨by rw [hoff]; omega, ⟨by omega, hle, by omega, by omega, by omega⟩, ?_, ?_⟩⟩
  · cases l with
    | nil =>
      simp only [PosAt] at hp
      have := posOf_le pre
      simp only [List.length_nil] at hpl
      omega
    | cons c l =>
      simp only [PosAt] at hp
      have := posOf_le (pre ++ [c])
      simp only [List.length_append, List.length_cons, List.length_nil] at this hpl
      omega
  · unfold lineAt colAt
    rw [hb]
    cases l with
    | nil =>
      simp only [PosAt] at hp
      by_cases h0 : pre = []
      · subst h0
        simp only [if_true] at hp
        exact .inr (.inr ⟨hp.2.1, hp.2.2, rfl, rfl⟩)
      · simp only [if_neg h0] at hp
        exact .inl ⟨by rw [hp.2.1]; omega, hp.1, hp.2.1⟩
    | cons c l =>
      simp only [PosAt] at hp
      rw [posOf_snoc] at hp
      unfold posStep at hp
      by_cases h10 : c.r = 10
      · simp only [h10, if_true] at hp
        exact .inr (.inl ⟨hp.2.1, by rw [hp.2.2]; omega, by rw [hp.1]; omega, hp.2.2⟩)
      · simp only [h10, if_false] at hp
        exact .inl ⟨by rw [hp.2.1]; omega, hp.1, hp.2.1⟩
theorem Sl0.pos {E : Env} {src : List UInt8} {w : World} {x : Sx} (h : Sl0 E src w x) : ∃ r, Raw E w r ∧ PosIs r 0 1 1 := by
  obtain ⟨r, hR, hd, hX⟩ := h
  obtain ⟨so, sp, se, g, hA⟩ := hd.at_
  have h1 := g.off; have h2 := g.pos; have h3 := hd.lcl
  exact ⟨r, hR, ⟨by omega, ⟨by omega, by omega, by omega, by omega, by omega⟩, by rw [hd.line]; decide, .inr (.inr ⟨hd.col, hd.lll, rfl, rfl⟩)⟩⟩
end Go.Proofs.YtmfihkgbfoapaaaDoor
namespace Go.Proofs.YtmfihkgbfoapaaaDoor
open Go Go.RowKit Go.Lib Go.BigFrame
def initW (w : World) (b : Nat) (v : Value) : World := ((((((((((((((((w.setCell ⟨b, 0, none⟩ (v)).setCell ⟨b, 1, none⟩ (.int .u8 128)).setCell ⟨b, 1026, none⟩ (.int .i64 0)).setCell ⟨b, 1027, none⟩ (.int .i64 0)).setCell ⟨b, 1028, none⟩ (.int .i64 0)).setCell ⟨b, 1029, none⟩ (.int .i64 1)).setCell ⟨b, 1030, none⟩ (.int .i64 0)).setCell ⟨b, 1031, none⟩ (.int .i64 0)).setCell ⟨b, 1032, none⟩ (.int .i64 0)).setCell ⟨b, 1036, none⟩ (.int .i64 (-1))).setCell ⟨b, 1038, none⟩ (.int .i32 (-2))).setCell ⟨b, 1039, none⟩ (.nilFunc)).setCell ⟨b, 1040, none⟩ (.int .i64 0)).setCell ⟨b, 1041, none⟩ (.int .u64 1012)).setCell ⟨b, 1042, none⟩ (.int .u64 4294977024)).setCell ⟨b, 1046, none⟩ (.int .i64 0))
def iTail : List Value := [.int .i64 0, .int .i64 0, .int .i64 0, .int .i64 1, .int .i64 0, .int .i64 0, .int .i64 0, .slice none 0 0, .int .i64 0, .int .i8 0, .int .i64 (-1), .int .i64 0, .int .i32 (-2), .nilFunc, .int .i64 0, .int .u64 1012, .int .u64 4294977024, .nilFunc, .string ⟨#[]⟩, .int .i64 0, .int .i64 0, .int .i64 0]
def initL (v : Value) : List Value := v :: .int .u8 128 :: (List.replicate 1024 (.int .u8 0) ++ iTail)
theorem init_cells (v : Value) : ((((((((((((((((Tryd.zeroCells111.setIfInBounds 0 (v)).setIfInBounds 1 (.int .u8 128)).setIfInBounds 1026 (.int .i64 0)).setIfInBounds 1027 (.int .i64 0)).setIfInBounds 1028 (.int .i64 0)).setIfInBounds 1029 (.int .i64 1)).setIfInBounds 1030 (.int .i64 0)).setIfInBounds 1031 (.int .i64 0)).setIfInBounds 1032 (.int .i64 0)).setIfInBounds 1036 (.int .i64 (-1))).setIfInBounds 1038 (.int .i32 (-2))).setIfInBounds 1039 (.nilFunc)).setIfInBounds 1040 (.int .i64 0)).setIfInBounds 1041 (.int .u64 1012)).setIfInBounds 1042 (.int .u64 4294977024)).setIfInBounds 1046 (.int .i64 0)) = (initL v).toArray := by kernel_rfl
theorem initW_heap {w : World} {b : Nat} (v : Value) (hb : w.heap[b]? = some (.cells Tryd.zeroCells111 111 (0, 0))) : (initW w b v).heap[b]? = some (.cells (initL v).toArray 111 (0, 0)) := by
  rw [← init_cells]
  unfold initW
  with_reducible refine Go.Lib.heap_setCell_same ?_ _
  with_reducible refine Go.Lib.heap_setCell_same ?_ _
  with_reducible refine Go.Lib.heap_setCell_same ?_ _
  with_reducible refine Go.Lib.heap_setCell_same ?_ _
  with_reducible refine Go.Lib.heap_setCell_same ?_ _
  with_reducible refine Go.Lib.heap_setCell_same ?_ _
  with_reducible refine Go.Lib.heap_setCell_same ?_ _
  with_reducible refine Go.Lib.heap_setCell_same ?_ _
  with_reducible refine Go.Lib.heap_setCell_same ?_ _
  with_reducible refine Go.Lib.heap_setCell_same ?_ _
  with_reducible refine Go.Lib.heap_setCell_same ?_ _
  with_reducible refine Go.Lib.heap_setCell_same ?_ _
  with_reducible refine Go.Lib.heap_setCell_same ?_ _
  with_reducible refine Go.Lib.heap_setCell_same ?_ _
  with_reducible refine Go.Lib.heap_setCell_same ?_ _
  with_reducible refine Go.Lib.heap_setCell_same ?_ _
  exact hb
theorem initW_below (w : World) (b : Nat) (v : Value) : Below b w (initW w b v) := by
  unfold initW
  refine Below.setCell ?_ (show b ≤ b from Nat.le_refl b) _
  refine Below.setCell ?_ (show b ≤ b from Nat.le_refl b) _
  refine Below.setCell ?_ (show b ≤ b from Nat.le_refl b) _
  refine Below.setCell ?_ (show b ≤ b from Nat.le_refl b) _
  refine Below.setCell ?_ (show b ≤ b from Nat.le_refl b) _
  refine Below.setCell ?_ (show b ≤ b from Nat.le_refl b) _
  refine Below.setCell ?_ (show b ≤ b from Nat.le_refl b) _
  refine Below.setCell ?_ (show b ≤ b from Nat.le_refl b) _
  refine Below.setCell ?_ (show b ≤ b from Nat.le_refl b) _
  refine Below.setCell ?_ (show b ≤ b from Nat.le_refl b) _
  refine Below.setCell ?_ (show b ≤ b from Nat.le_refl b) _
  refine Below.setCell ?_ (show b ≤ b from Nat.le_refl b) _
  refine Below.setCell ?_ (show b ≤ b from Nat.le_refl b) _
  refine Below.setCell ?_ (show b ≤ b from Nat.le_refl b) _
  refine Below.setCell ?_ (show b ≤ b from Nat.le_refl b) _
  refine Below.setCell ?_ (show b ≤ b from Nat.le_refl b) _
  exact Below.refl _ _
theorem initW_other (w : World) (b : Nat) (v : Value) (k : Nat) (hk : k ≠ b) : (initW w b v).heap[k]? = w.heap[k]? := by
  unfold initW
  iterate 16 rw [Below.heap_setCell _ _ _ _ (by exact hk)]
set_option maxRecDepth 100000 in
set_option maxHeartbeats 1600000 in
theorem init_spec (w : World) (b r : Nat) (hb : w.heap[b]? = some (.cells Tryd.zeroCells111 111 (0, 0))) :
    Calls Tryd.prog 53 #[.pointer (some ⟨b, 0, none⟩), .iface 121 (.pointer (some ⟨r, 0, none⟩))] w fun e w' => e = .returned (.pointer (some ⟨b, 0, none⟩)) ∧ w' = initW w b (.iface 121 (.pointer (some ⟨r, 0, none⟩))) := by
  have c0 : w.cell? ⟨b, 0, none⟩ = some (.nilIface) := (cell_of_heap hb 0).trans (by kernel_rfl)
  have c1 : w.cell? ⟨b, 1, none⟩ = some (.int .u8 0) := (cell_of_heap hb 1).trans (by kernel_rfl)
  have c1026 : w.cell? ⟨b, 1026, none⟩ = some (.int .i64 0) := (cell_of_heap hb 1026).trans (by kernel_rfl)
  have c1027 : w.cell? ⟨b, 1027, none⟩ = some (.int .i64 0) := (cell_of_heap hb 1027).trans (by kernel_rfl)
  have hf : ∀ i, w.frozen? ⟨b, i, none⟩ = false := frozen_of_heap hb
  have HB := Lib.hid hb
  clear hb
  go_enter Tryd.func53, Tryd.ntmps53
  go_upto_region 5 with (fail)
  have hb1 := (Go.Lib.heap_setCell_same (i := 1027) (Go.Lib.heap_setCell_same (i := 1026) (Go.Lib.heap_setCell_same (i := 1) (Go.Lib.heap_setCell_same (i := 0) HB.out (Value.iface 121 (.pointer (some ⟨r, 0, none⟩)))) (Value.int .u8 128)) (Value.int .i64 0)) (Value.int .i64 0))
  clear c0 c1 c1026 c1027 hf HB
  obtain ⟨w1, hw1⟩ : ∃ W, ((((w.setCell ⟨b, 0, none⟩ (Value.iface 121 (.pointer (some ⟨r, 0, none⟩)))).setCell ⟨b, 1, none⟩ (Value.int .u8 128)).setCell ⟨b, 1026, none⟩ (Value.int .i64 0)).setCell ⟨b, 1027, none⟩ (Value.int .i64 0)) = W := ⟨_, rfl⟩
  rw [hw1] at hb1 ⊢
  have HW1 := Lib.hid hw1
  clear hw1
  have c1028 : w1.cell? ⟨b, 1028, none⟩ = some (.int .i64 0) := (cell_of_heap hb1 1028).trans (by kernel_rfl)
  have c1029 : w1.cell? ⟨b, 1029, none⟩ = some (.int .i64 0) := (cell_of_heap hb1 1029).trans (by kernel_rfl)
  have c1030 : w1.cell? ⟨b, 1030, none⟩ = some (.int .i64 0) := (cell_of_heap hb1 1030).trans (by kernel_rfl)
  have c1031 : w1.cell? ⟨b, 1031, none⟩ = some (.int .i64 0) := (cell_of_heap hb1 1031).trans (by kernel_rfl)
  have hf : ∀ i, w1.frozen? ⟨b, i, none⟩ = false := frozen_of_heap hb1
  have HB := Lib.hid hb1
  clear hb1
  go_upto_region 9 with (fail)
  have hb2 := (Go.Lib.heap_setCell_same (i := 1031) (Go.Lib.heap_setCell_same (i := 1030) (Go.Lib.heap_setCell_same (i := 1029) (Go.Lib.heap_setCell_same (i := 1028) HB.out (Value.int .i64 0)) (Value.int .i64 1)) (Value.int .i64 0)) (Value.int .i64 0))
  clear c1028 c1029 c1030 c1031 hf HB
  obtain ⟨w2, hw2⟩ : ∃ W, ((((w1.setCell ⟨b, 1028, none⟩ (Value.int .i64 0)).setCell ⟨b, 1029, none⟩ (Value.int .i64 1)).setCell ⟨b, 1030, none⟩ (Value.int .i64 0)).setCell ⟨b, 1031, none⟩ (Value.int .i64 0)) = W := ⟨_, rfl⟩
  rw [hw2] at hb2 ⊢
  have HW2 := Lib.hid hw2
  clear hw2
  have c1032 : w2.cell? ⟨b, 1032, none⟩ = some (.int .i64 0) := (cell_of_heap hb2 1032).trans (by kernel_rfl)
  have c1036 : w2.cell? ⟨b, 1036, none⟩ = some (.int .i64 0) := (cell_of_heap hb2 1036).trans (by kernel_rfl)
  have c1038 : w2.cell? ⟨b, 1038, none⟩ = some (.int .i32 0) := (cell_of_heap hb2 1038).trans (by kernel_rfl)
  have c1039 : w2.cell? ⟨b, 1039, none⟩ = some (.nilFunc) := (cell_of_heap hb2 1039).trans (by kernel_rfl)
  have hf : ∀ i, w2.frozen? ⟨b, i, none⟩ = false := frozen_of_heap hb2
  have HB := Lib.hid hb2
  clear hb2
  go_upto_region 13 with (fail)
  have hb3 := (Go.Lib.heap_setCell_same (i := 1039) (Go.Lib.heap_setCell_same (i := 1038) (Go.Lib.heap_setCell_same (i := 1036) (Go.Lib.heap_setCell_same (i := 1032) HB.out (Value.int .i64 0)) (Value.int .i64 (-1))) (Value.int .i32 (-2))) (Value.nilFunc))
  clear c1032 c1036 c1038 c1039 hf HB
  obtain ⟨w3, hw3⟩ : ∃ W, ((((w2.setCell ⟨b, 1032, none⟩ (Value.int .i64 0)).setCell ⟨b, 1036, none⟩ (Value.int .i64 (-1))).setCell ⟨b, 1038, none⟩ (Value.int .i32 (-2))).setCell ⟨b, 1039, none⟩ (Value.nilFunc)) = W := ⟨_, rfl⟩
  rw [hw3] at hb3 ⊢
  have HW3 := Lib.hid hw3
  clear hw3
  have c1040 : w3.cell? ⟨b, 1040, none⟩ = some (.int .i64 0) := (cell_of_heap hb3 1040).trans (by kernel_rfl)
  have c1041 : w3.cell? ⟨b, 1041, none⟩ = some (.int .u64 0) := (cell_of_heap hb3 1041).trans (by kernel_rfl)
  have c1042 : w3.cell? ⟨b, 1042, none⟩ = some (.int .u64 0) := (cell_of_heap hb3 1042).trans (by kernel_rfl)
  have c1046 : w3.cell? ⟨b, 1046, none⟩ = some (.int .i64 0) := (cell_of_heap hb3 1046).trans (by kernel_rfl)
  have hf : ∀ i, w3.frozen? ⟨b, i, none⟩ = false := frozen_of_heap hb3
  have HB := Lib.hid hb3
  clear hb3
  go_wp2_with (fail)
  go_ret
  refine ⟨rfl, ?_⟩
  rw [← HW3.out, ← HW2.out, ← HW1.out]
  rfl
end Go.Proofs.YtmfihkgbfoapaaaDoor
