/- Own texts K1 of this claim, cut to what the claim uses. -/
import Derived.Test.YtmfihkgbfoapaaaDoorZK0
namespace Go.Proofs.YtmfihkgbfoapaaaDoor.K
open Go.RowKit Go.Proofs.YtmfihkgbfoapaaaDoorW.PrintWords Go.Proofs.YtmfihkgbfoapaaaDoorW.PrintLast
set_option linter.unusedVariables false
set_option linter.unusedSimpArgs false
def impl_mode.l0 : Nat → Int → Int → List Int → Int → Int → Option (Int)
  | 0, _, _, _, _, _ => none
  | k + 1, x0, x3, x6, x7, x8 => if x8 < x7 then (if 0 ≤ x8 then (if x8 < (x6.length : Int) then (if (Go.bits .and .i64 (shr .i64 x0 x8) 1) = 1 then (impl_mode.l0 k x0 (Go.bits .or .u64 x3 (rd x6 x8)) x6 x7 (wrap64 (x8 + 1))) else (impl_mode.l0 k x0 x3 x6 x7 (wrap64 (x8 + 1)))) else (none)) else (none)) else (some x3)
def impl_mode.f (k : Nat) (a0 : Int) : Option (Int) := (some (([4, 8, 16, 32, 64, 128, 256, 512] : List Int) : List Int)).bind fun y105 => (impl_mode.l0 k a0 0 y105 (y105.length : Int) 0)
set_option maxHeartbeats 8000000 in
set_option maxRecDepth 100000 in
theorem impl_mode.calls (k : Nat) (a0 : Int) (r : Int) (w : World) (h : impl_mode.f k a0 = some r) :
    Calls Tryd.prog 54 #[.int .i64 a0] w fun e w' => e = .returned (.int .u64 r) ∧ Below w.heap.size w w' := by
  have HB := Aside0.mk (Below.refl w.heap.size w)
  have H : ((some (([4, 8, 16, 32, 64, 128, 256, 512] : List Int) : List Int)).bind fun y105 => (impl_mode.l0 k a0 0 y105 (y105.length : Int) 0)) = some r := h
  clear h
  obtain ⟨y105, hy105⟩ : ∃ y_ : List Int, y_ = (([4, 8, 16, 32, 64, 128, 256, 512] : List Int)) := ⟨_, rfl⟩
  replace H : (impl_mode.l0 k a0 0 y105 (y105.length : Int) 0) = some r := by first | (rw [hy105]; with_reducible exact H) | (have H2_ := (Option.bind_some _ _).symm.trans H; rw [hy105]; with_reducible exact H2_) | (have H2_ := (Option.bind_some _ _).symm.trans H; with_reducible exact H2_) | with_reducible exact H | (rw [hy105]; exact H) | exact H
  have Ny105 := Aside0.mk hy105
  clear hy105
  have H' := Aside0.mk H
  clear H
  go_enter Tryd.func54, Tryd.ntmps54
  go_wp2_with (first | ((with_reducible refine gate_dst (N := 6) rfl ?_); refine Kd.R_lit (Kd.int .u64) _ 106 ?hg (N := 6) ?hd (xs := ([4, 8, 16, 32, 64, 128, 256, 512] : List Int)) (inner := [.int .u64 4, .int .u64 8, .int .u64 16, .int .u64 32, .int .u64 64, .int .u64 128, .int .u64 256, .int .u64 512]) (ok := fun _ => True) (okp := fun _ => True) ?hr ?hp (fun _ hk => hk) trivial (Below.refl _ _) (Nat.le_refl _) (by simp) ?_; (case hd => rfl); (case hg => rfl); (case hr => first | (go_simp; done) | (go_simp; rfl)); (case hp => exact (Reps.one (show Kd.M (Kd.int .u64) _ _ _ 4 [.int .u64 4] from rfl) (Reps.one (show Kd.M (Kd.int .u64) _ _ _ 8 [.int .u64 8] from rfl) (Reps.one (show Kd.M (Kd.int .u64) _ _ _ 16 [.int .u64 16] from rfl) (Reps.one (show Kd.M (Kd.int .u64) _ _ _ 32 [.int .u64 32] from rfl) (Reps.one (show Kd.M (Kd.int .u64) _ _ _ 64 [.int .u64 64] from rfl) (Reps.one (show Kd.M (Kd.int .u64) _ _ _ 128 [.int .u64 128] from rfl) (Reps.one (show Kd.M (Kd.int .u64) _ _ _ 256 [.int .u64 256] from rfl) (Reps.one (show Kd.M (Kd.int .u64) _ _ _ 512 [.int .u64 512] from rfl) (Reps.none _ _)))))))))); intro v106 w2 ho3 hb hg_ hnew_; clear hg_ hnew_; (first | rw [← Ny105.out] at ho3 | (simp only [Int.reduceToNat] at ho3; rw [← Ny105.out] at ho3)); have n0_ := Aside0.mk (Kd.R_lower ho3 (below_size (by repeat (first | (with_reducible first | exact HB.out | apply below_alloc | apply pw_below_drewN | apply below_drew1) | exact HB.out)))); have n1_ := Aside0.mk (below_step (by repeat (first | (with_reducible first | exact HB.out | apply below_alloc | apply pw_below_drewN | apply below_drew1) | exact HB.out)) hb); clear HB; have HO107 := n0_; have HB := n1_; clear n0_ n1_; clear hb ho3; obtain ⟨Ao4, co4, eo4⟩ := Kd.R_slice HO107.out; subst eo4))
  go_loopg [3, 8] k (fun kq v3 v8 w' => ∃ (x3_1 : Int) (x8_1 : Int), v3 = .int .u64 x3_1 ∧ v8 = .int .i64 x8_1 ∧ Aside0 (impl_mode.l0 kq a0 x3_1 y105 (y105.length : Int) x8_1 = some r) ∧ Aside0 (kq ≤ k) ∧ Aside0 (Kd.R (Kd.int .u64) 106 w' w.heap.size (fun _ => True) (.slice Ao4 y105.length co4) y105) ∧ Aside0 (Below w.heap.size w w'))
  case atStart => exact ⟨(0), (0), (by first | rfl | (simp; done) | (simp [*]; done)), (by first | rfl | (simp; done) | (simp [*]; done)), H', ⟨Nat.le_refl _⟩, ⟨by (with_reducible repeat (first | apply Kd.R_alloc | apply Kd.R_drewN | apply Kd.R_drew)); exact HO107.out⟩, ⟨by repeat (first | (with_reducible first | exact HB.out | apply below_alloc | apply pw_below_drewN | apply below_drew1) | exact HB.out)⟩⟩
  case round =>
    clear H'
    try clear p2
    obtain ⟨x3_1, x8_1, rfl, rfl, HA, HK1, HO_6, HB⟩ := hrel
    cases gk with
    | zero => exact absurd HA.out (by simp [impl_mode.l0])
    | succ k1 =>
      have H := HA.out
      clear HA
      simp only [impl_mode.l0] at H
      by_cases c5 : x8_1 < (y105.length : Int)
      · rw [if_pos c5] at H
        have c5b0 : decide (x8_1 < (y105.length : Int)) = true := decide_eq_true c5
        clear c5
        by_cases c6 : 0 ≤ x8_1
        · rw [if_pos c6] at H
          have c6b0 : decide (0 ≤ x8_1) = true := decide_eq_true c6
          clear c6
          by_cases c7 : x8_1 < (y105.length : Int)
          · rw [if_pos c7] at H
            have c7b0 : decide (x8_1 < (y105.length : Int)) = true := decide_eq_true c7
            clear c7
            have c8b0 := eq_true (of_decide_eq_true (by first | (with_reducible assumption) | assumption) : 0 ≤ x8_1)
            obtain ⟨ji9, hji9⟩ : ∃ j_ : Int, (shr .i64 a0 x8_1) = j_ := ⟨_, rfl⟩
            replace H : (if (Go.bits .and .i64 (ji9) 1) = 1 then (impl_mode.l0 k1 a0 (Go.bits .or .u64 x3_1 (rd y105 x8_1)) y105 (y105.length : Int) (wrap64 (x8_1 + 1))) else (impl_mode.l0 k1 a0 x3_1 y105 (y105.length : Int) (wrap64 (x8_1 + 1)))) = some r := by first | (rw [hji9] at H; exact H) | (simp only [hji9] at H ⊢; exact H)
            have hji9_ : (a0 / 2 ^ min x8_1.toNat 64) = ji9 := hji9
            have hji9z : x8_1 ≤ 64 → (a0 / 2 ^ x8_1.toNat) = ji9 := shr_small hji9
            by_cases c10 : (Go.bits .and .i64 (ji9) 1) = 1
            · rw [if_pos c10] at H
              have c10b0 : ((Go.bits .and .i64 (ji9) 1) == 1) = true := beq_iff_eq.mpr c10
              have c10b1 : ((Go.bits .and .i64 (ji9) 1) != 1) = false := bne_eq_false_iff_eq.mpr c10
              clear c10
              have H' := Aside0.mk H
              clear H
              have p108 : 0 ≤ (x8_1 : Int) := of_decide_eq_true (by first | (with_reducible assumption) | assumption)
              have q108 : x8_1 < (y105.length : Int) := of_decide_eq_true (by first | (with_reducible assumption) | assumption)
              obtain ⟨ad108, e108, hx108_0⟩ := Kd.at_int (Kd.R_reads' HO_6.out).2.2 x8_1 p108 q108
              cases e108
              replace p108 := eq_true p108
              replace q108 := eq_true q108
              go_wp2
              go_roundg k1
              case measure => have := HK1.out; omega
              case rel => exact ⟨(Go.bits .or .u64 x3_1 (rd y105 x8_1)), (wrap64 (x8_1 + 1)), (by first | rfl | (simp; done) | (simp [*]; done)), (by first | rfl | (simp; done) | (simp [*]; done)), H', ⟨by have := HK1.out; omega⟩, ⟨by (with_reducible repeat (first | apply Kd.R_alloc | apply Kd.R_drewN | apply Kd.R_drew)); exact HO_6.out⟩, ⟨by repeat (first | (with_reducible first | exact HB.out | apply below_alloc | apply pw_below_drewN | apply below_drew1) | exact HB.out)⟩⟩
            · rw [if_neg c10] at H
              have c10b0 : ((Go.bits .and .i64 (ji9) 1) == 1) = false := beq_eq_false_iff_ne.mpr c10
              have c10b1 : ((Go.bits .and .i64 (ji9) 1) != 1) = true := bne_iff_ne.mpr c10
              have H' := Aside0.mk H
              clear H
              have p108 : 0 ≤ (x8_1 : Int) := of_decide_eq_true (by first | (with_reducible assumption) | assumption)
              have q108 : x8_1 < (y105.length : Int) := of_decide_eq_true (by first | (with_reducible assumption) | assumption)
              obtain ⟨ad108, e108, hx108_0⟩ := Kd.at_int (Kd.R_reads' HO_6.out).2.2 x8_1 p108 q108
              cases e108
              replace p108 := eq_true p108
              replace q108 := eq_true q108
              go_wp2
              go_roundg k1
              case measure => have := HK1.out; omega
              case rel => exact ⟨(x3_1), (wrap64 (x8_1 + 1)), (by first | rfl | (simp; done) | (simp [*]; done)), (by first | rfl | (simp; done) | (simp [*]; done)), H', ⟨by have := HK1.out; omega⟩, ⟨by (with_reducible repeat (first | apply Kd.R_alloc | apply Kd.R_drewN | apply Kd.R_drew)); exact HO_6.out⟩, ⟨by repeat (first | (with_reducible first | exact HB.out | apply below_alloc | apply pw_below_drewN | apply below_drew1) | exact HB.out)⟩⟩
          · rw [if_neg c7] at H
            exact absurd H (by simp)
        · rw [if_neg c6] at H
          exact absurd H (by simp)
      · rw [if_neg c5] at H
        have c5b0 : decide (x8_1 < (y105.length : Int)) = false := decide_eq_false c5
        clear c5
        obtain rfl := Option.some.inj H
        go_wp2
        go_ret
        exact ⟨by first | rfl | (simp [errW_none, errW_some] <;> rfl) | (simp [*, errW_none, errW_some] <;> rfl), by repeat (first | (with_reducible first | exact HB.out | apply below_alloc | apply pw_below_drewN | apply below_drew1) | exact HB.out)⟩

-- NOT PRINTED: function 43 (impl_start)
def impl_kind.l0 : Nat → Int → List Int → Int → Int → Option (Int)
  | 0, _, _, _, _ => none
  | k + 1, x0, x5, x6, x7 => if x7 < x6 then (if 0 ≤ x7 then (if x7 < (x5.length : Int) then (if x0 = (rd x5 x7) then (some (wrap64 ((-1) - x7))) else (impl_kind.l0 k x0 x5 x6 (wrap64 (x7 + 1)))) else (none)) else (none)) else (some (wrap64 (x0)))
def impl_kind.f (k : Nat) (a0 : Int) : Option (Int) := (some (([(-1), (-2), (-3), (-4), (-5), (-6), (-7), (-8)] : List Int) : List Int)).bind fun y109 => (impl_kind.l0 k a0 y109 (y109.length : Int) 0)
set_option maxHeartbeats 8000000 in
set_option maxRecDepth 100000 in
theorem impl_kind.calls (k : Nat) (a0 : Int) (r : Int) (w : World) (h : impl_kind.f k a0 = some r) :
    Calls Tryd.prog 44 #[.int .i32 a0] w fun e w' => e = .returned (.int .i64 r) ∧ Below w.heap.size w w' := by
  have HB := Aside0.mk (Below.refl w.heap.size w)
  have H : ((some (([(-1), (-2), (-3), (-4), (-5), (-6), (-7), (-8)] : List Int) : List Int)).bind fun y109 => (impl_kind.l0 k a0 y109 (y109.length : Int) 0)) = some r := h
  clear h
  obtain ⟨y109, hy109⟩ : ∃ y_ : List Int, y_ = (([(-1), (-2), (-3), (-4), (-5), (-6), (-7), (-8)] : List Int)) := ⟨_, rfl⟩
  replace H : (impl_kind.l0 k a0 y109 (y109.length : Int) 0) = some r := by first | (rw [hy109]; with_reducible exact H) | (have H2_ := (Option.bind_some _ _).symm.trans H; rw [hy109]; with_reducible exact H2_) | (have H2_ := (Option.bind_some _ _).symm.trans H; with_reducible exact H2_) | with_reducible exact H | (rw [hy109]; exact H) | exact H
  have Ny109 := Aside0.mk hy109
  clear hy109
  have H' := Aside0.mk H
  clear H
  go_enter Tryd.func44, Tryd.ntmps44
  go_wp2_with (first | ((with_reducible refine gate_dst (N := 5) rfl ?_); refine Kd.R_lit (Kd.int .i32) _ 21 ?hg (N := 5) ?hd (xs := ([(-1), (-2), (-3), (-4), (-5), (-6), (-7), (-8)] : List Int)) (inner := [.int .i32 (-1), .int .i32 (-2), .int .i32 (-3), .int .i32 (-4), .int .i32 (-5), .int .i32 (-6), .int .i32 (-7), .int .i32 (-8)]) (ok := fun _ => True) (okp := fun _ => True) ?hr ?hp (fun _ hk => hk) trivial (Below.refl _ _) (Nat.le_refl _) (by simp) ?_; (case hd => rfl); (case hg => rfl); (case hr => first | (go_simp; done) | (go_simp; rfl)); (case hp => exact (Reps.one (show Kd.M (Kd.int .i32) _ _ _ (-1) [.int .i32 (-1)] from rfl) (Reps.one (show Kd.M (Kd.int .i32) _ _ _ (-2) [.int .i32 (-2)] from rfl) (Reps.one (show Kd.M (Kd.int .i32) _ _ _ (-3) [.int .i32 (-3)] from rfl) (Reps.one (show Kd.M (Kd.int .i32) _ _ _ (-4) [.int .i32 (-4)] from rfl) (Reps.one (show Kd.M (Kd.int .i32) _ _ _ (-5) [.int .i32 (-5)] from rfl) (Reps.one (show Kd.M (Kd.int .i32) _ _ _ (-6) [.int .i32 (-6)] from rfl) (Reps.one (show Kd.M (Kd.int .i32) _ _ _ (-7) [.int .i32 (-7)] from rfl) (Reps.one (show Kd.M (Kd.int .i32) _ _ _ (-8) [.int .i32 (-8)] from rfl) (Reps.none _ _)))))))))); intro v110 w2 ho3 hb hg_ hnew_; clear hg_ hnew_; (first | rw [← Ny109.out] at ho3 | (simp only [Int.reduceToNat] at ho3; rw [← Ny109.out] at ho3)); have n0_ := Aside0.mk (Kd.R_lower ho3 (below_size (by repeat (first | (with_reducible first | exact HB.out | apply below_alloc | apply pw_below_drewN | apply below_drew1) | exact HB.out)))); have n1_ := Aside0.mk (below_step (by repeat (first | (with_reducible first | exact HB.out | apply below_alloc | apply pw_below_drewN | apply below_drew1) | exact HB.out)) hb); clear HB; have HO111 := n0_; have HB := n1_; clear n0_ n1_; clear hb ho3; obtain ⟨Ao4, co4, eo4⟩ := Kd.R_slice HO111.out; subst eo4))
  go_loopg [7] k (fun kq v7 w' => ∃ (x7_1 : Int), v7 = .int .i64 x7_1 ∧ Aside0 (impl_kind.l0 kq a0 y109 (y109.length : Int) x7_1 = some r) ∧ Aside0 (kq ≤ k) ∧ Aside0 (Kd.R (Kd.int .i32) 21 w' w.heap.size (fun _ => True) (.slice Ao4 y109.length co4) y109) ∧ Aside0 (Below w.heap.size w w'))
  case atStart => exact ⟨(0), (by first | rfl | (simp; done) | (simp [*]; done)), H', ⟨Nat.le_refl _⟩, ⟨by (with_reducible repeat (first | apply Kd.R_alloc | apply Kd.R_drewN | apply Kd.R_drew)); exact HO111.out⟩, ⟨by repeat (first | (with_reducible first | exact HB.out | apply below_alloc | apply pw_below_drewN | apply below_drew1) | exact HB.out)⟩⟩
  case round =>
    clear H'
    try clear p2
    try clear c4
    obtain ⟨x7_1, rfl, HA, HK1, HO_5, HB⟩ := hrel
    cases gk with
    | zero => exact absurd HA.out (by simp [impl_kind.l0])
    | succ k1 =>
      have H := HA.out
      clear HA
      simp only [impl_kind.l0] at H
      by_cases c5 : x7_1 < (y109.length : Int)
      · rw [if_pos c5] at H
        have c5b0 : decide (x7_1 < (y109.length : Int)) = true := decide_eq_true c5
        clear c5
        by_cases c6 : 0 ≤ x7_1
        · rw [if_pos c6] at H
          have c6b0 : decide (0 ≤ x7_1) = true := decide_eq_true c6
          clear c6
          by_cases c7 : x7_1 < (y109.length : Int)
          · rw [if_pos c7] at H
            have c7b0 : decide (x7_1 < (y109.length : Int)) = true := decide_eq_true c7
            clear c7
            by_cases c8 : a0 = (rd y109 x7_1)
            · rw [if_pos c8] at H
              have c8b0 : (a0 == (rd y109 x7_1)) = true := beq_iff_eq.mpr c8
              have c8b1 : (a0 != (rd y109 x7_1)) = false := bne_eq_false_iff_eq.mpr c8
              clear c8
              obtain rfl := Option.some.inj H
              have p112 : 0 ≤ (x7_1 : Int) := of_decide_eq_true (by first | (with_reducible assumption) | assumption)
              have q112 : x7_1 < (y109.length : Int) := of_decide_eq_true (by first | (with_reducible assumption) | assumption)
              obtain ⟨ad112, e112, hx112_0⟩ := Kd.at_int (Kd.R_reads' HO_5.out).2.2 x7_1 p112 q112
              cases e112
              replace p112 := eq_true p112
              replace q112 := eq_true q112
              go_wp2
              go_ret
              exact ⟨by first | rfl | (simp [errW_none, errW_some] <;> rfl) | (simp [*, errW_none, errW_some] <;> rfl), by repeat (first | (with_reducible first | exact HB.out | apply below_alloc | apply pw_below_drewN | apply below_drew1) | exact HB.out)⟩
            · rw [if_neg c8] at H
              have c8b0 : (a0 == (rd y109 x7_1)) = false := beq_eq_false_iff_ne.mpr c8
              have c8b1 : (a0 != (rd y109 x7_1)) = true := bne_iff_ne.mpr c8
              have H' := Aside0.mk H
              clear H
              have p112 : 0 ≤ (x7_1 : Int) := of_decide_eq_true (by first | (with_reducible assumption) | assumption)
              have q112 : x7_1 < (y109.length : Int) := of_decide_eq_true (by first | (with_reducible assumption) | assumption)
              obtain ⟨ad112, e112, hx112_0⟩ := Kd.at_int (Kd.R_reads' HO_5.out).2.2 x7_1 p112 q112
              cases e112
              replace p112 := eq_true p112
              replace q112 := eq_true q112
              go_wp2
              go_roundg k1
              case measure => have := HK1.out; omega
              case rel => exact ⟨(wrap64 (x7_1 + 1)), (by first | rfl | (simp; done) | (simp [*]; done)), H', ⟨by have := HK1.out; omega⟩, ⟨by (with_reducible repeat (first | apply Kd.R_alloc | apply Kd.R_drewN | apply Kd.R_drew)); exact HO_5.out⟩, ⟨by repeat (first | (with_reducible first | exact HB.out | apply below_alloc | apply pw_below_drewN | apply below_drew1) | exact HB.out)⟩⟩
          · rw [if_neg c7] at H
            exact absurd H (by simp)
        · rw [if_neg c6] at H
          exact absurd H (by simp)
      · rw [if_neg c5] at H
        have c5b0 : decide (x7_1 < (y109.length : Int)) = false := decide_eq_false c5
        clear c5
        obtain rfl := Option.some.inj H
        go_wp2
        go_ret
        exact ⟨by first | rfl | (simp [errW_none, errW_some] <;> rfl) | (simp [*, errW_none, errW_some] <;> rfl), by repeat (first | (with_reducible first | exact HB.out | apply below_alloc | apply pw_below_drewN | apply below_drew1) | exact HB.out)⟩

-- NOT PRINTED: function 99 (bytes_Buffer_tryGrowByReslice)

-- NOT PRINTED: function 68 (bytes_Buffer_Reset)
def impl_place.f (a0_0 : ByteArray) (a0_1 : Int) (a0_2 : Int) (a0_3 : Int) : Option (Int × Int × Int) := some (a0_1, a0_2, a0_3)
set_option maxHeartbeats 8000000 in
set_option maxRecDepth 100000 in
theorem impl_place.calls (a0_0 : ByteArray) (a0_1 : Int) (a0_2 : Int) (a0_3 : Int) (r1 : Int) (r2 : Int) (r3 : Int) (w : World) (h : impl_place.f a0_0 a0_1 a0_2 a0_3 = some (r1, r2, r3)) :
    Calls Tryd.prog 47 #[.agg #[.string a0_0, .int .i64 a0_1, .int .i64 a0_2, .int .i64 a0_3]] w fun e w' => e = .returned (.agg #[.int .i64 r1, .int .i64 r2, .int .i64 r3]) ∧ Below w.heap.size w w' := by
  have hu109 := Tryd.underlying109
  have hu35 := Tryd.underlying35
  have HB := Aside0.mk (Below.refl w.heap.size w)
  have H : (some (a0_1, a0_2, a0_3)) = some (r1, r2, r3) := h
  clear h
  simp only [Option.some.injEq, Prod.mk.injEq] at H
  obtain ⟨rfl, rfl, rfl⟩ := H
  go_enter Tryd.func47, Tryd.ntmps47
  go_wp2_with (first | ((with_reducible refine gate_dst (N := 1) rfl ?_); refine box_event ?hg (N := 1) ?hd (cs := #[.string a0_0, .int .i64 a0_1, .int .i64 a0_2, .int .i64 a0_3]) (t := 109) ?hr ?_; (case hd => rfl); (case hg => rfl); (case hr => first | (go_simp; done) | (go_simp; rfl)); intro gb132 hg w2 hbox hb; have n0_ := Aside0.mk (below_step (by repeat (first | (with_reducible first | exact HB.out | apply below_alloc | apply pw_below_drewN | apply below_drew1) | exact HB.out)) hb); have n1_ := Aside0.mk (hbox); have n2_ := Aside0.mk ((by rw [hg]; exact (below_size (by repeat (first | (with_reducible first | exact HB.out | apply below_alloc | apply pw_below_drewN | apply below_drew1) | exact HB.out))) : w.heap.size ≤ gb132)); have n3_ := Aside0.mk ((by rw [hg]; exact (below_size (by repeat (first | (with_reducible first | exact HB.out | apply below_alloc | apply pw_below_drewN | apply below_drew1) | exact HB.out))) : w.heap.size ≤ gb132)); clear HB; have HB := n0_; have BK132 := n1_; have GW132 := n2_; have GE132 := n3_; clear n0_ n1_ n2_ n3_; clear hb hbox hg) | ((with_reducible refine gate_dst (N := 2) rfl ?_); refine box_event ?hg (N := 2) ?hd (cs := #[.int .i64 0, .int .i64 0, .int .i64 0]) (t := 35) ?hr ?_; (case hd => rfl); (case hg => rfl); (case hr => first | (go_simp; done) | (go_simp; rfl)); intro gb133 hg w3 hbox hb; have n0_ := Aside0.mk (blk_below (g := gb132) (o := .cells #[.string a0_0, .int .i64 a0_1, .int .i64 a0_2, .int .i64 a0_3] 109 (0, 0)) (by (with_reducible repeat (first | refine blk_drewN ?_ _ | refine blk_drew ?_ | refine blk_alloc ?_ _)); exact BK132.out) hb); have n1_ := Aside0.mk (below_step (by repeat (first | (with_reducible first | exact HB.out | apply below_alloc | apply pw_below_drewN | apply below_drew1 | refine below_set ?_ GE132.out) | exact HB.out)) hb); have n2_ := Aside0.mk (hbox); have n3_ := Aside0.mk ((by rw [hg]; exact (below_size (by repeat (first | (with_reducible first | exact HB.out | apply below_alloc | apply pw_below_drewN | apply below_drew1 | refine below_set ?_ GE132.out) | exact HB.out))) : w.heap.size ≤ gb133)); have n4_ := Aside0.mk ((by rw [hg]; exact (below_size (by repeat (first | (with_reducible first | exact HB.out | apply below_alloc | apply pw_below_drewN | apply below_drew1 | refine below_set ?_ GE132.out) | exact HB.out))) : w.heap.size ≤ gb133)); have n5_ := Aside0.mk ((by rw [hg]; exact Nat.ne_of_lt (blk_lt (g := gb132) (o := .cells #[.string a0_0, .int .i64 a0_1, .int .i64 a0_2, .int .i64 a0_3] 109 (0, 0)) (by (with_reducible repeat (first | refine blk_drewN ?_ _ | refine blk_drew ?_ | refine blk_alloc ?_ _)); exact BK132.out)) : gb132 ≠ gb133)); have n6_ := Aside0.mk ((by rw [hg]; exact Nat.ne_of_gt (blk_lt (g := gb132) (o := .cells #[.string a0_0, .int .i64 a0_1, .int .i64 a0_2, .int .i64 a0_3] 109 (0, 0)) (by (with_reducible repeat (first | refine blk_drewN ?_ _ | refine blk_drew ?_ | refine blk_alloc ?_ _)); exact BK132.out)) : gb133 ≠ gb132)); clear BK132; clear HB; have BK132 := n0_; have HB := n1_; have BK133 := n2_; have GW133 := n3_; have GE133 := n4_; have NB132_133 := n5_; have NB133_132 := n6_; clear n0_ n1_ n2_ n3_ n4_ n5_ n6_; clear hb hbox hg; have hnb4 := NB132_133.out; have hnc4 := NB133_132.out; have hcz5_0 : w3.cell? ⟨gb132, 0, none⟩ = some (.string a0_0) := (blk_cell BK132.out 0).trans rfl; have hcz5_1 : w3.cell? ⟨gb132, 1, none⟩ = some (.int .i64 a0_1) := (blk_cell BK132.out 1).trans rfl; have hcz5_2 : w3.cell? ⟨gb132, 2, none⟩ = some (.int .i64 a0_2) := (blk_cell BK132.out 2).trans rfl; have hcz5_3 : w3.cell? ⟨gb132, 3, none⟩ = some (.int .i64 a0_3) := (blk_cell BK132.out 3).trans rfl; have hfz5_0 := blk_frozen BK132.out 0; have hfz5_1 := blk_frozen BK132.out 1; have hfz5_2 := blk_frozen BK132.out 2; have hfz5_3 := blk_frozen BK132.out 3; have hcz6_0 : w3.cell? ⟨gb133, 0, none⟩ = some (.int .i64 0) := (blk_cell BK133.out 0).trans rfl; have hcz6_1 : w3.cell? ⟨gb133, 1, none⟩ = some (.int .i64 0) := (blk_cell BK133.out 1).trans rfl; have hcz6_2 : w3.cell? ⟨gb133, 2, none⟩ = some (.int .i64 0) := (blk_cell BK133.out 2).trans rfl; have hfz6_0 := blk_frozen BK133.out 0; have hfz6_1 := blk_frozen BK133.out 1; have hfz6_2 := blk_frozen BK133.out 2))
  refine bodyPost_ret (results_cell_row rfl _ _ gb133 35 #[.int .i64 a0_1, .int .i64 a0_2, .int .i64 a0_3] (0, 0) _ rfl (by (with_reducible repeat (first | refine blk_drewN ?_ _ | refine blk_drew ?_ | refine blk_alloc ?_ _)); refine blk_put (cs := #[.int .i64 a0_1, .int .i64 a0_2, .int .i64 0]) ?_ 2 _ rfl; (with_reducible repeat (first | refine blk_drewN ?_ _ | refine blk_drew ?_ | refine blk_alloc ?_ _)); refine blk_put (cs := #[.int .i64 a0_1, .int .i64 0, .int .i64 0]) ?_ 1 _ rfl; (with_reducible repeat (first | refine blk_drewN ?_ _ | refine blk_drew ?_ | refine blk_alloc ?_ _)); refine blk_put (cs := #[.int .i64 0, .int .i64 0, .int .i64 0]) ?_ 0 _ rfl; (with_reducible repeat (first | refine blk_drewN ?_ _ | refine blk_drew ?_ | refine blk_alloc ?_ _)); exact BK133.out) Tryd.underlying35 rfl (by kernel_rfl)) rfl ?_
  exact ⟨by first | rfl | (simp [errW_none, errW_some] <;> rfl) | (simp [*, errW_none, errW_some] <;> rfl), by repeat (first | (with_reducible first | exact HB.out | apply below_alloc | apply pw_below_drewN | apply below_drew1 | refine below_set ?_ GE132.out | refine below_set ?_ GE133.out) | exact HB.out)⟩
end Go.Proofs.YtmfihkgbfoapaaaDoor.K
