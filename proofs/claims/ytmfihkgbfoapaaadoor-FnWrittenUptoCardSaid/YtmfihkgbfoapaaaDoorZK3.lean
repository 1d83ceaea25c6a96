/- Own texts K3 of this claim, cut to what the claim uses. -/
import Derived.Test.YtmfihkgbfoapaaaDoorZK0
import Derived.Test.YtmfihkgbfoapaaaDoorZE10
namespace Go.Proofs.YtmfihkgbfoapaaaDoor.K
open Go.RowKit Go.Proofs.YtmfihkgbfoapaaaDoorW.PrintWords Go.Proofs.YtmfihkgbfoapaaaDoorW.PrintLast
set_option linter.unusedVariables false
set_option linter.unusedSimpArgs false
mutual
def spec_decode.j2 : Nat → List Int → Int → Int → Option (Int × Int)
  | 0, _, _, _ => none
  | k + 1, x0, x5, x6 => spec_decode.l0 k x0 x5 x6 1
def spec_decode.l0 : Nat → List Int → Int → Int → Int → Option (Int × Int)
  | 0, _, _, _, _ => none
  | k + 1, x0, x5, x6, x7 => if x7 < x5 then (if x7 ≥ (x0.length : Int) then (some (0, 0)) else (if 0 ≤ x7 then (if x7 < (x0.length : Int) then (if (Go.bits .and .u8 (rd x0 x7) 192) = 128 then (spec_decode.l0 k x0 x5 (Go.bits .or .i64 (wrap64 (x6 * 64)) (wrap64 (Go.bits .and .u8 (rd x0 x7) 63))) (wrap64 (x7 + 1))) else (some (0, 0))) else (none)) else (none))) else (if x5 = 3 then (if x6 < 2048 then (some (0, 0)) else (if x6 ≥ 55296 then (if x6 < 57344 then (some (0, 0)) else (if x5 = 4 then (if x6 < 65536 then (some (0, 0)) else (if x6 > 1114111 then (some (0, 0)) else (some (wrap32 (x6), x5)))) else (some (wrap32 (x6), x5)))) else (if x5 = 4 then (if x6 < 65536 then (some (0, 0)) else (if x6 > 1114111 then (some (0, 0)) else (some (wrap32 (x6), x5)))) else (some (wrap32 (x6), x5))))) else (if x5 = 4 then (if x6 < 65536 then (some (0, 0)) else (if x6 > 1114111 then (some (0, 0)) else (some (wrap32 (x6), x5)))) else (some (wrap32 (x6), x5))))
def spec_decode.j0 : Nat → List Int → Int → Bool → Option (Int × Int)
  | 0, _, _, _ => none
  | k + 1, x0, x4, x17 => if x17 = true then (spec_decode.j2 k x0 2 (Go.bits .and .i64 x4 31)) else (if x4 ≥ 224 then (spec_decode.j1 k x0 x4 (decide (x4 < 240))) else (spec_decode.j1 k x0 x4 false))
def spec_decode.j1 : Nat → List Int → Int → Bool → Option (Int × Int)
  | 0, _, _, _ => none
  | k + 1, x0, x4, x26 => if x26 = true then (spec_decode.j2 k x0 3 (Go.bits .and .i64 x4 15)) else (if x4 ≥ 240 then (if x4 < 245 then (spec_decode.j2 k x0 4 (Go.bits .and .i64 x4 7)) else (some (0, 0))) else (some (0, 0)))
end
def spec_decode.f (k : Nat) (l0 : List Int) : Option (Int × Int) := if 0 < (l0.length : Int) then (if (wrap64 (rd l0 0)) < 128 then (some (wrap32 (wrap64 (rd l0 0)), 1)) else (if (wrap64 (rd l0 0)) ≥ 194 then (spec_decode.j0 k l0 (wrap64 (rd l0 0)) (decide ((wrap64 (rd l0 0)) < 224))) else (spec_decode.j0 k l0 (wrap64 (rd l0 0)) false))) else (none)
set_option maxHeartbeats 8000000 in
set_option maxRecDepth 100000 in
theorem spec_decode.calls (k : Nat) (A0 : Option Addr) (c0 : Nat) (l0 : List Int) (r1 : Int) (r2 : Int) (w : World) (hr0 : Kd.C (Kd.int .u8) w A0 l0.length l0) (hc0 : l0.length ≤ c0) (h : spec_decode.f k l0 = some (r1, r2)) :
    Calls Tryd.prog 37 #[.slice A0 l0.length c0] w fun e w' => e = .returned (.tuple #[.int .i32 r1, .int .i64 r2]) ∧ Drawn0 w w' := by
  have HR0 := Aside0.mk hr0
  have HC0 := Aside0.mk hc0
  clear hr0 hc0
  have H : (if 0 < (l0.length : Int) then (if (wrap64 (rd l0 0)) < 128 then (some (wrap32 (wrap64 (rd l0 0)), 1)) else (if (wrap64 (rd l0 0)) ≥ 194 then (spec_decode.j0 k l0 (wrap64 (rd l0 0)) (decide ((wrap64 (rd l0 0)) < 224))) else (spec_decode.j0 k l0 (wrap64 (rd l0 0)) false))) else (none)) = some (r1, r2) := h
  clear h
  by_cases c2 : 0 < (l0.length : Int)
  · rw [if_pos c2] at H
    have c2b0 : decide (0 < (l0.length : Int)) = true := decide_eq_true c2
    have c2b1 : decide (0 < l0.length) = true := decide_eq_true (by omega)
    clear c2
    have HC3 := Aside0.mk H
    clear H
    have p144 : 0 ≤ (0 : Int) := (by omega)
    have q144 : 0 < (l0.length : Int) := of_decide_eq_true (by first | (with_reducible assumption) | assumption)
    obtain ⟨ad144, e144, hx144_0⟩ := Kd.at_int HR0.out 0 p144 q144
    cases e144
    have qi144 : (0 < l0.length) = True := eq_true (by omega)
    (try rw [show ((0 : Int)).toNat = 0 from rfl] at hx144_0)
    (try rw [Addr.add_zero'] at hx144_0)
    replace p144 := eq_true p144
    replace q144 := eq_true q144
    go_enter Tryd.func37, Tryd.ntmps37
    go_upto_block 0 with (fail)
    go_cut [5, 6] (fun v5 v6 wc => ∃ (kq : Nat) (x5_2 : Int) (x6_2 : Int), v5 = .int .i64 x5_2 ∧ v6 = .int .i64 x6_2 ∧ Aside0 (spec_decode.j2 kq l0 x5_2 x6_2 = some (r1, r2)) ∧ Aside0 (kq ≤ k) ∧ Drawn0 w wc)
    case first =>
      have H := HC3.out
      clear HC3
      by_cases c4 : (wrap64 (rd l0 0)) < 128
      · rw [if_pos c4] at H
        have c4b0 : decide ((wrap64 (rd l0 0)) < 128) = true := decide_eq_true c4
        clear c4
        (first | rw [c4b0] | (simp only [i64_w, i32_w]; rw [c4b0]) | skip)
        simp only [Option.some.injEq, Prod.mk.injEq] at H
        obtain ⟨rfl, rfl⟩ := H
        go_wp2
        go_ret2
        exact ⟨by first | rfl | (simp; done) | (simp [*]; done), by repeat (first | exact Drawn0.refl _ | apply Drawn0.step)⟩
      · rw [if_neg c4] at H
        have c4b0 : decide ((wrap64 (rd l0 0)) < 128) = false := decide_eq_false c4
        clear c4
        (first | rw [c4b0] | (simp only [i64_w, i32_w]; rw [c4b0]) | skip)
        have HC5 := Aside0.mk H
        clear H
        go_upto_region 6 with (fail)
        go_cut [17] (fun v17 wc => ∃ (kq : Nat) (x17_4 : Bool), v17 = .bool x17_4 ∧ Aside0 (spec_decode.j0 kq l0 (wrap64 (rd l0 0)) x17_4 = some (r1, r2)) ∧ Aside0 (kq ≤ k) ∧ Drawn0 w wc)
        case first =>
          have H := HC5.out
          clear HC5
          by_cases c6 : (wrap64 (rd l0 0)) ≥ 194
          · rw [if_pos c6] at H
            have c6b0 : decide (194 ≤ (wrap64 (rd l0 0))) = true := decide_eq_true c6
            clear c6
            (first | rw [c6b0] | (simp only [i64_w, i32_w]; rw [c6b0]) | skip)
            have H' := Aside0.mk H
            clear H
            go_wp2
            go_meet
            case rel => exact ⟨_, (decide ((wrap64 (rd l0 0)) < 224)), (by first | rfl | (simp; done) | (simp [*]; done)), H', ⟨by first | omega | exact Nat.le_refl _⟩, by repeat (first | exact Drawn0.refl _ | apply Drawn0.step)⟩
          · rw [if_neg c6] at H
            have c6b0 : decide (194 ≤ (wrap64 (rd l0 0))) = false := decide_eq_false c6
            clear c6
            (first | rw [c6b0] | (simp only [i64_w, i32_w]; rw [c6b0]) | skip)
            have H' := Aside0.mk H
            clear H
            go_wp2
            go_meet
            case rel => exact ⟨_, (false), (by first | rfl | (simp; done) | (simp [*]; done)), H', ⟨by first | omega | exact Nat.le_refl _⟩, by repeat (first | exact Drawn0.refl _ | apply Drawn0.step)⟩
        case rest =>
          clear HC5
          try clear p1
          try clear q1
          try clear hx1
          try clear qi1
          try clear c2
          try clear c2b0
          try clear c2b1
          try clear p2
          try clear c3
          try clear p3
          try clear c4
          try clear c4b0
          try clear c6
          try clear c6b0
          try clear p6
          try clear hx144_0
          try clear p144
          try clear q144
          obtain ⟨kq, x17_4, rfl, HA, HJ4, ⟨mc4, rfl⟩⟩ := hcut
          cases kq with
          | zero => exact absurd HA.out (by simp [spec_decode.j0])
          | succ kj4 =>
            have H := HA.out
            clear HA
            simp only [spec_decode.j0] at H
            by_cases c7 : x17_4 = true
            · subst c7
              have H1 : (spec_decode.j2 kj4 l0 2 (Go.bits .and .i64 (wrap64 (rd l0 0)) 31)) = some (r1, r2) := by rw [if_pos rfl] at H; exact H
              clear H
              have H := H1
              clear H1
              have H' := Aside0.mk H
              clear H
              go_wp2
              go_meet
              case rel => exact ⟨_, (2), (Go.bits .and .i64 (wrap64 (rd l0 0)) 31), (by first | rfl | (simp; done) | (simp [*]; done)), (by first | rfl | (simp; done) | (simp [*]; done)), H', ⟨by have := HJ4.out; first | omega | exact Nat.le_refl _⟩, by repeat (first | exact Drawn0.refl _ | apply Drawn0.step)⟩
            · replace c7 := Bool.eq_false_iff.mpr c7
              subst c7
              have H1 : (if (wrap64 (rd l0 0)) ≥ 224 then (spec_decode.j1 kj4 l0 (wrap64 (rd l0 0)) (decide ((wrap64 (rd l0 0)) < 240))) else (spec_decode.j1 kj4 l0 (wrap64 (rd l0 0)) false)) = some (r1, r2) := by rw [if_neg (show ¬ (false = true) by decide)] at H; exact H
              clear H
              have H := H1
              clear H1
              have HC8 := Aside0.mk H
              clear H
              go_upto_region 8 with (fail)
              go_cut [26] (fun v26 wc => ∃ (kq : Nat) (x26_7 : Bool), v26 = .bool x26_7 ∧ Aside0 (spec_decode.j1 kq l0 (wrap64 (rd l0 0)) x26_7 = some (r1, r2)) ∧ Aside0 (kq ≤ kj4) ∧ Drawn0 w wc)
              case first =>
                have H := HC8.out
                clear HC8
                by_cases c9 : (wrap64 (rd l0 0)) ≥ 224
                · rw [if_pos c9] at H
                  have c9b0 : decide (224 ≤ (wrap64 (rd l0 0))) = true := decide_eq_true c9
                  clear c9
                  (first | rw [c9b0] | (simp only [i64_w, i32_w]; rw [c9b0]) | skip)
                  have H' := Aside0.mk H
                  clear H
                  go_wp2
                  go_meet
                  case rel => exact ⟨_, (decide ((wrap64 (rd l0 0)) < 240)), (by first | rfl | (simp; done) | (simp [*]; done)), H', ⟨by have := HJ4.out; first | omega | exact Nat.le_refl _⟩, by repeat (first | exact Drawn0.refl _ | apply Drawn0.step)⟩
                · rw [if_neg c9] at H
                  have c9b0 : decide (224 ≤ (wrap64 (rd l0 0))) = false := decide_eq_false c9
                  clear c9
                  (first | rw [c9b0] | (simp only [i64_w, i32_w]; rw [c9b0]) | skip)
                  have H' := Aside0.mk H
                  clear H
                  go_wp2
                  go_meet
                  case rel => exact ⟨_, (false), (by first | rfl | (simp; done) | (simp [*]; done)), H', ⟨by have := HJ4.out; first | omega | exact Nat.le_refl _⟩, by repeat (first | exact Drawn0.refl _ | apply Drawn0.step)⟩
              case rest =>
                clear HC8
                try clear p1
                try clear q1
                try clear hx1
                try clear qi1
                try clear c2
                try clear c2b0
                try clear c2b1
                try clear p2
                try clear c3
                try clear p3
                try clear c4
                try clear c4b0
                try clear c6
                try clear c6b0
                try clear p6
                try clear c7
                try clear c9
                try clear c9b0
                try clear hx144_0
                try clear p1
                try clear p144
                try clear p2
                try clear p3
                try clear p6
                try clear q1
                try clear q144
                obtain ⟨kq, x26_7, rfl, HA, HJ7, ⟨mc7, rfl⟩⟩ := hcut
                cases kq with
                | zero => exact absurd HA.out (by simp [spec_decode.j1])
                | succ kj7 =>
                  have H := HA.out
                  clear HA
                  simp only [spec_decode.j1] at H
                  by_cases c10 : x26_7 = true
                  · subst c10
                    have H1 : (spec_decode.j2 kj7 l0 3 (Go.bits .and .i64 (wrap64 (rd l0 0)) 15)) = some (r1, r2) := by rw [if_pos rfl] at H; exact H
                    clear H
                    have H := H1
                    clear H1
                    have H' := Aside0.mk H
                    clear H
                    go_wp2
                    go_meet
                    case rel => exact ⟨_, (3), (Go.bits .and .i64 (wrap64 (rd l0 0)) 15), (by first | rfl | (simp; done) | (simp [*]; done)), (by first | rfl | (simp; done) | (simp [*]; done)), H', ⟨by have := HJ4.out; have := HJ7.out; first | omega | exact Nat.le_refl _⟩, by repeat (first | exact Drawn0.refl _ | apply Drawn0.step)⟩
                  · replace c10 := Bool.eq_false_iff.mpr c10
                    subst c10
                    have H1 : (if (wrap64 (rd l0 0)) ≥ 240 then (if (wrap64 (rd l0 0)) < 245 then (spec_decode.j2 kj7 l0 4 (Go.bits .and .i64 (wrap64 (rd l0 0)) 7)) else (some (0, 0))) else (some (0, 0))) = some (r1, r2) := by rw [if_neg (show ¬ (false = true) by decide)] at H; exact H
                    clear H
                    have H := H1
                    clear H1
                    by_cases c11 : (wrap64 (rd l0 0)) ≥ 240
                    · rw [if_pos c11] at H
                      have c11b0 : decide (240 ≤ (wrap64 (rd l0 0))) = true := decide_eq_true c11
                      clear c11
                      by_cases c12 : (wrap64 (rd l0 0)) < 245
                      · rw [if_pos c12] at H
                        have c12b0 : decide ((wrap64 (rd l0 0)) < 245) = true := decide_eq_true c12
                        clear c12
                        have H' := Aside0.mk H
                        clear H
                        go_wp2
                        go_meet
                        case rel => exact ⟨_, (4), (Go.bits .and .i64 (wrap64 (rd l0 0)) 7), (by first | rfl | (simp; done) | (simp [*]; done)), (by first | rfl | (simp; done) | (simp [*]; done)), H', ⟨by have := HJ4.out; have := HJ7.out; first | omega | exact Nat.le_refl _⟩, by repeat (first | exact Drawn0.refl _ | apply Drawn0.step)⟩
                      · rw [if_neg c12] at H
                        have c12b0 : decide ((wrap64 (rd l0 0)) < 245) = false := decide_eq_false c12
                        clear c12
                        simp only [Option.some.injEq, Prod.mk.injEq] at H
                        obtain ⟨rfl, rfl⟩ := H
                        go_wp2
                        go_ret2
                        exact ⟨by first | rfl | (simp; done) | (simp [*]; done), by repeat (first | exact Drawn0.refl _ | apply Drawn0.step)⟩
                    · rw [if_neg c11] at H
                      have c11b0 : decide (240 ≤ (wrap64 (rd l0 0))) = false := decide_eq_false c11
                      clear c11
                      simp only [Option.some.injEq, Prod.mk.injEq] at H
                      obtain ⟨rfl, rfl⟩ := H
                      go_wp2
                      go_ret2
                      exact ⟨by first | rfl | (simp; done) | (simp [*]; done), by repeat (first | exact Drawn0.refl _ | apply Drawn0.step)⟩
    case rest =>
      clear HC3
      try clear c1
      try clear p1
      try clear q1
      try clear hx1
      try clear qi1
      try clear c2
      try clear c2b0
      try clear c2b1
      try clear p2
      try clear c3
      try clear p3
      try clear c4
      try clear c4b0
      try clear c6
      try clear c6b0
      try clear p6
      try clear c7
      try clear c9
      try clear c9b0
      try clear c10
      try clear c11
      try clear c11b0
      try clear c12
      try clear c12b0
      try clear hx144_0
      try clear p1
      try clear p144
      try clear p2
      try clear p3
      try clear p6
      try clear q1
      try clear q144
      obtain ⟨kq, x5_2, x6_2, rfl, rfl, HA, HJ2, ⟨mc2, rfl⟩⟩ := hcut
      cases kq with
      | zero => exact absurd HA.out (by simp [spec_decode.j2])
      | succ kj2 =>
        have H := HA.out
        clear HA
        simp only [spec_decode.j2] at H
        have H' := Aside0.mk H
        clear H
        go_wp2
        go_loopg [6, 7] kj2 (fun kq v6 v7 w' => ∃ (x6_2 : Int) (x7_2 : Int), v6 = .int .i64 x6_2 ∧ v7 = .int .i64 x7_2 ∧ Aside0 (spec_decode.l0 kq l0 x5_2 x6_2 x7_2 = some (r1, r2)) ∧ Aside0 (kq ≤ kj2) ∧ Drawn0 w w')
        case atStart => exact ⟨(x6_2), (1), (by first | rfl | (simp; done) | (simp [*]; done)), (by first | rfl | (simp; done) | (simp [*]; done)), H', ⟨Nat.le_refl _⟩, by repeat (first | exact Drawn0.refl _ | apply Drawn0.step)⟩
        case round =>
          clear H'
          try clear c1
          try clear p1
          try clear q1
          try clear hx1
          try clear qi1
          try clear c2
          try clear c2b0
          try clear c2b1
          try clear p2
          try clear c3
          try clear p3
          try clear c4
          try clear c4b0
          try clear c6
          try clear c6b0
          try clear p6
          try clear c7
          try clear c9
          try clear c9b0
          try clear c10
          try clear c11
          try clear c11b0
          try clear c12
          try clear c12b0
          try clear hx144_0
          try clear p1
          try clear p144
          try clear p2
          try clear p3
          try clear p6
          try clear q1
          try clear q144
          obtain ⟨x6_2, x7_2, rfl, rfl, HA, HK2, ⟨m2, rfl⟩⟩ := hrel
          cases gk with
          | zero => exact absurd HA.out (by simp [spec_decode.l0])
          | succ k2 =>
            have H := HA.out
            clear HA
            simp only [spec_decode.l0] at H
            by_cases c13 : x7_2 < x5_2
            · rw [if_pos c13] at H
              have c13b0 : decide (x7_2 < x5_2) = true := decide_eq_true c13
              clear c13
              by_cases c14 : x7_2 ≥ (l0.length : Int)
              · rw [if_pos c14] at H
                have c14b0 : decide ((l0.length : Int) ≤ x7_2) = true := decide_eq_true c14
                clear c14
                simp only [Option.some.injEq, Prod.mk.injEq] at H
                obtain ⟨rfl, rfl⟩ := H
                go_wp2
                go_ret2
                exact ⟨by first | rfl | (simp; done) | (simp [*]; done), by repeat (first | exact Drawn0.refl _ | apply Drawn0.step)⟩
              · rw [if_neg c14] at H
                have c14b0 : decide ((l0.length : Int) ≤ x7_2) = false := decide_eq_false c14
                clear c14
                by_cases c15 : 0 ≤ x7_2
                · rw [if_pos c15] at H
                  have c15b0 : decide (0 ≤ x7_2) = true := decide_eq_true c15
                  clear c15
                  by_cases c16 : x7_2 < (l0.length : Int)
                  · rw [if_pos c16] at H
                    have c16b0 : decide (x7_2 < (l0.length : Int)) = true := decide_eq_true c16
                    clear c16
                    by_cases c17 : (Go.bits .and .u8 (rd l0 x7_2) 192) = 128
                    · rw [if_pos c17] at H
                      have c17b0 : ((Go.bits .and .u8 (rd l0 x7_2) 192) == 128) = true := beq_iff_eq.mpr c17
                      have c17b1 : ((Go.bits .and .u8 (rd l0 x7_2) 192) != 128) = false := bne_eq_false_iff_eq.mpr c17
                      clear c17
                      have H' := Aside0.mk H
                      clear H
                      have p145 : 0 ≤ (x7_2 : Int) := of_decide_eq_true (by first | (with_reducible assumption) | assumption)
                      have q145 : x7_2 < (l0.length : Int) := of_decide_eq_true (by first | (with_reducible assumption) | assumption)
                      obtain ⟨ad145, e145, hx145_0⟩ := Kd.at_int HR0.out x7_2 p145 q145
                      obtain rfl : ad144 = ad145 := (by injection e145)
                      replace p145 := eq_true p145
                      replace q145 := eq_true q145
                      have p146 : 0 ≤ (x7_2 : Int) := of_decide_eq_true (by first | (with_reducible assumption) | assumption)
                      have q146 : x7_2 < (l0.length : Int) := of_decide_eq_true (by first | (with_reducible assumption) | assumption)
                      obtain ⟨ad146, e146, hx146_0⟩ := Kd.at_int HR0.out x7_2 p146 q146
                      obtain rfl : ad144 = ad146 := (by injection e146)
                      replace p146 := eq_true p146
                      replace q146 := eq_true q146
                      go_wp2
                      go_roundg k2
                      case measure => have := HJ2.out; have := HK2.out; omega
                      case rel => exact ⟨(Go.bits .or .i64 (wrap64 (x6_2 * 64)) (wrap64 (Go.bits .and .u8 (rd l0 x7_2) 63))), (wrap64 (x7_2 + 1)), (by first | rfl | (simp; done) | (simp [*]; done)), (by first | rfl | (simp; done) | (simp [*]; done)), H', ⟨by have := HJ2.out; have := HK2.out; omega⟩, by repeat (first | exact Drawn0.refl _ | apply Drawn0.step)⟩
                    · rw [if_neg c17] at H
                      have c17b0 : ((Go.bits .and .u8 (rd l0 x7_2) 192) == 128) = false := beq_eq_false_iff_ne.mpr c17
                      have c17b1 : ((Go.bits .and .u8 (rd l0 x7_2) 192) != 128) = true := bne_iff_ne.mpr c17
                      simp only [Option.some.injEq, Prod.mk.injEq] at H
                      obtain ⟨rfl, rfl⟩ := H
                      have p145 : 0 ≤ (x7_2 : Int) := of_decide_eq_true (by first | (with_reducible assumption) | assumption)
                      have q145 : x7_2 < (l0.length : Int) := of_decide_eq_true (by first | (with_reducible assumption) | assumption)
                      obtain ⟨ad145, e145, hx145_0⟩ := Kd.at_int HR0.out x7_2 p145 q145
                      obtain rfl : ad144 = ad145 := (by injection e145)
                      replace p145 := eq_true p145
                      replace q145 := eq_true q145
                      go_wp2
                      go_ret2
                      exact ⟨by first | rfl | (simp; done) | (simp [*]; done), by repeat (first | exact Drawn0.refl _ | apply Drawn0.step)⟩
                  · rw [if_neg c16] at H
                    exact absurd H (by simp)
                · rw [if_neg c15] at H
                  exact absurd H (by simp)
            · rw [if_neg c13] at H
              have c13b0 : decide (x7_2 < x5_2) = false := decide_eq_false c13
              clear c13
              by_cases c18 : x5_2 = 3
              · rw [if_pos c18] at H
                have c18b0 : (x5_2 == 3) = true := beq_iff_eq.mpr c18
                have c18b1 : (x5_2 != 3) = false := bne_eq_false_iff_eq.mpr c18
                clear c18
                by_cases c19 : x6_2 < 2048
                · rw [if_pos c19] at H
                  have c19b0 : decide (x6_2 < 2048) = true := decide_eq_true c19
                  clear c19
                  simp only [Option.some.injEq, Prod.mk.injEq] at H
                  obtain ⟨rfl, rfl⟩ := H
                  go_wp2
                  go_ret2
                  exact ⟨by first | rfl | (simp; done) | (simp [*]; done), by repeat (first | exact Drawn0.refl _ | apply Drawn0.step)⟩
                · rw [if_neg c19] at H
                  have c19b0 : decide (x6_2 < 2048) = false := decide_eq_false c19
                  clear c19
                  by_cases c20 : x6_2 ≥ 55296
                  · rw [if_pos c20] at H
                    have c20b0 : decide (55296 ≤ x6_2) = true := decide_eq_true c20
                    clear c20
                    by_cases c21 : x6_2 < 57344
                    · rw [if_pos c21] at H
                      have c21b0 : decide (x6_2 < 57344) = true := decide_eq_true c21
                      clear c21
                      simp only [Option.some.injEq, Prod.mk.injEq] at H
                      obtain ⟨rfl, rfl⟩ := H
                      go_wp2
                      go_ret2
                      exact ⟨by first | rfl | (simp; done) | (simp [*]; done), by repeat (first | exact Drawn0.refl _ | apply Drawn0.step)⟩
                    · rw [if_neg c21] at H
                      have c21b0 : decide (x6_2 < 57344) = false := decide_eq_false c21
                      clear c21
                      by_cases c22 : x5_2 = 4
                      · rw [if_pos c22] at H
                        have c22b0 : (x5_2 == 4) = true := beq_iff_eq.mpr c22
                        have c22b1 : (x5_2 != 4) = false := bne_eq_false_iff_eq.mpr c22
                        clear c22
                        by_cases c23 : x6_2 < 65536
                        · rw [if_pos c23] at H
                          have c23b0 : decide (x6_2 < 65536) = true := decide_eq_true c23
                          clear c23
                          simp only [Option.some.injEq, Prod.mk.injEq] at H
                          obtain ⟨rfl, rfl⟩ := H
                          go_wp2
                          go_ret2
                          exact ⟨by first | rfl | (simp; done) | (simp [*]; done), by repeat (first | exact Drawn0.refl _ | apply Drawn0.step)⟩
                        · rw [if_neg c23] at H
                          have c23b0 : decide (x6_2 < 65536) = false := decide_eq_false c23
                          clear c23
                          by_cases c24 : x6_2 > 1114111
                          · rw [if_pos c24] at H
                            have c24b0 : decide (1114111 < x6_2) = true := decide_eq_true c24
                            clear c24
                            simp only [Option.some.injEq, Prod.mk.injEq] at H
                            obtain ⟨rfl, rfl⟩ := H
                            go_wp2
                            go_ret2
                            exact ⟨by first | rfl | (simp; done) | (simp [*]; done), by repeat (first | exact Drawn0.refl _ | apply Drawn0.step)⟩
                          · rw [if_neg c24] at H
                            have c24b0 : decide (1114111 < x6_2) = false := decide_eq_false c24
                            clear c24
                            simp only [Option.some.injEq, Prod.mk.injEq] at H
                            obtain ⟨rfl, rfl⟩ := H
                            go_wp2
                            go_ret2
                            exact ⟨by first | rfl | (simp; done) | (simp [*]; done), by repeat (first | exact Drawn0.refl _ | apply Drawn0.step)⟩
                      · rw [if_neg c22] at H
                        have c22b0 : (x5_2 == 4) = false := beq_eq_false_iff_ne.mpr c22
                        have c22b1 : (x5_2 != 4) = true := bne_iff_ne.mpr c22
                        simp only [Option.some.injEq, Prod.mk.injEq] at H
                        obtain ⟨rfl, rfl⟩ := H
                        go_wp2
                        go_ret2
                        exact ⟨by first | rfl | (simp; done) | (simp [*]; done), by repeat (first | exact Drawn0.refl _ | apply Drawn0.step)⟩
                  · rw [if_neg c20] at H
                    have c20b0 : decide (55296 ≤ x6_2) = false := decide_eq_false c20
                    clear c20
                    by_cases c25 : x5_2 = 4
                    · rw [if_pos c25] at H
                      have c25b0 : (x5_2 == 4) = true := beq_iff_eq.mpr c25
                      have c25b1 : (x5_2 != 4) = false := bne_eq_false_iff_eq.mpr c25
                      clear c25
                      by_cases c26 : x6_2 < 65536
                      · rw [if_pos c26] at H
                        have c26b0 : decide (x6_2 < 65536) = true := decide_eq_true c26
                        clear c26
                        simp only [Option.some.injEq, Prod.mk.injEq] at H
                        obtain ⟨rfl, rfl⟩ := H
                        go_wp2
                        go_ret2
                        exact ⟨by first | rfl | (simp; done) | (simp [*]; done), by repeat (first | exact Drawn0.refl _ | apply Drawn0.step)⟩
                      · rw [if_neg c26] at H
                        have c26b0 : decide (x6_2 < 65536) = false := decide_eq_false c26
                        clear c26
                        by_cases c27 : x6_2 > 1114111
                        · rw [if_pos c27] at H
                          have c27b0 : decide (1114111 < x6_2) = true := decide_eq_true c27
                          clear c27
                          simp only [Option.some.injEq, Prod.mk.injEq] at H
                          obtain ⟨rfl, rfl⟩ := H
                          go_wp2
                          go_ret2
                          exact ⟨by first | rfl | (simp; done) | (simp [*]; done), by repeat (first | exact Drawn0.refl _ | apply Drawn0.step)⟩
                        · rw [if_neg c27] at H
                          have c27b0 : decide (1114111 < x6_2) = false := decide_eq_false c27
                          clear c27
                          simp only [Option.some.injEq, Prod.mk.injEq] at H
                          obtain ⟨rfl, rfl⟩ := H
                          go_wp2
                          go_ret2
                          exact ⟨by first | rfl | (simp; done) | (simp [*]; done), by repeat (first | exact Drawn0.refl _ | apply Drawn0.step)⟩
                    · rw [if_neg c25] at H
                      have c25b0 : (x5_2 == 4) = false := beq_eq_false_iff_ne.mpr c25
                      have c25b1 : (x5_2 != 4) = true := bne_iff_ne.mpr c25
                      simp only [Option.some.injEq, Prod.mk.injEq] at H
                      obtain ⟨rfl, rfl⟩ := H
                      go_wp2
                      go_ret2
                      exact ⟨by first | rfl | (simp; done) | (simp [*]; done), by repeat (first | exact Drawn0.refl _ | apply Drawn0.step)⟩
              · rw [if_neg c18] at H
                have c18b0 : (x5_2 == 3) = false := beq_eq_false_iff_ne.mpr c18
                have c18b1 : (x5_2 != 3) = true := bne_iff_ne.mpr c18
                by_cases c28 : x5_2 = 4
                · rw [if_pos c28] at H
                  have c28b0 : (x5_2 == 4) = true := beq_iff_eq.mpr c28
                  have c28b1 : (x5_2 != 4) = false := bne_eq_false_iff_eq.mpr c28
                  clear c28
                  by_cases c29 : x6_2 < 65536
                  · rw [if_pos c29] at H
                    have c29b0 : decide (x6_2 < 65536) = true := decide_eq_true c29
                    clear c29
                    simp only [Option.some.injEq, Prod.mk.injEq] at H
                    obtain ⟨rfl, rfl⟩ := H
                    go_wp2
                    go_ret2
                    exact ⟨by first | rfl | (simp; done) | (simp [*]; done), by repeat (first | exact Drawn0.refl _ | apply Drawn0.step)⟩
                  · rw [if_neg c29] at H
                    have c29b0 : decide (x6_2 < 65536) = false := decide_eq_false c29
                    clear c29
                    by_cases c30 : x6_2 > 1114111
                    · rw [if_pos c30] at H
                      have c30b0 : decide (1114111 < x6_2) = true := decide_eq_true c30
                      clear c30
                      simp only [Option.some.injEq, Prod.mk.injEq] at H
                      obtain ⟨rfl, rfl⟩ := H
                      go_wp2
                      go_ret2
                      exact ⟨by first | rfl | (simp; done) | (simp [*]; done), by repeat (first | exact Drawn0.refl _ | apply Drawn0.step)⟩
                    · rw [if_neg c30] at H
                      have c30b0 : decide (1114111 < x6_2) = false := decide_eq_false c30
                      clear c30
                      simp only [Option.some.injEq, Prod.mk.injEq] at H
                      obtain ⟨rfl, rfl⟩ := H
                      go_wp2
                      go_ret2
                      exact ⟨by first | rfl | (simp; done) | (simp [*]; done), by repeat (first | exact Drawn0.refl _ | apply Drawn0.step)⟩
                · rw [if_neg c28] at H
                  have c28b0 : (x5_2 == 4) = false := beq_eq_false_iff_ne.mpr c28
                  have c28b1 : (x5_2 != 4) = true := bne_iff_ne.mpr c28
                  simp only [Option.some.injEq, Prod.mk.injEq] at H
                  obtain ⟨rfl, rfl⟩ := H
                  go_wp2
                  go_ret2
                  exact ⟨by first | rfl | (simp; done) | (simp [*]; done), by repeat (first | exact Drawn0.refl _ | apply Drawn0.step)⟩
  · rw [if_neg c2] at H
    exact absurd H (by simp)
end Go.Proofs.YtmfihkgbfoapaaaDoor.K
namespace Go.Proofs.YtmfihkgbfoapaaaDoor.K
open Go.RowKit Go.Proofs.YtmfihkgbfoapaaaDoorW.PrintWords Go.Proofs.YtmfihkgbfoapaaaDoorW.PrintLast
set_option linter.unusedVariables false
set_option linter.unusedSimpArgs false
end Go.Proofs.YtmfihkgbfoapaaaDoor.K
