/- Own texts B3 of this claim, cut to what the claim uses. -/
import Derived.Test.YtmfihkgbfoapaaaDoorZA1
import Derived.Test.YtmfihkgbfoapaaaDoorZB1
namespace Go.Proofs.YtmfihkgbfoapaaaDoor
open Go Go.RowKit Go.Lib
theorem cell_alloc_old {w : World} {a : Addr} {v : Value} (h : w.cell? a = some v) (x : Obj) : (w.alloc x).cell? a = some v := by
  have hlt : a.block < w.heap.size := by
    unfold World.cell? at h
    split at h
    · rename_i hb; exact (Array.getElem?_eq_some_iff.1 hb).1
    · cases h
  unfold World.cell? at h ⊢
  rw [Below.heap_alloc w x a.block hlt]; exact h
def FullPost (w : World) (v : Bool) (e : Ending) (w' : World) : Prop := e = .returned (.bool v) ∧ Below w.heap.size w w'
set_option maxRecDepth 100000 in
set_option maxHeartbeats 1000000 in
theorem fullRune_big (n : Nat) (b o c : Nat) (x0 X : Int) (w : World) (hn : 0 < n) (hn4 : n ≤ 9223372036854775807) (hX : X % 8 ≤ n) (hX0 : 0 ≤ X) (hX1 : X < 256) (hx0 : 0 ≤ x0) (hx1 : x0 < 256)
    (h0 : w.cell? ⟨b, o, none⟩ = some (.int .u8 x0)) (hT : w.cell? ⟨2, x0.toNat, none⟩ = some (.int .u8 X)) :
    Calls Tryd.prog 89 #[.slice (some ⟨b, o, none⟩) n c] w (FullPost w true) := by
  have hn0 : (0 : Int) < (n : Int) := by omega
  have hn1 : ((n : Int) == 0) = false := by simp; omega
  go_enter Tryd.func89, Tryd.ntmps89
  go_wp2_with (fail)
  go_ret
  exact ⟨rfl, Below.refl _ _⟩
set_option maxRecDepth 100000 in
set_option maxHeartbeats 1000000 in
theorem fullRune_one (b o c : Nat) (x0 X lo hi : Int) (w : World) (hX : ¬ X % 8 ≤ 1) (hX0 : 0 ≤ X) (hX1 : X < 256) (hx0 : 0 ≤ x0) (hx1 : x0 < 256)
    (h0 : w.cell? ⟨b, o, none⟩ = some (.int .u8 x0)) (hT : w.cell? ⟨2, x0.toNat, none⟩ = some (.int .u8 X))
    (hl : w.cell? ⟨3, (X / 16).toNat * 2, none⟩ = some (.int .u8 lo)) (hh : w.cell? ⟨3, (X / 16).toNat * 2 + 1, none⟩ = some (.int .u8 hi)) :
    Calls Tryd.prog 89 #[.slice (some ⟨b, o, none⟩) 1 c] w (FullPost w false) := by
  have hX2 : (1 : Int) < X % 8 := by omega
  go_enter Tryd.func89, Tryd.ntmps89
  go_wp2_with (go_quiet (fail))
  go_ret
  exact ⟨rfl, ((Below.refl _ _).alloc (Nat.le_refl _) _).trans ⟨rfl, rfl, rfl, Nat.le_refl _, fun _ _ => rfl⟩⟩
set_option maxRecDepth 100000 in
set_option maxHeartbeats 1000000 in
theorem fullRune_2_lo (b o c : Nat) (x0 x1 X lo hi : Int) (w : World) (hX : ¬ X % 8 ≤ 2) (hX0 : 0 ≤ X) (hX1 : X < 256) (hx0 : 0 ≤ x0) (hx1 : x0 < 256) (hlo : x1 < lo)
    (h0 : w.cell? ⟨b, o, none⟩ = some (.int .u8 x0)) (h1 : w.cell? ⟨b, o + 1, none⟩ = some (.int .u8 x1)) (hT : w.cell? ⟨2, x0.toNat, none⟩ = some (.int .u8 X))
    (hl : w.cell? ⟨3, (X / 16).toNat * 2, none⟩ = some (.int .u8 lo)) (hh : w.cell? ⟨3, (X / 16).toNat * 2 + 1, none⟩ = some (.int .u8 hi)) :
    Calls Tryd.prog 89 #[.slice (some ⟨b, o, none⟩) 2 c] w (FullPost w true) := by
  have hX2 : (2 : Int) < X % 8 := by omega
  have h1a := cell_alloc_old h1
  have e1 : decide (x1 < lo) = true := by simpa using hlo
  go_enter Tryd.func89, Tryd.ntmps89
  go_wp2_with (go_quiet (fail))
  go_ret
  exact ⟨rfl, ((Below.refl _ _).alloc (Nat.le_refl _) _).trans ⟨rfl, rfl, rfl, Nat.le_refl _, fun _ _ => rfl⟩⟩
set_option maxRecDepth 100000 in
set_option maxHeartbeats 1000000 in
theorem fullRune_2_hi (b o c : Nat) (x0 x1 X lo hi : Int) (w : World) (hX : ¬ X % 8 ≤ 2) (hX0 : 0 ≤ X) (hX1 : X < 256) (hx0 : 0 ≤ x0) (hx1 : x0 < 256) (hlo : ¬ x1 < lo) (hhi : hi < x1)
    (h0 : w.cell? ⟨b, o, none⟩ = some (.int .u8 x0)) (h1 : w.cell? ⟨b, o + 1, none⟩ = some (.int .u8 x1)) (hT : w.cell? ⟨2, x0.toNat, none⟩ = some (.int .u8 X))
    (hl : w.cell? ⟨3, (X / 16).toNat * 2, none⟩ = some (.int .u8 lo)) (hh : w.cell? ⟨3, (X / 16).toNat * 2 + 1, none⟩ = some (.int .u8 hi)) :
    Calls Tryd.prog 89 #[.slice (some ⟨b, o, none⟩) 2 c] w (FullPost w true) := by
  have hX2 : (2 : Int) < X % 8 := by omega
  have h1a := cell_alloc_old h1
  have e1 : decide (x1 < lo) = false := by simpa using hlo
  have e2 : decide (hi < x1) = true := by simpa using hhi
  go_enter Tryd.func89, Tryd.ntmps89
  go_wp2_with (go_quiet (fail))
  go_ret
  exact ⟨rfl, ((Below.refl _ _).alloc (Nat.le_refl _) _).trans ⟨rfl, rfl, rfl, Nat.le_refl _, fun _ _ => rfl⟩⟩
set_option maxRecDepth 100000 in
set_option maxHeartbeats 1000000 in
theorem fullRune_3_lo (b o c : Nat) (x0 x1 x2 X lo hi : Int) (w : World) (hX : ¬ X % 8 ≤ 3) (hX0 : 0 ≤ X) (hX1 : X < 256) (hx0 : 0 ≤ x0) (hx1 : x0 < 256) (hlo : x1 < lo)
    (h0 : w.cell? ⟨b, o, none⟩ = some (.int .u8 x0)) (h1 : w.cell? ⟨b, o + 1, none⟩ = some (.int .u8 x1)) (h2 : w.cell? ⟨b, o + 2, none⟩ = some (.int .u8 x2)) (hT : w.cell? ⟨2, x0.toNat, none⟩ = some (.int .u8 X))
    (hl : w.cell? ⟨3, (X / 16).toNat * 2, none⟩ = some (.int .u8 lo)) (hh : w.cell? ⟨3, (X / 16).toNat * 2 + 1, none⟩ = some (.int .u8 hi)) :
    Calls Tryd.prog 89 #[.slice (some ⟨b, o, none⟩) 3 c] w (FullPost w true) := by
  have hX2 : (3 : Int) < X % 8 := by omega
  have h1a := cell_alloc_old h1
  have h2a := cell_alloc_old h2
  have e1 : decide (x1 < lo) = true := by simpa using hlo
  go_enter Tryd.func89, Tryd.ntmps89
  go_wp2_with (go_quiet (fail))
  go_ret
  exact ⟨rfl, ((Below.refl _ _).alloc (Nat.le_refl _) _).trans ⟨rfl, rfl, rfl, Nat.le_refl _, fun _ _ => rfl⟩⟩
set_option maxRecDepth 100000 in
set_option maxHeartbeats 1000000 in
theorem fullRune_3_hi (b o c : Nat) (x0 x1 x2 X lo hi : Int) (w : World) (hX : ¬ X % 8 ≤ 3) (hX0 : 0 ≤ X) (hX1 : X < 256) (hx0 : 0 ≤ x0) (hx1 : x0 < 256) (hlo : ¬ x1 < lo) (hhi : hi < x1)
    (h0 : w.cell? ⟨b, o, none⟩ = some (.int .u8 x0)) (h1 : w.cell? ⟨b, o + 1, none⟩ = some (.int .u8 x1)) (h2 : w.cell? ⟨b, o + 2, none⟩ = some (.int .u8 x2)) (hT : w.cell? ⟨2, x0.toNat, none⟩ = some (.int .u8 X))
    (hl : w.cell? ⟨3, (X / 16).toNat * 2, none⟩ = some (.int .u8 lo)) (hh : w.cell? ⟨3, (X / 16).toNat * 2 + 1, none⟩ = some (.int .u8 hi)) :
    Calls Tryd.prog 89 #[.slice (some ⟨b, o, none⟩) 3 c] w (FullPost w true) := by
  have hX2 : (3 : Int) < X % 8 := by omega
  have h1a := cell_alloc_old h1
  have h2a := cell_alloc_old h2
  have e1 : decide (x1 < lo) = false := by simpa using hlo
  have e2 : decide (hi < x1) = true := by simpa using hhi
  go_enter Tryd.func89, Tryd.ntmps89
  go_wp2_with (go_quiet (fail))
  go_ret
  exact ⟨rfl, ((Below.refl _ _).alloc (Nat.le_refl _) _).trans ⟨rfl, rfl, rfl, Nat.le_refl _, fun _ _ => rfl⟩⟩
set_option maxRecDepth 100000 in
set_option maxHeartbeats 1000000 in
theorem fullRune_2_no (b o c : Nat) (x0 x1 X lo hi : Int) (w : World) (hX : ¬ X % 8 ≤ 2) (hX0 : 0 ≤ X) (hX1 : X < 256) (hx0 : 0 ≤ x0) (hx1 : x0 < 256) (hlo : ¬ x1 < lo) (hhi : ¬ hi < x1)
    (h0 : w.cell? ⟨b, o, none⟩ = some (.int .u8 x0)) (h1 : w.cell? ⟨b, o + 1, none⟩ = some (.int .u8 x1)) (hT : w.cell? ⟨2, x0.toNat, none⟩ = some (.int .u8 X))
    (hl : w.cell? ⟨3, (X / 16).toNat * 2, none⟩ = some (.int .u8 lo)) (hh : w.cell? ⟨3, (X / 16).toNat * 2 + 1, none⟩ = some (.int .u8 hi)) :
    Calls Tryd.prog 89 #[.slice (some ⟨b, o, none⟩) 2 c] w (FullPost w false) := by
  have hX2 : (2 : Int) < X % 8 := by omega
  have h1a := cell_alloc_old h1
  have e1 : decide (x1 < lo) = false := by simpa using hlo
  have e2 : decide (hi < x1) = false := by simpa using hhi
  go_enter Tryd.func89, Tryd.ntmps89
  go_wp2_with (go_quiet (fail))
  go_ret
  exact ⟨rfl, ((Below.refl _ _).alloc (Nat.le_refl _) _).trans ⟨rfl, rfl, rfl, Nat.le_refl _, fun _ _ => rfl⟩⟩
set_option maxRecDepth 100000 in
set_option maxHeartbeats 1000000 in
theorem fullRune_3_b2lo (b o c : Nat) (x0 x1 x2 X lo hi : Int) (w : World) (hX : ¬ X % 8 ≤ 3) (hX0 : 0 ≤ X) (hX1 : X < 256) (hx0 : 0 ≤ x0) (hx1 : x0 < 256) (hlo : ¬ x1 < lo) (hhi : ¬ hi < x1) (hb2 : x2 < 128)
    (h0 : w.cell? ⟨b, o, none⟩ = some (.int .u8 x0)) (h1 : w.cell? ⟨b, o + 1, none⟩ = some (.int .u8 x1)) (h2 : w.cell? ⟨b, o + 2, none⟩ = some (.int .u8 x2)) (hT : w.cell? ⟨2, x0.toNat, none⟩ = some (.int .u8 X))
    (hl : w.cell? ⟨3, (X / 16).toNat * 2, none⟩ = some (.int .u8 lo)) (hh : w.cell? ⟨3, (X / 16).toNat * 2 + 1, none⟩ = some (.int .u8 hi)) :
    Calls Tryd.prog 89 #[.slice (some ⟨b, o, none⟩) 3 c] w (FullPost w true) := by
  have hX2 : (3 : Int) < X % 8 := by omega
  have h1a := cell_alloc_old h1
  have h2a := cell_alloc_old h2
  have e1 : decide (x1 < lo) = false := by simpa using hlo
  have e2 : decide (hi < x1) = false := by simpa using hhi
  have e3 : decide (x2 < 128) = true := by simpa using hb2
  go_enter Tryd.func89, Tryd.ntmps89
  go_wp2_with (go_quiet (fail))
  go_ret
  exact ⟨rfl, ((Below.refl _ _).alloc (Nat.le_refl _) _).trans ⟨rfl, rfl, rfl, Nat.le_refl _, fun _ _ => rfl⟩⟩
set_option maxRecDepth 100000 in
set_option maxHeartbeats 1000000 in
theorem fullRune_3_b2hi (b o c : Nat) (x0 x1 x2 X lo hi : Int) (w : World) (hX : ¬ X % 8 ≤ 3) (hX0 : 0 ≤ X) (hX1 : X < 256) (hx0 : 0 ≤ x0) (hx1 : x0 < 256) (hlo : ¬ x1 < lo) (hhi : ¬ hi < x1) (hb2 : ¬ x2 < 128) (hb3 : 191 < x2)
    (h0 : w.cell? ⟨b, o, none⟩ = some (.int .u8 x0)) (h1 : w.cell? ⟨b, o + 1, none⟩ = some (.int .u8 x1)) (h2 : w.cell? ⟨b, o + 2, none⟩ = some (.int .u8 x2)) (hT : w.cell? ⟨2, x0.toNat, none⟩ = some (.int .u8 X))
    (hl : w.cell? ⟨3, (X / 16).toNat * 2, none⟩ = some (.int .u8 lo)) (hh : w.cell? ⟨3, (X / 16).toNat * 2 + 1, none⟩ = some (.int .u8 hi)) :
    Calls Tryd.prog 89 #[.slice (some ⟨b, o, none⟩) 3 c] w (FullPost w true) := by
  have hX2 : (3 : Int) < X % 8 := by omega
  have h1a := cell_alloc_old h1
  have h2a := cell_alloc_old h2
  have e1 : decide (x1 < lo) = false := by simpa using hlo
  have e2 : decide (hi < x1) = false := by simpa using hhi
  have e3 : decide (x2 < 128) = false := by simpa using hb2
  have e4 : decide (191 < x2) = true := by simpa using hb3
  go_enter Tryd.func89, Tryd.ntmps89
  go_wp2_with (go_quiet (fail))
  go_ret
  exact ⟨rfl, ((Below.refl _ _).alloc (Nat.le_refl _) _).trans ⟨rfl, rfl, rfl, Nat.le_refl _, fun _ _ => rfl⟩⟩
set_option maxRecDepth 100000 in
set_option maxHeartbeats 1000000 in
theorem fullRune_3_no (b o c : Nat) (x0 x1 x2 X lo hi : Int) (w : World) (hX : ¬ X % 8 ≤ 3) (hX0 : 0 ≤ X) (hX1 : X < 256) (hx0 : 0 ≤ x0) (hx1 : x0 < 256) (hlo : ¬ x1 < lo) (hhi : ¬ hi < x1) (hb2 : ¬ x2 < 128) (hb3 : ¬ 191 < x2)
    (h0 : w.cell? ⟨b, o, none⟩ = some (.int .u8 x0)) (h1 : w.cell? ⟨b, o + 1, none⟩ = some (.int .u8 x1)) (h2 : w.cell? ⟨b, o + 2, none⟩ = some (.int .u8 x2)) (hT : w.cell? ⟨2, x0.toNat, none⟩ = some (.int .u8 X))
    (hl : w.cell? ⟨3, (X / 16).toNat * 2, none⟩ = some (.int .u8 lo)) (hh : w.cell? ⟨3, (X / 16).toNat * 2 + 1, none⟩ = some (.int .u8 hi)) :
    Calls Tryd.prog 89 #[.slice (some ⟨b, o, none⟩) 3 c] w (FullPost w false) := by
  have hX2 : (3 : Int) < X % 8 := by omega
  have h1a := cell_alloc_old h1
  have h2a := cell_alloc_old h2
  have e1 : decide (x1 < lo) = false := by simpa using hlo
  have e2 : decide (hi < x1) = false := by simpa using hhi
  have e3 : decide (x2 < 128) = false := by simpa using hb2
  have e4 : decide (191 < x2) = false := by simpa using hb3
  go_enter Tryd.func89, Tryd.ntmps89
  go_wp2_with (go_quiet (fail))
  go_ret
  exact ⟨rfl, ((Below.refl _ _).alloc (Nat.le_refl _) _).trans ⟨rfl, rfl, rfl, Nat.le_refl _, fun _ _ => rfl⟩⟩
set_option maxRecDepth 100000 in
set_option maxHeartbeats 1000000 in
theorem fullRune_zero (a : Option Addr) (c : Nat) (w : World) : Calls Tryd.prog 89 #[.slice a 0 c] w (FullPost w false) := by
  go_enter Tryd.func89, Tryd.ntmps89
  go_wp2_with (fail)
  go_ret
  exact ⟨rfl, Below.refl _ _⟩
theorem firstT_mod (x : Nat) : firstT x % 8 ≤ 4 ∧ firstT x < 256 := by
  rcases firstT_cases x with h | h | h | h | h | h | h | h | h <;> rw [h] <;> omega
theorem fullRune_spec (p : List UInt8) (b o c : Nat) (w : World) (hT : Utf8Tabs 2 3 w) (hlen : p.length ≤ 9223372036854775807)
    (hp : ∀ j, j < p.length → w.cell? ⟨b, o + j, none⟩ = some (.int .u8 ((gb p j : Nat) : Int))) :
    Calls Tryd.prog 89 #[.slice (some ⟨b, o, none⟩) p.length c] w (FullPost w (full p)) := by
  by_cases h0 : p.length = 0
  · have hf : full p = false := by simp [full, h0]
    rw [hf, h0]; exact fullRune_zero _ _ _
  · have hc0 := hp 0 (by omega)
    rw [Nat.add_zero] at hc0
    have hx := gb_lt p 0
    obtain ⟨hm, hx256⟩ := firstT_mod (gb p 0)
    have hX := hT.1 (gb p 0) hx
    have hX' : w.cell? ⟨2, ((gb p 0 : Nat) : Int).toNat, none⟩ = some (.int .u8 ((firstT (gb p 0) : Nat) : Int)) := by rw [Int.toNat_natCast]; exact hX
    obtain ⟨hl, hh⟩ := hT.2 (firstT (gb p 0) / 16) (by omega)
    have e2 : (((firstT (gb p 0) : Nat) : Int) / 16).toNat * 2 = 2 * (firstT (gb p 0) / 16) := by omega
    rw [← e2] at hl hh
    by_cases hbig : firstT (gb p 0) % 8 ≤ p.length
    · have hf : full p = true := by simp [full, hbig]; omega
      rw [hf]
      exact fullRune_big p.length b o c _ _ w (by omega) hlen (by omega) (by omega) (by omega) (by omega) (by omega) hc0 hX'
    · have hcase : p.length = 1 ∨ p.length = 2 ∨ p.length = 3 := by omega
      have h1 : 1 < p.length → w.cell? ⟨b, o + 1, none⟩ = some (.int .u8 ((gb p 1 : Nat) : Int)) := fun h => hp 1 h
      have h2 : 2 < p.length → w.cell? ⟨b, o + 2, none⟩ = some (.int .u8 ((gb p 2 : Nat) : Int)) := fun h => hp 2 h
      have hf : full p = (((decide (1 < p.length) && (decide (gb p 1 < accLo (firstT (gb p 0) / 16)) || decide (accHi (firstT (gb p 0) / 16) < gb p 1)))) || (decide (2 < p.length) && (decide (gb p 2 < 128) || decide (191 < gb p 2)))) := by
        simp only [full, hbig, decide_false, Bool.false_or, show 0 < p.length by omega, decide_true, Bool.true_and]
      rw [hf]
      rcases hcase with e | e | e
      · rw [e]
        exact fullRune_one b o c _ _ _ _ w (by omega) (by omega) (by omega) (by omega) (by omega) hc0 hX' hl hh
      · rw [e]
        have h1 := h1 (by omega)
        by_cases ha : gb p 1 < accLo (firstT (gb p 0) / 16)
        · simp only [ha, decide_true, Bool.true_or, Bool.and_true, show (1 < 2) by omega]
          exact fullRune_2_lo b o c _ _ _ _ _ w (by omega) (by omega) (by omega) (by omega) (by omega) (by omega) hc0 h1 hX' hl hh
        · by_cases hb : accHi (firstT (gb p 0) / 16) < gb p 1
          · simp only [ha, hb, decide_true, Bool.or_true, Bool.and_true, show (1 < 2) by omega, Bool.true_or]
            exact fullRune_2_hi b o c _ _ _ _ _ w (by omega) (by omega) (by omega) (by omega) (by omega) (by omega) (by omega) hc0 h1 hX' hl hh
          · simp only [ha, hb, decide_false, Bool.or_false, Bool.and_false, Bool.false_and, Nat.lt_irrefl]
            exact fullRune_2_no b o c _ _ _ _ _ w (by omega) (by omega) (by omega) (by omega) (by omega) (by omega) (by omega) hc0 h1 hX' hl hh
      · rw [e]
        have h1 := h1 (by omega)
        have h2 := h2 (by omega)
        by_cases ha : gb p 1 < accLo (firstT (gb p 0) / 16)
        · simp only [ha, decide_true, Bool.true_or, Bool.and_true, show (1 < 3) by omega]
          exact fullRune_3_lo b o c _ _ _ _ _ _ w (by omega) (by omega) (by omega) (by omega) (by omega) (by omega) hc0 h1 h2 hX' hl hh
        · by_cases hb : accHi (firstT (gb p 0) / 16) < gb p 1
          · simp only [ha, hb, decide_true, Bool.or_true, Bool.and_true, show (1 < 3) by omega, Bool.true_or]
            exact fullRune_3_hi b o c _ _ _ _ _ _ w (by omega) (by omega) (by omega) (by omega) (by omega) (by omega) (by omega) hc0 h1 h2 hX' hl hh
          · by_cases hc : gb p 2 < 128
            · simp only [ha, hb, hc, decide_true, decide_false, Bool.or_false, Bool.and_false, Bool.false_or, Bool.true_or, Bool.and_true, show (2 < 3) by omega]
              exact fullRune_3_b2lo b o c _ _ _ _ _ _ w (by omega) (by omega) (by omega) (by omega) (by omega) (by omega) (by omega) (by omega) hc0 h1 h2 hX' hl hh
            · by_cases hd : 191 < gb p 2
              · simp only [ha, hb, hc, hd, decide_true, decide_false, Bool.or_false, Bool.and_false, Bool.false_or, Bool.and_true, show (2 < 3) by omega]
                exact fullRune_3_b2hi b o c _ _ _ _ _ _ w (by omega) (by omega) (by omega) (by omega) (by omega) (by omega) (by omega) (by omega) (by omega) hc0 h1 h2 hX' hl hh
              · simp only [ha, hb, hc, hd, decide_false, Bool.or_false, Bool.and_false]
                exact fullRune_3_no b o c _ _ _ _ _ _ w (by omega) (by omega) (by omega) (by omega) (by omega) (by omega) (by omega) (by omega) (by omega) hc0 h1 h2 hX' hl hh
end Go.Proofs.YtmfihkgbfoapaaaDoor
