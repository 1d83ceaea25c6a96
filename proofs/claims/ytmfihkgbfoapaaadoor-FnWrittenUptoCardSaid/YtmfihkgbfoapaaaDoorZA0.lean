/- Own texts A0 of this claim, cut to what the claim uses. -/
import Derived.Lib.DecodeNEq
namespace Go.Proofs.YtmfihkgbfoapaaaDoor
open Go Go.Lib
def gb (l : List UInt8) (i : Nat) : Nat := (l.getD i 0).toNat
theorem gb_lt (l : List UInt8) (i : Nat) : gb l i < 256 := (l.getD i 0).toNat_lt
theorem gb_append_left {p q : List UInt8} {i : Nat} (h : i < p.length) : gb (p ++ q) i = gb p i := by
  simp [gb, List.getD_eq_getElem?_getD, List.getElem?_append_left h]
theorem gb_get {l : List UInt8} {i : Nat} (h : i < l.length) : gb l i = l[i].toNat := by
  simp [gb, List.getD_eq_getElem?_getD, h]
theorem gb_drop (l : List UInt8) (k i : Nat) : gb (l.drop k) i = gb l (k + i) := by
  simp [gb, List.getD_eq_getElem?_getD]
def hd (l : List UInt8) : Nat × Nat := decodeN l.length (gb l 0) (gb l 1) (gb l 2) (gb l 3)
theorem decodeN_width (n b0 b1 b2 b3 : Nat) : 1 ≤ (decodeN n b0 b1 b2 b3).2 ∧ (decodeN n b0 b1 b2 b3).2 ≤ 4 ∧ (1 ≤ n → (decodeN n b0 b1 b2 b3).2 ≤ n) := by
  unfold decodeN
  repeat' split
  all_goals simp only
  all_goals omega
theorem decodeN_rune (n b0 b1 b2 b3 : Nat) : (decodeN n b0 b1 b2 b3).1 ≤ 1114111 := by
  unfold decodeN
  repeat' split
  all_goals simp only
  all_goals omega
theorem hd_pos (l : List UInt8) : 1 ≤ (hd l).2 := (decodeN_width _ _ _ _ _).1
theorem hd_le4 (l : List UInt8) : (hd l).2 ≤ 4 := (decodeN_width _ _ _ _ _).2.1
theorem hd_le {l : List UInt8} (h : 0 < l.length) : (hd l).2 ≤ l.length := (decodeN_width _ _ _ _ _).2.2 h
theorem hd_rune (l : List UInt8) : (hd l).1 ≤ 1114111 := decodeN_rune _ _ _ _ _
structure Item where
  r : Nat
  bs : List UInt8
def Item.n (c : Item) : Nat := c.bs.length
def Item.bad (c : Item) : Bool := c.r == 65533 && c.bs.length == 1
def hdItem (l : List UInt8) : Item := ⟨(hd l).1, l.take (hd l).2⟩
def items : List UInt8 → List Item
  | [] => []
  | b :: t => hdItem (b :: t) :: items ((b :: t).drop (hd (b :: t)).2)
termination_by l => l.length
decreasing_by
  simp only [List.length_drop, List.length_cons]
  have := hd_pos (b :: t)
  omega
theorem items_nil : items [] = [] := by unfold items; rfl
theorem items_cons {l : List UInt8} (h : 0 < l.length) : items l = hdItem l :: items (l.drop (hd l).2) := by
  cases l with
  | nil => simp at h
  | cons b t => rw [items]
theorem hdItem_n {l : List UInt8} (h : 0 < l.length) : (hdItem l).n = (hd l).2 := by
  unfold hdItem Item.n
  have := hd_le h
  simp only [List.length_take]; omega
def bytesOf (l : List Item) : List UInt8 := l.flatMap (·.bs)
theorem bytesOf_nil : bytesOf [] = [] := rfl
theorem bytesOf_cons (c : Item) (l : List Item) : bytesOf (c :: l) = c.bs ++ bytesOf l := by simp [bytesOf]
theorem bytesOf_append (a b : List Item) : bytesOf (a ++ b) = bytesOf a ++ bytesOf b := by simp [bytesOf]
theorem bytesOf_items (l : List UInt8) : bytesOf (items l) = l := by
  induction hn : l.length using Nat.strongRecOn generalizing l with
  | _ n ih =>
    by_cases h : 0 < l.length
    · rw [items_cons h, bytesOf_cons]
      have h1 := hd_pos l
      rw [ih (l.drop (hd l).2).length (by rw [List.length_drop]; omega) _ rfl]
      exact List.take_append_drop _ _
    · have : l = [] := List.eq_nil_of_length_eq_zero (by omega)
      subst this; rw [items_nil]; rfl
def full (l : List UInt8) : Bool :=
  decide (0 < l.length) && (decide (firstT (gb l 0) % 8 ≤ l.length) ||
    (decide (1 < l.length) && (decide (gb l 1 < accLo (firstT (gb l 0) / 16)) || decide (accHi (firstT (gb l 0) / 16) < gb l 1))) ||
    (decide (2 < l.length) && (decide (gb l 2 < 128) || decide (191 < gb l 2))))
theorem decodeN_of4 {n m b0 b1 b2 b3 : Nat} (hn : 4 ≤ n) (hm : 4 ≤ m) : decodeN n b0 b1 b2 b3 = decodeN m b0 b1 b2 b3 := by
  unfold decodeN
  simp only [show 1 < n by omega, show 2 < n by omega, show 3 < n by omega, show 1 < m by omega, show 2 < m by omega, show 3 < m by omega]
theorem firstT_three (b : Nat) : firstT b = 240 ∨ firstT b = 241 ∨ firstT b < 240 := by
  unfold firstT
  repeat' split
  all_goals omega
theorem slow_short {n m b0 b1 b2 b3 c1 c2 c3 sz lo hi : Nat} (hn : 0 < n) (hm : n ≤ m) (hn4 : n < 4) (hsz : 2 ≤ sz ∧ sz ≤ 4) (g1 : 1 < n → c1 = b1) (g2 : 2 < n → c2 = b2)
    (h : (sz ≤ n ∨ (1 < n ∧ (b1 < lo ∨ hi < b1))) ∨ (2 < n ∧ (b2 < 128 ∨ 191 < b2))) : slowN m b0 c1 c2 c3 sz lo hi = slowN n b0 b1 b2 b3 sz lo hi := by
  have hcase : n = 1 ∨ n = 2 ∨ n = 3 := by omega
  unfold slowN
  rcases hcase with rfl | rfl | rfl
  · omega
  · rw [g1 (by omega)]
    repeat' split
    all_goals first | rfl | omega
  · rw [g1 (by omega), g2 (by omega)]
    repeat' split
    all_goals first | rfl | omega
theorem hd_prefix {p q : List UInt8} (hp : 0 < p.length) (h : 4 ≤ p.length ∨ full p = true ∨ q = []) : hd (p ++ q) = hd p := by
  rcases h with h | h | h
  · unfold hd
    rw [gb_append_left (by omega), gb_append_left (by omega), gb_append_left (by omega), gb_append_left (by omega)]
    exact decodeN_of4 (by simp; omega) h
  · by_cases h4 : 4 ≤ p.length
    · unfold hd
      rw [gb_append_left (by omega), gb_append_left (by omega), gb_append_left (by omega), gb_append_left (by omega)]
      exact decodeN_of4 (by simp; omega) h4
    · unfold hd
      rw [gb_append_left (show 0 < p.length by omega)]
      have hb := gb_lt p 0
      rcases firstT_three (gb p 0) with hx | hx | hx
      · rw [ascii_eq _ _ _ _ _ hx, ascii_eq _ _ _ _ _ hx]
      · rw [bad_eq _ _ _ _ _ hb hx, bad_eq _ _ _ _ _ hb hx]
      · have hlen : (p ++ q).length = p.length + q.length := List.length_append
        rw [← slow_eq _ _ _ _ _ (by omega) (gb_lt _ _) (gb_lt _ _) (gb_lt _ _) hx, ← slow_eq _ _ _ _ _ (by omega) (gb_lt _ _) (gb_lt _ _) (gb_lt _ _) hx]
        simp only [full, Bool.and_eq_true, Bool.or_eq_true, decide_eq_true_eq] at h
        obtain ⟨_, h⟩ := h
        have g1 : 1 < p.length → gb (p ++ q) 1 = gb p 1 := fun h => gb_append_left h
        have g2 : 2 < p.length → gb (p ++ q) 2 = gb p 2 := fun h => gb_append_left h
        have hsz : 2 ≤ firstT (gb p 0) % 8 ∧ firstT (gb p 0) % 8 ≤ 4 := by
          rcases firstT_low hx with h | h | h | h | h | h | h
          · rw [firstT_C2 h]; omega
          · rw [firstT_E0 h]; omega
          · rw [firstT_E1 h]; omega
          · rw [firstT_ED h]; omega
          · rw [firstT_F0 h]; omega
          · rw [firstT_F1 h]; omega
          · rw [firstT_F4 h]; omega
        exact slow_short hp (by omega) (by omega) hsz g1 g2 h
  · subst h; rw [List.append_nil]
end Go.Proofs.YtmfihkgbfoapaaaDoor
