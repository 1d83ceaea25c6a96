/- Own texts P0 of this claim, cut to what the claim uses. -/
import Derived.Test.YtmfihkgbfoapaaaDoorZN0
namespace Go.Proofs.YtmfihkgbfoapaaaDoor
open Go Go.RowKit Go.Lib
theorem digs_le (p : Int → Bool) (m : Int) : ∀ (l : List Item) (inv : Int) (d u : Bool), (digs p m l inv d u).1.length ≤ l.length
  | [], inv, d, u => by unfold digs; simp
  | c :: l, inv, d, u => by
    have ih := fun inv d u => digs_le p m l inv d u
    unfold digs
    repeat' split
    all_goals first
      | (simp only [List.length_cons]; have := ih inv d u; omega)
      | exact Nat.le_trans (ih _ _ _) (by simp only [List.length_cons]; omega)
      | exact Nat.le_refl _
theorem dg_le (b : Int) (l : List Item) (inv : Int) : (dg b l inv).1.length ≤ l.length := by
  unfold dg; split <;> exact digs_le _ _ _ _ _ _
theorem Num.pre_le (n : Num) : n.pre.l.length ≤ n.l.length := by
  unfold Num.pre
  repeat' split
  all_goals try simp only [List.length_tail]
  all_goals omega
theorem Num.dig_le (n : Num) : n.dig.l.length ≤ n.l.length := dg_le _ _ _
theorem Num.point_le (fl : Bool) (n : Num) : (n.point fl).l.length ≤ n.l.length := by
  unfold Num.point; split
  · simp only [List.length_tail]; omega
  · exact Nat.le_refl _
theorem Num.whole_le (fl : Bool) (n : Num) : (n.whole fl).l.length ≤ n.l.length := by
  unfold Num.whole; split
  · exact Nat.le_refl _
  · exact Nat.le_trans (Num.point_le _ _) (Nat.le_trans (Num.dig_le _) (Num.pre_le _))
theorem Num.frac_le (n : Num) : n.frac.l.length ≤ n.l.length := by
  unfold Num.frac; split
  · exact Num.dig_le _
  · exact Nat.le_refl _
theorem Num.none_l (n : Num) : n.none.l = n.l ∧ n.none.tok = n.tok := by unfold Num.none; split <;> exact ⟨rfl, rfl⟩
theorem Num.sign_le (n : Num) : n.sign.l.length ≤ n.l.length := by
  unfold Num.sign; split
  · simp only [List.length_tail]; omega
  · exact Nat.le_refl _
theorem Num.sign_tok (n : Num) : n.sign.tok = n.tok := by unfold Num.sign; split <;> rfl
theorem Num.exp_le (fl : Bool) (n : Num) : (n.exp fl).l.length ≤ n.l.length := by
  unfold Num.exp; split
  · unfold Num.expDig
    refine Nat.le_trans (dg_le _ _ _) (Nat.le_trans (Num.sign_le _) ?_)
    simp only [List.length_tail]; omega
  · split <;> exact Nat.le_refl _
theorem Num.bad_l (n : Num) : n.bad.l = n.l ∧ n.bad.tok = n.tok := by unfold Num.bad; split <;> exact ⟨rfl, rfl⟩
theorem Num.sep_l (src : List UInt8) (st : Nat) (n : Num) : (n.sep src st).l = n.l ∧ (n.sep src st).tok = n.tok := by unfold Num.sep; split <;> exact ⟨rfl, rfl⟩
theorem Num.exp_tok (fl : Bool) (n : Num) (h : n.tok = -3 ∨ n.tok = -4) : (n.exp fl).tok = -3 ∨ (n.exp fl).tok = -4 := by
  unfold Num.exp; split
  · right; unfold Num.expDig; show (Num.sign _).tok = _; rw [Num.sign_tok]
  · split <;> exact h
theorem numRun_parts (src : List UInt8) (st : Nat) (fl dot : Bool) (l : List Item) :
    (numRun src st fl dot l).l.length ≤ (Num.whole fl ⟨l, 10, 0, false, false, 0, 0, dot, 0⟩).l.length ∧ ((numRun src st fl dot l).tok = -3 ∨ (numRun src st fl dot l).tok = -4) := by
  unfold numRun
  generalize hn : Num.whole fl ⟨l, 10, 0, false, false, 0, 0, dot, 0⟩ = n1
  rw [(Num.sep_l _ _ _).1, (Num.sep_l _ _ _).2, (Num.bad_l _).1, (Num.bad_l _).2]
  refine ⟨Nat.le_trans (Num.exp_le _ _) (by rw [(Num.none_l _).1]; exact Num.frac_le _), Num.exp_tok _ _ ?_⟩
  rw [(Num.none_l _).2]
  unfold Num.frac
  by_cases hd : n1.dot = true
  · rw [if_pos hd]; right; rfl
  · rw [if_neg hd]
    left
    rw [← hn] at hd ⊢
    unfold Num.whole at hd ⊢
    by_cases h0 : dot = true
    · rw [if_pos h0] at hd; exact absurd h0 hd
    · rw [if_neg h0]
      unfold Num.point
      have key : ∀ m : Num, (Num.pre m).tok = m.tok := fun m => by unfold Num.pre; repeat' split
                                                                   all_goals rfl
      split
      · show (Num.pre _).tok = -3; rw [key]
      · show (Num.pre _).tok = -3; rw [key]
theorem numRun_le (src : List UInt8) (st : Nat) (fl dot : Bool) (l : List Item) : (numRun src st fl dot l).l.length ≤ l.length :=
  Nat.le_trans (numRun_parts src st fl dot l).1 (Num.whole_le _ _)
theorem numRun_lt (src : List UInt8) (st : Nat) (fl : Bool) (l : List Item) (h : isDec (chOf l) = true) : (numRun src st fl false l).l.length < l.length := by
  refine Nat.lt_of_le_of_lt (numRun_parts src st fl false l).1 ?_
  have hne : l ≠ [] := by
    rintro rfl; rw [chOf_nil] at h; exact absurd h (by decide)
  have ht := tail_lt hne
  unfold Num.whole
  rw [if_neg (fun h => by cases h)]
  refine Nat.lt_of_le_of_lt (Num.point_le _ _) ?_
  by_cases h48 : chOf l = 48
  · refine Nat.lt_of_le_of_lt (Num.dig_le _) ?_
    unfold Num.pre
    simp only [h48, if_true]
    repeat' split
    all_goals simp only [List.length_tail] at ht ⊢
    all_goals omega
  · have hp : Num.pre (⟨l, 10, 0, false, false, 0, -3, false, 0⟩ : Num) = ⟨l, 10, 0, false, false, 0, -3, false, 0⟩ := by unfold Num.pre; rw [if_neg h48]
    show (Num.pre (⟨l, 10, 0, false, false, 0, -3, false, 0⟩ : Num)).dig.l.length < _
    rw [hp]
    show (dg 10 l 0).1.length < _
    unfold dg
    rw [if_neg (by decide)]
    have h95 : chOf l ≠ 95 := by intro h95; rw [h95] at h; exact absurd h (by decide)
    have := (digs_dig (m := 48 + 10) (inv := 0) (d := false) (u := false) (show isDec (-1) = false by decide) h95 h).1
    rw [this]
    exact Nat.lt_of_le_of_lt (digs_le _ _ _ _ _ _) ht
theorem strRun_le (q : Int) (l : List Item) : (strRun q l).1.length ≤ l.length := by
  induction hn : l.length using Nat.strongRecOn generalizing l with
  | _ n ih =>
    subst hn
    by_cases h : chOf l = q
    · rw [strRun_stop h]; exact Nat.le_refl _
    · by_cases h1 : chOf l = 10 ∨ chOf l < 0
      · rw [strRun_bad h h1]; exact Nat.le_refl _
      · have hne : l ≠ [] := ne_nil_of_ch (by omega)
        by_cases h2 : chOf l = 92
        · rw [strRun_esc h h2]
          have := escRun_lt q l hne
          exact Nat.le_trans (ih _ this _ rfl) (Nat.le_of_lt this)
        · rw [strRun_step h (by omega) (by omega) h2]
          have := tail_lt hne
          exact Nat.le_trans (ih _ this _ rfl) (Nat.le_of_lt this)
theorem rawRun_le (l : List Item) : (rawRun l).length ≤ l.length := (List.dropWhile_sublist _).length_le
theorem oneAt_lt (C : Cfg) (src : List UInt8) (l : List Item) : ((oneAt C src l).tok = -1 ∧ l = [] ∧ (oneAt C src l).l = [] ∧ (oneAt C src l).redo = false) ∨
    ((oneAt C src l).tok ≠ -1 ∧ (oneAt C src l).l.length < l.length ∧ ((oneAt C src l).tok = chOf l ∨ (-8 ≤ (oneAt C src l).tok ∧ (oneAt C src l).tok ≤ -2))) := by
  by_cases hne : l = []
  · subst hne
    left
    unfold oneAt
    rw [chOf_nil, if_neg (by rw [C.I.e0]; decide), if_neg (by decide), if_pos rfl]
    exact ⟨rfl, rfl, rfl, rfl⟩
  · right
    have ht := tail_lt hne
    have h0 : 0 ≤ chOf l := by
      cases l with
      | nil => exact absurd rfl hne
      | cons c l => show (0 : Int) ≤ (c.r : Int); omega
    have self : (One.self l).tok ≠ -1 ∧ (One.self l).l.length < l.length ∧ ((One.self l).tok = chOf l ∨ (-8 ≤ (One.self l).tok ∧ (One.self l).tok ≤ -2)) := ⟨by show chOf l ≠ -1; omega, ht, .inl rfl⟩
    have tl : ∀ m : List Item, m.length ≤ l.tail.length → m.tail.length < l.length := fun m h => by simp only [List.length_tail] at *; omega
    unfold oneAt
    repeat' split
    · unfold oneId; split
      · exact ⟨by simp only; decide, Nat.lt_of_le_of_lt (more_le _ _) ht, .inr ⟨by simp only; decide, by simp only; decide⟩⟩
      · exact self
    · unfold oneNum; split
      · have h1 := (numRun_parts src (offOf src l) (hasBit C.mode 16) false l).2
        have h2 := numRun_lt src (offOf src l) (hasBit C.mode 16) l (by assumption)
        exact ⟨by show Num.tok _ ≠ -1; omega, h2, .inr (by show -8 ≤ Num.tok _ ∧ Num.tok _ ≤ -2; omega)⟩
      · exact self
    · omega
    · unfold oneStr; split
      · exact ⟨by simp only; decide, tl _ (strRun_le _ _), .inr ⟨by simp only; decide, by simp only; decide⟩⟩
      · exact self
    · unfold oneChr; split
      · exact ⟨by simp only; decide, tl _ (strRun_le _ _), .inr ⟨by simp only; decide, by simp only; decide⟩⟩
      · exact self
    · unfold oneDot; split
      · have h1 := (numRun_parts src (offOf src l) (hasBit C.mode 16) true l.tail).2
        have h2 := numRun_le src (offOf src l) (hasBit C.mode 16) true l.tail
        exact ⟨by show Num.tok _ ≠ -1; omega, Nat.lt_of_le_of_lt h2 ht, .inr (by show -8 ≤ Num.tok _ ∧ Num.tok _ ≤ -2; omega)⟩
      · exact self
    · unfold oneCom; split
      · exact ⟨by simp only; decide, Nat.lt_of_le_of_lt (Nat.le_trans (comment_le _) (by simp)) ht, .inr ⟨by simp only; decide, by simp only; decide⟩⟩
      · exact self
    · unfold oneRaw; split
      · exact ⟨by simp only; decide, tl _ (rawRun_le _), .inr ⟨by simp only; decide, by simp only; decide⟩⟩
      · exact self
    · exact self
theorem scanGo_lt (C : Cfg) (src : List UInt8) (l : List Item) : ((scanGo C src l).tok = -1 ∧ (scanGo C src l).l = []) ∨ ((scanGo C src l).tok ≠ -1 ∧ (scanGo C src l).l.length < l.length) := by
  induction hn : l.length using Nat.strongRecOn generalizing l with
  | _ n ih =>
    subst hn
    have hm := more_le (isWh C.white) l
    have h1 := oneAt_lt C src (more (isWh C.white) l)
    cases hr : (oneAt C src (more (isWh C.white) l)).redo with
    | true =>
      have h2 := (oneAt_redo hr).1
      rw [scanGo_redo hr]
      rcases ih _ (by omega) (oneAt C src (more (isWh C.white) l)).l rfl with h | h
      · exact .inl h
      · exact .inr ⟨h.1, by have := h.2; simp only; omega⟩
    | false =>
      rw [scanGo_stop hr]
      rcases h1 with h | h
      · exact .inl ⟨h.1, h.2.2.1⟩
      · exact .inr ⟨h.1, by have := h.2.1; simp only; omega⟩
theorem comRun_suffix : ∀ l : List Item, (comRun l).1 <:+ l
  | [] => by unfold comRun; exact List.suffix_refl _
  | c :: l => by
    unfold comRun
    split
    · exact ((List.tail_suffix l)).trans (List.suffix_cons c l)
    · exact (comRun_suffix l).trans (List.suffix_cons c l)
theorem comment_suffix (l : List Item) : (comment l).1 <:+ l := by
  unfold comment
  split
  · exact (List.dropWhile_suffix _).trans (List.tail_suffix l)
  · exact (comRun_suffix _).trans (List.tail_suffix l)
theorem more_suffix (p : Int → Bool) (l : List Item) : more p l <:+ l := List.dropWhile_suffix _
theorem scanGo_tok (C : Cfg) (src : List UInt8) (l : List Item) (h : ∀ c ∈ l, c.r ≤ 1114111) : -8 ≤ (scanGo C src l).tok ∧ (scanGo C src l).tok ≤ 1114111 := by
  induction hn : l.length using Nat.strongRecOn generalizing l with
  | _ n ih =>
    subst hn
    have hm := more_le (isWh C.white) l
    have hs := more_suffix (isWh C.white) l
    have h1 := oneAt_lt C src (more (isWh C.white) l)
    cases hr : (oneAt C src (more (isWh C.white) l)).redo with
    | true =>
      obtain ⟨h2, h3, h4, h5, -⟩ := oneAt_redo hr
      rw [scanGo_redo hr]
      refine ih _ (by omega) (oneAt C src (more (isWh C.white) l)).l (fun c hc => h c (hs.subset ?_)) rfl
      rw [h3] at hc
      unfold oneCom at hc
      rw [if_pos ⟨h4, h5⟩] at hc
      exact ((comment_suffix _).trans (List.tail_suffix _)).subset hc
    | false =>
      rw [scanGo_stop hr]
      show -8 ≤ (oneAt C src (more (isWh C.white) l)).tok ∧ (oneAt C src (more (isWh C.white) l)).tok ≤ 1114111
      rcases h1 with h1 | h1
      · rw [h1.1]; decide
      · rcases h1.2.2 with h2 | h2
        · rw [h2]
          cases hl : more (isWh C.white) l with
          | nil => rw [chOf_nil]; decide
          | cons c l' =>
            have := h c (hs.subset (by rw [hl]; exact List.mem_cons_self))
            show -8 ≤ (c.r : Int) ∧ (c.r : Int) ≤ 1114111
            omega
        · omega
end Go.Proofs.YtmfihkgbfoapaaaDoor
