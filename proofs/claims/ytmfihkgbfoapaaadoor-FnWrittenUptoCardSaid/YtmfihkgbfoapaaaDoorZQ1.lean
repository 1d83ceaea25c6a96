/- Own texts Q1 Q2 Q3 of this claim, cut to what the claim uses. -/
import Derived.Test.YtmfihkgbfoapaaaDoorZX1
namespace Go.Proofs.YtmfihkgbfoapaaaDoor
set_option linter.unusedVariables false
set_option linter.unusedSimpArgs false
open Go Go.RowKit Go.Lib Go.BigFrame Go.Proofs.YtmfihkgbfoapaaaDoorW.PrintWords
theorem txt_same {s1 s2 : List UInt8} {l l2 : List Item} (h1 : l <:+ items s1) (h2 : l <:+ items s2) (h : l2 <:+ l) : txt s1 (offOf s1 l) l2 = txt s2 (offOf s2 l) l2 := by
  obtain ⟨t, rfl⟩ := h
  obtain ⟨p1, h1⟩ := h1
  obtain ⟨p2, h2⟩ := h2
  rw [txt_bytes h1.symm, txt_bytes h2.symm]
theorem num_src {s1 s2 : List UInt8} {l l2 : List Item} (h1 : l <:+ items s1) (h2 : l <:+ items s2) (hl : l2 <:+ l) (fl dot : Bool) : numRun s1 (offOf s1 l) fl dot l2 = numRun s2 (offOf s2 l) fl dot l2 := by
  have h := (numRun_suffix s1 (offOf s1 l) fl dot l2).trans hl
  unfold numRun at h ⊢
  rw [(Num.sep_l _ _ _).1] at h
  unfold Num.sep
  rw [txt_same h1 h2 h]
theorem oneAt_src {C : Cfg} {s1 s2 : List UInt8} {l : List Item} (h1 : l <:+ items s1) (h2 : l <:+ items s2) : oneAt C s1 l = oneAt C s2 l := by
  unfold oneAt oneNum oneDot
  rw [num_src h1 h2 (List.suffix_refl l), num_src h1 h2 (List.tail_suffix l)]
theorem scanGo_src {C : Cfg} {s1 s2 : List UInt8} {l : List Item} (h1 : l <:+ items s1) (h2 : l <:+ items s2) : scanGo C s1 l = scanGo C s2 l := by
  induction hn : l.length using Nat.strongRecOn generalizing l with
  | _ n ih =>
    subst hn
    have hs := more_suffix (isWh C.white) l
    have e := oneAt_src (C := C) (hs.trans h1) (hs.trans h2)
    cases hr : (oneAt C s1 (more (isWh C.white) l)).redo with
    | true =>
      have hlt := (oneAt_redo hr).1
      have hsf := (oneAt_suffix C s1 (more (isWh C.white) l)).trans hs
      have hr2 : (oneAt C s2 (more (isWh C.white) l)).redo = true := by rw [← e]; exact hr
      rw [scanGo_redo (C := C) (src := s1) (l := l) hr, scanGo_redo (C := C) (src := s2) (l := l) hr2, ← e, ih _ (by have := more_le (isWh C.white) l; omega) (hsf.trans h1) (hsf.trans h2) rfl]
    | false =>
      have hr2 : (oneAt C s2 (more (isWh C.white) l)).redo = false := by rw [← e]; exact hr
      rw [scanGo_stop hr, scanGo_stop hr2, e]
end Go.Proofs.YtmfihkgbfoapaaaDoor
namespace Go.Proofs.YtmfihkgbfoapaaaDoor
set_option linter.unusedVariables false
set_option linter.unusedSimpArgs false
open Go Go.RowKit Go.Lib Go.BigFrame Go.Proofs.YtmfihkgbfoapaaaDoorW.PrintWords
def nlI : Item := ⟨10, [10]⟩
def jn (m l : List Item) : List Item := l ++ nlI :: m
theorem jn_nil (m : List Item) : jn m [] = nlI :: m := rfl
theorem jn_cons (m : List Item) (c : Item) (l : List Item) : jn m (c :: l) = c :: jn m l := rfl
theorem jn_ch0 (m : List Item) : chOf (jn m []) = 10 := rfl
theorem jn_ch (m : List Item) {l : List Item} (h : l ≠ []) : chOf (jn m l) = chOf l := by
  cases l with
  | nil => exact absurd rfl h
  | cons c l => rfl
theorem jn_tail (m : List Item) {l : List Item} (h : l ≠ []) : (jn m l).tail = jn m l.tail := by
  cases l with
  | nil => exact absurd rfl h
  | cons c l => rfl
theorem jn_is (m : List Item) {l : List Item} {k : Int} (h1 : k ≠ 10) (h2 : k ≠ -1) : chOf (jn m l) = k ↔ chOf l = k := by
  cases l with
  | nil => exact ⟨fun h => absurd h.symm h1, fun h => absurd h.symm h2⟩
  | cons c l => exact Iff.rfl
theorem low_nl : lowerOf 10 = 42 := by kernel_rfl
theorem low_end : lowerOf (-1) = -1 := by kernel_rfl
theorem jn_low (m : List Item) {l : List Item} {k : Int} (h1 : k ≠ 42) (h2 : k ≠ -1) : lowerOf (chOf (jn m l)) = k ↔ lowerOf (chOf l) = k := by
  cases l with
  | nil => exact ⟨fun h => absurd (h.symm.trans low_nl) h1, fun h => absurd (h.symm.trans low_end) h2⟩
  | cons c l => exact Iff.rfl
theorem jn_p (m : List Item) {p : Int → Bool} (h1 : p 10 = false) (h2 : p (-1) = false) (l : List Item) : p (chOf (jn m l)) = p (chOf l) := by
  cases l with
  | nil => exact h1.trans h2.symm
  | cons c l => rfl
theorem low_ne {l : List Item} {k : Int} (h : lowerOf (chOf l) = k) (hk : k ≠ -1) : l ≠ [] := by
  rintro rfl
  exact hk (h.symm.trans low_end)
theorem ch_ne {l : List Item} {k : Int} (h : chOf l = k) (hk : k ≠ -1) : l ≠ [] := by
  rintro rfl
  exact hk h.symm
theorem jn_more (m : List Item) {p : Int → Bool} (h : p 10 = false) : ∀ l : List Item, more p (jn m l) = jn m (more p l)
  | [] => by rw [jn_nil]; exact more_stop (l := nlI :: m) h
  | c :: l => by
    rw [jn_cons]
    by_cases hc : p c.r = true
    · unfold more
      rw [List.dropWhile_cons_of_pos (by exact hc), List.dropWhile_cons_of_pos (by exact hc)]
      exact jn_more m h l
    · unfold more
      rw [List.dropWhile_cons_of_neg (by exact hc), List.dropWhile_cons_of_neg (by exact hc)]; rfl
theorem jn_digs (m : List Item) {p : Int → Bool} (h : p 10 = false) (b : Int) : ∀ (l : List Item) (inv : Int) (d u : Bool),
    digs p b (jn m l) inv d u = (jn m (digs p b l inv d u).1, (digs p b l inv d u).2.1, (digs p b l inv d u).2.2.1, (digs p b l inv d u).2.2.2)
  | [], inv, d, u => by
    rw [digs_stop (by rw [jn_ch0]; decide) (by rw [jn_ch0]; exact h)]
    unfold digs; rfl
  | c :: l, inv, d, u => by
    rw [jn_cons]
    unfold digs
    by_cases h95 : (c.r : Int) = 95
    · rw [if_pos h95, if_pos h95]; exact jn_digs m h b l _ _ _
    · rw [if_neg h95, if_neg h95]
      by_cases hp : p c.r = true
      · rw [if_pos hp, if_pos hp]; exact jn_digs m h b l _ _ _
      · rw [if_neg hp, if_neg hp]; rfl
theorem jn_dg (m : List Item) (b : Int) (l : List Item) (inv : Int) : dg b (jn m l) inv = (jn m (dg b l inv).1, (dg b l inv).2.1, (dg b l inv).2.2.1, (dg b l inv).2.2.2) := by
  unfold dg
  split
  · exact jn_digs m (by kernel_rfl) _ _ _ _ _
  · exact jn_digs m (by decide) _ _ _ _ _
def Num.jn (m : List Item) (n : Num) : Num := { n with l := Go.Proofs.YtmfihkgbfoapaaaDoor.jn m n.l }
theorem Num.jn_pre (m : List Item) (n : Num) : (n.jn m).pre = n.pre.jn m := by
  obtain ⟨l, b, pr, d, u, inv, tok, dot, k⟩ := n
  unfold Num.pre Num.jn
  simp only
  by_cases h : chOf l = 48
  · have hne := ch_ne h (by decide)
    rw [if_pos h, if_pos ((jn_is m (by decide) (by decide)).2 h), jn_tail m hne]
    by_cases h1 : lowerOf (chOf l.tail) = 120
    · rw [if_pos h1, if_pos ((jn_low m (by decide) (by decide)).2 h1), jn_tail m (low_ne h1 (by decide))]
    · rw [if_neg h1, if_neg (fun h => h1 ((jn_low m (by decide) (by decide)).1 h))]
      by_cases h2 : lowerOf (chOf l.tail) = 111
      · rw [if_pos h2, if_pos ((jn_low m (by decide) (by decide)).2 h2), jn_tail m (low_ne h2 (by decide))]
      · rw [if_neg h2, if_neg (fun h => h2 ((jn_low m (by decide) (by decide)).1 h))]
        by_cases h3 : lowerOf (chOf l.tail) = 98
        · rw [if_pos h3, if_pos ((jn_low m (by decide) (by decide)).2 h3), jn_tail m (low_ne h3 (by decide))]
        · rw [if_neg h3, if_neg (fun h => h3 ((jn_low m (by decide) (by decide)).1 h))]
  · rw [if_neg h, if_neg (fun h1 => h ((jn_is m (by decide) (by decide)).1 h1))]
theorem Num.jn_dig (m : List Item) (n : Num) : (n.jn m).dig = n.dig.jn m := by
  obtain ⟨l, b, pr, d, u, inv, tok, dot, k⟩ := n
  unfold Num.dig Num.jn
  simp only
  rw [jn_dg]
theorem Num.jn_point (m : List Item) (fl : Bool) (n : Num) : (n.jn m).point fl = (n.point fl).jn m := by
  obtain ⟨l, b, pr, d, u, inv, tok, dot, k⟩ := n
  unfold Num.point Num.jn
  simp only
  by_cases h : chOf l = 46 ∧ fl = true
  · rw [if_pos h, if_pos ⟨(jn_is m (by decide) (by decide)).2 h.1, h.2⟩, jn_tail m (ch_ne h.1 (by decide))]
  · rw [if_neg h, if_neg (fun h1 => h ⟨(jn_is m (by decide) (by decide)).1 h1.1, h1.2⟩)]
theorem Num.jn_whole (m : List Item) (fl : Bool) (n : Num) : (n.jn m).whole fl = (n.whole fl).jn m := by
  unfold Num.whole
  by_cases h : n.dot = true
  · rw [if_pos h, if_pos (show (n.jn m).dot = true from h)]
  · rw [if_neg h, if_neg (show ¬ (n.jn m).dot = true from h)]
    have e : ({ n.jn m with tok := -3 } : Num) = ({ n with tok := -3 } : Num).jn m := rfl
    rw [e, Num.jn_pre, Num.jn_dig, Num.jn_point]
theorem Num.jn_frac (m : List Item) (n : Num) : (n.jn m).frac = n.frac.jn m := by
  unfold Num.frac
  by_cases h : n.dot = true
  · rw [if_pos h, if_pos (show (n.jn m).dot = true from h)]
    exact Num.jn_dig m { n with tok := -4, k := n.k + (if n.pr = 111 ∨ n.pr = 98 then 1 else 0) }
  · rw [if_neg h, if_neg (show ¬ (n.jn m).dot = true from h)]
theorem Num.jn_none (m : List Item) (n : Num) : (n.jn m).none = n.none.jn m := by
  unfold Num.none
  by_cases h : n.d = true
  · rw [if_pos h, if_pos (show (n.jn m).d = true from h)]
  · rw [if_neg h, if_neg (show ¬ (n.jn m).d = true from h)]; rfl
theorem Num.jn_sign (m : List Item) (n : Num) : (n.jn m).sign = n.sign.jn m := by
  obtain ⟨l, b, pr, d, u, inv, tok, dot, k⟩ := n
  unfold Num.sign Num.jn
  simp only
  by_cases h : chOf l = 43 ∨ chOf l = 45
  · have hne : l ≠ [] := by rcases h with h | h <;> exact ch_ne h (by decide)
    rw [if_pos h, if_pos (by rw [jn_is m (by decide) (by decide), jn_is m (by decide) (by decide)]; exact h), jn_tail m hne]
  · rw [if_neg h, if_neg (by rw [jn_is m (by decide) (by decide), jn_is m (by decide) (by decide)]; exact h)]
theorem Num.jn_expDig (m : List Item) (n : Num) : (n.jn m).expDig = n.expDig.jn m := by
  obtain ⟨l, b, pr, d, u, inv, tok, dot, k⟩ := n
  unfold Num.expDig Num.jn
  simp only
  rw [jn_dg]
theorem Num.jn_exp (m : List Item) (fl : Bool) (n : Num) : (n.jn m).exp fl = (n.exp fl).jn m := by
  have e1 : lowerOf (chOf (n.jn m).l) = 101 ↔ lowerOf (chOf n.l) = 101 := jn_low m (by decide) (by decide)
  have e2 : lowerOf (chOf (n.jn m).l) = 112 ↔ lowerOf (chOf n.l) = 112 := jn_low m (by decide) (by decide)
  unfold Num.exp
  by_cases h : (lowerOf (chOf n.l) = 101 ∨ lowerOf (chOf n.l) = 112) ∧ fl = true
  · have hne : n.l ≠ [] := by rcases h.1 with h | h <;> exact low_ne h (by decide)
    rw [if_pos h, if_pos (by rw [e1, e2]; exact h)]
    simp only [e1, e2]
    rw [show (n.jn m).l.tail = Go.Proofs.YtmfihkgbfoapaaaDoor.jn m n.l.tail from jn_tail m hne]
    have := Num.jn_sign m ({ n with l := n.l.tail, tok := -4, k := n.k + (if (lowerOf (chOf n.l) = 101 ∧ n.pr ≠ 0 ∧ n.pr ≠ 48) ∨ (lowerOf (chOf n.l) = 112 ∧ n.pr ≠ 120) then 1 else 0) } : Num)
    rw [← Num.jn_expDig, ← this]; rfl
  · rw [if_neg h, if_neg (by rw [e1, e2]; exact h)]
    by_cases h2 : n.pr = 120 ∧ n.tok = -4
    · rw [if_pos h2, if_pos (show (n.jn m).pr = 120 ∧ (n.jn m).tok = -4 from h2)]; rfl
    · rw [if_neg h2, if_neg (show ¬ ((n.jn m).pr = 120 ∧ (n.jn m).tok = -4) from h2)]
theorem Num.jn_bad (m : List Item) (n : Num) : (n.jn m).bad = n.bad.jn m := by
  unfold Num.bad
  by_cases h : n.tok = -3 ∧ n.inv ≠ 0
  · rw [if_pos h, if_pos (show (n.jn m).tok = -3 ∧ (n.jn m).inv ≠ 0 from h)]; rfl
  · rw [if_neg h, if_neg (show ¬ ((n.jn m).tok = -3 ∧ (n.jn m).inv ≠ 0) from h)]
theorem jn_txt {s1 s2 : List UInt8} {m l l2 : List Item} (h1 : l <:+ items s1) (h2 : jn m l <:+ items s2) (h : l2 <:+ l) : txt s2 (offOf s2 (jn m l)) (jn m l2) = txt s1 (offOf s1 l) l2 := by
  obtain ⟨t, rfl⟩ := h
  obtain ⟨p1, h1⟩ := h1
  obtain ⟨p2, h2⟩ := h2
  have e : jn m (t ++ l2) = t ++ jn m l2 := List.append_assoc _ _ _
  rw [e] at h2 ⊢
  rw [txt_bytes h1.symm, txt_bytes h2.symm]
theorem jn_num {s1 s2 : List UInt8} {m l l2 : List Item} (h1 : l <:+ items s1) (h2 : jn m l <:+ items s2) (hl : l2 <:+ l) (fl dot : Bool) : numRun s2 (offOf s2 (jn m l)) fl dot (jn m l2) = (numRun s1 (offOf s1 l) fl dot l2).jn m := by
  have h := (numRun_suffix s1 (offOf s1 l) fl dot l2).trans hl
  unfold numRun at h ⊢
  rw [(Num.sep_l _ _ _).1] at h
  have e : (⟨jn m l2, 10, 0, false, false, 0, 0, dot, 0⟩ : Num) = (⟨l2, 10, 0, false, false, 0, 0, dot, 0⟩ : Num).jn m := rfl
  rw [e, Num.jn_whole, Num.jn_frac, Num.jn_none, Num.jn_exp, Num.jn_bad]
  generalize ((((Num.whole fl ⟨l2, 10, 0, false, false, 0, 0, dot, 0⟩).frac).none).exp fl).bad = n at h ⊢
  unfold Num.sep
  rw [show txt s2 (offOf s2 (jn m l)) (n.jn m).l = txt s1 (offOf s1 l) n.l from jn_txt h1 h2 h]
  by_cases hu : n.u = true ∧ sepBad (txt s1 (offOf s1 l) n.l) = true
  · rw [if_pos hu, if_pos (show (n.jn m).u = true ∧ _ from hu)]; rfl
  · rw [if_neg hu, if_neg (show ¬ ((n.jn m).u = true ∧ _) from hu)]
theorem dig_nl : digVal 10 = 16 := by kernel_rfl
theorem dig_end : digVal (-1) = 16 := by kernel_rfl
theorem jn_digRun (m : List Item) {b : Int} (hb : b ≤ 16) : ∀ (n : Nat) (l : List Item), digRun b n (jn m l) = (jn m (digRun b n l).1, (digRun b n l).2)
  | 0, l => rfl
  | n + 1, l => by
    unfold digRun
    cases l with
    | nil =>
      rw [if_neg (by rw [jn_ch0, dig_nl]; omega), if_neg (by rw [chOf_nil, dig_end]; omega)]
    | cons c l =>
      have e : chOf (jn m (c :: l)) = chOf (c :: l) := rfl
      rw [e]
      split
      · exact jn_digRun m hb n l
      · rfl
theorem jn_escRun (m : List Item) {q : Int} (hq : q ≠ 10 ∧ q ≠ -1) {l : List Item} (h : l ≠ []) : escRun q (jn m l) = (jn m (escRun q l).1, (escRun q l).2) := by
  unfold escRun
  simp only
  rw [jn_tail m h]
  cases hl : l.tail with
  | nil =>
    rw [jn_ch0, chOf_nil]
    obtain ⟨h1, h2⟩ := hq
    rw [if_neg (by omega), if_neg (by omega), if_neg (by omega), if_neg (by omega), if_neg (by omega), if_neg (by omega), if_neg (by omega), if_neg (by omega), if_neg (by omega), if_neg (by omega)]
  | cons c t =>
    have e : chOf (jn m (c :: t)) = chOf (c :: t) := rfl
    have et : (jn m (c :: t)).tail = jn m t := rfl
    rw [e, et]
    simp only [List.tail_cons]
    repeat' split
    all_goals first
      | rfl
      | exact jn_digRun m (by decide) _ _
      | exact jn_digRun m (by decide) _ (c :: t)
theorem jn_strRun (m : List Item) {q : Int} (hq : q ≠ 10 ∧ q ≠ -1) (l : List Item) (h0 : (strRun q l).2.2 = 0) : strRun q (jn m l) = (jn m (strRun q l).1, (strRun q l).2.1, 0) ∧ chOf (strRun q l).1 = q := by
  induction hn : l.length using Nat.strongRecOn generalizing l with
  | _ n ih =>
    subst hn
    by_cases h : chOf l = q
    · rw [strRun_stop h, strRun_stop ((jn_is m hq.1 hq.2).2 h)]
      exact ⟨rfl, h⟩
    · by_cases h1 : chOf l = 10 ∨ chOf l < 0
      · rw [strRun_bad h h1] at h0; exact absurd (show (1 : Nat) = 0 from h0) (by decide)
      · have hne : l ≠ [] := ne_nil_of_ch (by omega)
        have hj : chOf (jn m l) = chOf l := jn_ch m hne
        by_cases h2 : chOf l = 92
        · rw [strRun_esc h h2] at h0 ⊢
          simp only at h0
          have hlt := escRun_lt q l hne
          obtain ⟨i1, i2⟩ := ih _ hlt (escRun q l).1 (by omega) rfl
          have e2 : (escRun q l).2 = 0 := by omega
          rw [strRun_esc (by rw [hj]; exact h) (by rw [hj]; exact h2), jn_escRun m hq hne, i1, e2]
          exact ⟨rfl, i2⟩
        · have h3 := strRun_step h (by omega) (by omega) h2
          rw [h3] at h0 ⊢
          obtain ⟨i1, i2⟩ := ih _ (tail_lt hne) l.tail h0 rfl
          rw [strRun_step (by rw [hj]; exact h) (by rw [hj]; omega) (by rw [hj]; omega) (by rw [hj]; exact h2), jn_tail m hne, i1]
          exact ⟨rfl, i2⟩
theorem jn_comRun (m : List Item) : ∀ l : List Item, (comRun l).2 = 0 → comRun (jn m l) = (jn m (comRun l).1, 0)
  | [], h => by unfold comRun at h; exact absurd h (by decide)
  | c :: l, h => by
    rw [jn_cons]
    unfold comRun at h ⊢
    by_cases h1 : (c.r : Int) = 42 ∧ chOf l = 47
    · rw [if_pos h1, if_pos ⟨h1.1, (jn_is m (by decide) (by decide)).2 h1.2⟩, jn_tail m (ch_ne h1.2 (by decide))]
    · rw [if_neg h1] at h ⊢
      rw [if_neg (fun h2 => h1 ⟨h2.1, (jn_is m (by decide) (by decide)).1 h2.2⟩)]
      exact jn_comRun m l h
theorem jn_lineRun (m : List Item) (l : List Item) : lineRun (jn m l) = jn m (lineRun l) :=
  jn_more m (p := fun c => decide (c ≠ 10)) (by decide) l
theorem jn_comment (m : List Item) {l : List Item} (hne : l ≠ []) (h : (comment l).2 = 0) : comment (jn m l) = (jn m (comment l).1, 0) := by
  unfold comment at h ⊢
  rw [jn_ch m hne, jn_tail m hne]
  by_cases h1 : chOf l = 47
  · rw [if_pos h1, if_pos h1, jn_lineRun]
  · rw [if_neg h1] at h
    rw [if_neg h1, if_neg h1, jn_comRun m _ h]
theorem jn_rawRun (m : List Item) : ∀ l : List Item, rawRun l ≠ [] → rawRun (jn m l) = jn m (rawRun l)
  | [], h => absurd rfl h
  | c :: l, h => by
    by_cases hc : chOf (c :: l) = 96
    · rw [rawRun_stop hc, rawRun_stop ((jn_is m (by decide) (by decide)).2 hc)]
    · rw [rawRun_step hc] at h ⊢
      rw [rawRun_step (l := jn m (c :: l)) hc]
      exact jn_rawRun m l h
def One.jn (m : List Item) (o : One) : One := { o with l := Go.Proofs.YtmfihkgbfoapaaaDoor.jn m o.l }
theorem jn_oneAt {C : Cfg} (h10 : C.I.p1 10 = false) {s1 s2 : List UInt8} {m l : List Item} (h1 : l <:+ items s1) (h2 : jn m l <:+ items s2) (hne : l ≠ []) (hk : (oneAt C s1 l).k = 0) : oneAt C s2 (jn m l) = (oneAt C s1 l).jn m := by
  have hself : One.self (jn m l) = (One.self l).jn m := by
    unfold One.self One.jn
    simp only
    rw [jn_ch m hne, jn_tail m hne]
  have ht := jn_tail m hne
  unfold oneAt at hk ⊢
  rw [jn_ch m hne]
  by_cases c0 : C.I.p0 (chOf l) = true
  · rw [if_pos c0, if_pos c0]
    unfold oneId
    split
    · rw [ht, jn_more m h10]; rfl
    · exact hself
  rw [if_neg c0, if_neg c0]
  rw [if_neg c0] at hk
  by_cases c1 : isDec (chOf l) = true
  · rw [if_pos c1, if_pos c1]
    unfold oneNum
    split
    · rw [jn_num h1 h2 (List.suffix_refl l)]; rfl
    · exact hself
  rw [if_neg c1, if_neg c1]
  rw [if_neg c1] at hk
  by_cases c2 : chOf l = -1
  · exfalso
    cases l with
    | nil => exact hne rfl
    | cons c l => have : (c.r : Int) = -1 := c2; omega
  rw [if_neg c2, if_neg c2]
  rw [if_neg c2] at hk
  by_cases c3 : chOf l = 34
  · rw [if_pos c3, if_pos c3]
    rw [if_pos c3] at hk
    unfold oneStr at hk ⊢
    split
    · rename_i hb
      rw [if_pos hb] at hk
      obtain ⟨e1, e2⟩ := jn_strRun m (q := 34) ⟨by decide, by decide⟩ l.tail hk
      rw [ht, e1, jn_tail m (ch_ne e2 (by decide))]
      unfold One.jn
      simp only
      rw [show (strRun 34 l.tail).2.2 = 0 from hk]
    · exact hself
  rw [if_neg c3, if_neg c3]
  rw [if_neg c3] at hk
  by_cases c4 : chOf l = 39
  · rw [if_pos c4, if_pos c4]
    rw [if_pos c4] at hk
    unfold oneChr at hk ⊢
    split
    · rename_i hb
      rw [if_pos hb] at hk
      simp only at hk
      have hk1 : (strRun 39 l.tail).2.2 = 0 := by omega
      obtain ⟨e1, e2⟩ := jn_strRun m (q := 39) ⟨by decide, by decide⟩ l.tail hk1
      rw [ht, e1, jn_tail m (ch_ne e2 (by decide))]
      unfold One.jn
      simp only
      rw [hk1]
    · exact hself
  rw [if_neg c4, if_neg c4]
  rw [if_neg c4] at hk
  by_cases c5 : chOf l = 46
  · rw [if_pos c5, if_pos c5]
    unfold oneDot
    rw [ht, jn_p m (p := isDec) (by decide) (by decide)]
    split
    · rw [jn_num h1 h2 (List.tail_suffix l)]; rfl
    · exact hself
  rw [if_neg c5, if_neg c5]
  rw [if_neg c5] at hk
  by_cases c6 : chOf l = 47
  · rw [if_pos c6, if_pos c6]
    rw [if_pos c6] at hk
    unfold oneCom at hk ⊢
    rw [ht]
    have e47 : chOf (jn m l.tail) = 47 ↔ chOf l.tail = 47 := jn_is m (by decide) (by decide)
    have e42 : chOf (jn m l.tail) = 42 ↔ chOf l.tail = 42 := jn_is m (by decide) (by decide)
    simp only [e47, e42]
    split
    · rename_i hb
      rw [if_pos hb] at hk
      have hne2 : l.tail ≠ [] := by rcases hb.1 with h | h <;> exact ch_ne h (by decide)
      rw [jn_comment m hne2 hk]
      unfold One.jn
      simp only
      rw [show (comment l.tail).2 = 0 from hk]
    · exact hself
  rw [if_neg c6, if_neg c6]
  rw [if_neg c6] at hk
  by_cases c7 : chOf l = 96
  · rw [if_pos c7, if_pos c7]
    rw [if_pos c7] at hk
    unfold oneRaw at hk ⊢
    split
    · rename_i hb
      rw [if_pos hb] at hk
      have hne2 : rawRun l.tail ≠ [] := by
        intro e
        have hk' : rawErr (rawRun l.tail) = 0 := hk
        rw [e] at hk'
        exact absurd hk' (by decide)
      rw [ht, jn_rawRun m _ hne2, jn_tail m hne2]
      unfold One.jn
      simp only
      have e1 : rawErr (rawRun l.tail) = 0 := hk
      rw [e1]
      unfold rawErr
      rw [if_neg]
      unfold jn
      simp
    · exact hself
  rw [if_neg c7, if_neg c7]
  exact hself
def Got.jn (m : List Item) (g : Got) : Got := { g with at_ := Go.Proofs.YtmfihkgbfoapaaaDoor.jn m g.at_, l := Go.Proofs.YtmfihkgbfoapaaaDoor.jn m g.l }
theorem jn_white (m : List Item) {p : Int → Bool} (h : p 10 = true) : ∀ l : List Item, more p (jn m l) = if more p l = [] then more p m else jn m (more p l)
  | [] => by
    rw [if_pos (show more p [] = [] from rfl)]
    unfold more
    rw [jn_nil, List.dropWhile_cons_of_pos (by exact h)]
  | c :: l => by
    rw [jn_cons]
    by_cases hc : p c.r = true
    · have e1 : more p (c :: jn m l) = more p (jn m l) := by unfold more; rw [List.dropWhile_cons_of_pos (by exact hc)]
      have e2 : more p (c :: l) = more p l := by unfold more; rw [List.dropWhile_cons_of_pos (by exact hc)]
      rw [e1, e2]
      exact jn_white m h l
    · have e1 : more p (c :: jn m l) = c :: jn m l := by unfold more; rw [List.dropWhile_cons_of_neg (by exact hc)]
      have e2 : more p (c :: l) = c :: l := by unfold more; rw [List.dropWhile_cons_of_neg (by exact hc)]
      rw [e1, e2, if_neg (by simp)]; rfl
theorem jn_scanGo {C : Cfg} (h10 : C.I.p1 10 = false) (hw : isWh C.white 10 = true) {s1 s2 : List UInt8} {m l : List Item} (h1 : l <:+ items s1) (h2 : jn m l <:+ items s2) (hk : (scanGo C s1 l).k = 0) :
    scanGo C s2 (jn m l) = if (scanGo C s1 l).tok = -1 then scanGo C s2 m else (scanGo C s1 l).jn m := by
  induction hn : l.length using Nat.strongRecOn generalizing l with
  | _ n ih =>
    subst hn
    have hs := more_suffix (isWh C.white) l
    have hj := jn_white m hw l
    by_cases he : more (isWh C.white) l = []
    · rw [if_pos he] at hj
      have e1 : (oneAt C s1 (more (isWh C.white) l)).redo = false := by rw [he, one_end]
      rw [scanGo_stop e1, he, one_end]
      simp only [if_true]
      exact scanGo_eq hj
    · rw [if_neg he] at hj
      have h2' : jn m (more (isWh C.white) l) <:+ items s2 := by
        obtain ⟨t, ht⟩ := hs
        refine List.IsSuffix.trans ⟨t, ?_⟩ h2
        unfold jn
        rw [← List.append_assoc, ht]
      cases hr : (oneAt C s1 (more (isWh C.white) l)).redo with
      | true =>
        rw [scanGo_redo hr] at hk ⊢
        simp only at hk ⊢
        have hk1 : (oneAt C s1 (more (isWh C.white) l)).k = 0 := by omega
        have hk2 : (scanGo C s1 (oneAt C s1 (more (isWh C.white) l)).l).k = 0 := by omega
        have e := jn_oneAt h10 (hs.trans h1) h2' he hk1
        have hlt := (oneAt_redo hr).1
        have hsf := oneAt_suffix C s1 (more (isWh C.white) l)
        have h3 : jn m (oneAt C s1 (more (isWh C.white) l)).l <:+ items s2 := by
          obtain ⟨t, ht⟩ := hsf
          refine List.IsSuffix.trans ⟨t, ?_⟩ h2'
          unfold jn
          rw [← List.append_assoc, ht]
        have hr2 : (oneAt C s2 (more (isWh C.white) (jn m l))).redo = true := by rw [hj, e]; exact hr
        have i1 := ih _ (by have := more_le (isWh C.white) l; omega) (hsf.trans (hs.trans h1)) h3 hk2 rfl
        rw [scanGo_redo hr2, hj, e]
        simp only [One.jn]
        rw [i1, hk1, Nat.zero_add, Nat.zero_add]
      | false =>
        rw [scanGo_stop hr] at hk ⊢
        simp only at hk ⊢
        have e := jn_oneAt h10 (hs.trans h1) h2' he hk
        have hr2 : (oneAt C s2 (more (isWh C.white) (jn m l))).redo = false := by rw [hj, e]; exact hr
        have hnt : (oneAt C s1 (more (isWh C.white) l)).tok ≠ -1 := by
          rcases oneAt_lt C s1 (more (isWh C.white) l) with h | h
          · exact absurd h.2.1 he
          · exact h.1
        rw [scanGo_stop hr2, hj, e, if_neg hnt]
        rfl
end Go.Proofs.YtmfihkgbfoapaaaDoor
namespace Go.Proofs.YtmfihkgbfoapaaaDoor
set_option linter.unusedVariables false
set_option linter.unusedSimpArgs false
open Go Go.RowKit Go.Lib Go.BigFrame Go.Proofs.YtmfihkgbfoapaaaDoorW.PrintWords
theorem errs_zero {l : List Got} : errsOf l = 0 ↔ ∀ g ∈ l, g.k = 0 := by
  induction l with
  | nil => exact ⟨(fun _ g hg => by cases hg), fun _ => rfl⟩
  | cons a l ih =>
    unfold errsOf at ih ⊢
    rw [List.map_cons, List.sum_cons]
    constructor
    · intro h g hg
      rcases List.mem_cons.1 hg with rfl | hg
      · omega
      · exact ih.1 (by omega) g hg
    · intro h
      have h1 := h a List.mem_cons_self
      have h2 := ih.2 fun g hg => h g (List.mem_cons_of_mem _ hg)
      omega
def Shift1 (a : List UInt8) (t w : K.S37) : Prop :=
  t.f0 = w.f0 ∧ t.f1 = w.f1 ∧ t.f3 = ⟨w.f3.f0 + (a.length : Nat) + 1, w.f3.f1 + (lineAt a [] : Nat), w.f3.f2⟩ ∧ (t.f0 = -1 ∨ t.f2 = ⟨w.f2.f0 + (a.length : Nat) + 1, w.f2.f1 + (lineAt a [] : Nat), w.f2.f2⟩)
structure JoinOk (a : List UInt8) (la lb lj : List K.S37) : Prop where
  pa : 0 < la.length
  pb : 0 < lb.length
  len : lj.length + 1 = la.length + lb.length
  last : (K.rd_T37 la ((la.length - 1 : Nat) : Int)).f3.f0 = (a.length : Nat) ∧ (K.rd_T37 la ((la.length - 1 : Nat) : Int)).f3.f1 = (lineAt a [] : Nat)
  left : ∀ i : Nat, i + 1 < la.length → K.rd_T37 lj (i : Int) = K.rd_T37 la (i : Int)
  right : ∀ i : Nat, i < lb.length → Shift1 a (K.rd_T37 lj ((la.length - 1 + i : Nat) : Int)) (K.rd_T37 lb (i : Int))
end Go.Proofs.YtmfihkgbfoapaaaDoor
