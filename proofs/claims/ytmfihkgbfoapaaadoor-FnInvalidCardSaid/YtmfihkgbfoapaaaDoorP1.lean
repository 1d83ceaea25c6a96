/- How many errors there can be; a bad character or a NUL is an error. -/
import Derived.Test.YtmfihkgbfoapaaaDoorE10
namespace Go.Proofs.YtmfihkgbfoapaaaDoor
set_option linter.unusedVariables false
set_option linter.unusedSimpArgs false
open Go Go.RowKit Go.Lib

theorem digRun_k (b : Int) : ∀ n l, (digRun b n l).2 ≤ 1
  | 0, l => by unfold digRun; exact Nat.zero_le _
  | n + 1, l => by
    unfold digRun
    split
    · exact digRun_k b n l.tail
    · exact Nat.le_refl _
theorem escRun_k (q : Int) (l : List Item) : (escRun q l).2 ≤ 1 := by
  unfold escRun
  simp only
  repeat' split
  all_goals first
    | exact digRun_k _ _ _
    | exact Nat.zero_le _
    | exact Nat.le_refl _
theorem strRun_k (q : Int) (l : List Item) : (strRun q l).2.2 + (strRun q l).1.length ≤ l.length + 1 := by
  induction hn : l.length using Nat.strongRecOn generalizing l with
  | _ n ih =>
    subst hn
    by_cases h : chOf l = q
    · rw [strRun_stop h]; simp
    · by_cases h1 : chOf l = 10 ∨ chOf l < 0
      · rw [strRun_bad h h1]; simp only; omega
      · have hne : l ≠ [] := ne_nil_of_ch (by omega)
        by_cases h2 : chOf l = 92
        · rw [strRun_esc h h2]
          have h3 := escRun_lt q l hne
          have h4 := escRun_k q l
          have := ih _ h3 _ rfl
          simp only; omega
        · rw [strRun_step h (by omega) (by omega) h2]
          have h3 := tail_lt hne
          have := ih _ h3 _ rfl
          simp only; omega
theorem comRun_k : ∀ l : List Item, (comRun l).2 ≤ 1
  | [] => by unfold comRun; simp
  | c :: l => by
    unfold comRun
    split
    · simp
    · exact comRun_k l
theorem comment_k (l : List Item) : (comment l).2 ≤ 1 := by
  unfold comment; split
  · exact Nat.zero_le _
  · exact comRun_k _
theorem chrErr_k (n : Nat) : chrErr n ≤ 1 := by unfold chrErr; split <;> omega
theorem rawErr_k (l : List Item) : rawErr l ≤ 1 := by unfold rawErr; split <;> omega
theorem Num.pre_k (n : Num) : n.pre.k = n.k := by unfold Num.pre; repeat' split
                                                  all_goals rfl
theorem Num.point_k (fl : Bool) (n : Num) : (n.point fl).k = n.k := by unfold Num.point; split <;> rfl
theorem Num.whole_k (fl : Bool) (n : Num) : (n.whole fl).k = n.k := by
  unfold Num.whole; split
  · rfl
  · rw [Num.point_k]; exact Num.pre_k _
theorem Num.frac_k (n : Num) : n.frac.k ≤ n.k + 1 := by
  unfold Num.frac; split
  · show n.k + _ ≤ _; split <;> omega
  · omega
theorem Num.none_k (n : Num) : n.none.k ≤ n.k + 1 := by unfold Num.none; split <;> (try simp only) <;> omega
theorem Num.sign_k (n : Num) : n.sign.k = n.k := by unfold Num.sign; split <;> rfl
theorem Num.exp_k (fl : Bool) (n : Num) : (n.exp fl).k ≤ n.k + 2 := by
  unfold Num.exp; split
  · unfold Num.expDig
    simp only [Num.sign_k]
    have h1 : ∀ (p : Prop) [Decidable p], (if p then 1 else 0) ≤ 1 := fun p _ => by split <;> omega
    have h2 : ∀ (p : Prop) [Decidable p], (if p then 0 else 1) ≤ 1 := fun p _ => by split <;> omega
    have := h1 ((lowerOf (chOf n.l) = 101 ∧ n.pr ≠ 0 ∧ n.pr ≠ 48) ∨ (lowerOf (chOf n.l) = 112 ∧ n.pr ≠ 120))
    refine Nat.le_trans (Nat.add_le_add (Nat.add_le_add_left this _) (h2 _)) ?_
    omega
  · split <;> (try simp only) <;> omega
theorem Num.bad_k (n : Num) : n.bad.k ≤ n.k + 1 := by unfold Num.bad; split <;> (try simp only) <;> omega
theorem Num.sep_k (src : List UInt8) (st : Nat) (n : Num) : (n.sep src st).k ≤ n.k + 1 := by unfold Num.sep; split <;> (try simp only) <;> omega
theorem numRun_k (src : List UInt8) (st : Nat) (fl dot : Bool) (l : List Item) : (numRun src st fl dot l).k ≤ 6 := by
  unfold numRun
  generalize hn : (⟨l, 10, 0, false, false, 0, 0, dot, 0⟩ : Num) = n0
  have h0 : n0.k = 0 := by rw [← hn]
  have h1 := Num.whole_k fl n0
  have h2 := Num.frac_k (Num.whole fl n0)
  have h3 := Num.none_k (Num.whole fl n0).frac
  have h4 := Num.exp_k fl (Num.whole fl n0).frac.none
  have h5 := Num.bad_k ((Num.whole fl n0).frac.none.exp fl)
  have h6 := Num.sep_k src st ((Num.whole fl n0).frac.none.exp fl).bad
  omega
theorem oneAt_k (C : Cfg) (src : List UInt8) (l : List Item) : (oneAt C src l).k + 8 * (oneAt C src l).l.length ≤ 8 * l.length := by
  have h := oneAt_lt C src l
  by_cases hne : l = []
  · rcases h with h | h
    · subst hne
      unfold oneAt
      rw [chOf_nil, if_neg (by rw [C.I.e0]; decide), if_neg (by decide), if_pos rfl]
      simp
    · have := h.2.1; rw [hne] at this; simp at this
  · have hlt : (oneAt C src l).l.length < l.length := by
      rcases h with h | h
      · exact absurd h.2.1 hne
      · exact h.2.1
    have ht := tail_lt hne
    have self : (One.self l).k = 0 := rfl
    suffices hk : (oneAt C src l).k ≤ 8 ∨ (oneAt C src l).k + (oneAt C src l).l.length ≤ l.length + 1 by
      rcases hk with hk | hk <;> omega
    have tl : ∀ m : List Item, m.tail.length ≤ m.length - 1 := fun m => by simp
    unfold oneAt
    repeat' split
    · left; unfold oneId; split
      · exact Nat.zero_le _
      · rw [self]; omega
    · left; unfold oneNum; split
      · exact Nat.le_trans (numRun_k _ _ _ _ _) (by omega)
      · rw [self]; omega
    · left; exact Nat.zero_le _
    · unfold oneStr; split
      · have := strRun_k 34 l.tail
        have := tl (strRun 34 l.tail).1
        right; simp only; omega
      · left; rw [self]; omega
    · unfold oneChr; split
      · have h1 := strRun_k 39 l.tail
        have h2 := tl (strRun 39 l.tail).1
        have h3 := chrErr_k (strRun 39 l.tail).2.1
        by_cases h4 : (strRun 39 l.tail).1.length = 0
        · right
          simp only
          omega
        · right; simp only; omega
      · left; rw [self]; omega
    · left; unfold oneDot; split
      · exact Nat.le_trans (numRun_k _ _ _ _ _) (by omega)
      · rw [self]; omega
    · left; unfold oneCom; split
      · exact Nat.le_trans (comment_k _) (by omega)
      · rw [self]; omega
    · left; unfold oneRaw; split
      · exact Nat.le_trans (rawErr_k _) (by omega)
      · rw [self]; omega
    · left; rw [self]; omega
theorem scanGo_k (C : Cfg) (src : List UInt8) (l : List Item) : (scanGo C src l).k + 8 * (scanGo C src l).l.length ≤ 8 * l.length := by
  induction hn : l.length using Nat.strongRecOn generalizing l with
  | _ n ih =>
    subst hn
    have hm := more_le (isWh C.white) l
    have h1 := oneAt_k C src (more (isWh C.white) l)
    cases hr : (oneAt C src (more (isWh C.white) l)).redo with
    | true =>
      have h2 := (oneAt_redo hr).1
      rw [scanGo_redo hr]
      have := ih _ (by omega) (oneAt C src (more (isWh C.white) l)).l rfl
      simp only; omega
    | false =>
      rw [scanGo_stop hr]
      simp only; omega
theorem errsOf_le (C : Cfg) (src : List UInt8) (l : List Item) : errsOf (toks C src l) ≤ 8 * l.length := by
  induction hn : l.length using Nat.strongRecOn generalizing l with
  | _ n ih =>
    subst hn
    have hk := scanGo_k C src l
    rcases scanGo_lt C src l with h | h
    · rw [toks_end h.1]
      simp only [errsOf, List.map_cons, List.map_nil, List.sum_cons, List.sum_nil]; omega
    · rw [toks_step h.1 h.2]
      have := ih _ h.2 _ rfl
      simp only [errsOf, List.map_cons, List.sum_cons] at this ⊢
      omega
theorem lexErrs_le (l : List Item) : lexErrs l ≤ l.length := by
  induction l with
  | nil => exact Nat.le_refl _
  | cons c l ih =>
    have : lexErr c ≤ 1 := by unfold lexErr; split <;> omega
    simp only [lexErrs, List.map_cons, List.sum_cons, List.length_cons] at ih ⊢
    omega
theorem lexErrs_pos {l : List Item} {c : Item} (hc : c ∈ l) (h : c.bad = true ∨ c.r = 0) : 0 < lexErrs l := by
  induction l with
  | nil => cases hc
  | cons d l ih =>
    simp only [lexErrs, List.map_cons, List.sum_cons] at ih ⊢
    rcases List.mem_cons.1 hc with rfl | hc
    · have : lexErr c = 1 := by unfold lexErr; rw [if_pos h]
      omega
    · have := ih hc; omega
/-- The number of errors, as the scanner counts it. -/
def errNum (C : Cfg) (src : List UInt8) : Nat := lexErrs (items src) + errsOf (toks C src (startL src))
theorem items_le (src : List UInt8) : (items src).length ≤ src.length := suffix_len (pre := []) rfl
theorem startL_le (src : List UInt8) : (startL src).length ≤ src.length := by
  obtain ⟨pre, h⟩ := startL_pre src
  exact suffix_len h
theorem errNum_le (C : Cfg) (src : List UInt8) : errNum C src ≤ 9 * src.length := by
  have h1 := lexErrs_le (items src)
  have h2 := errsOf_le C src (startL src)
  have h3 := items_le src
  have h4 := startL_le src
  unfold errNum; omega
theorem errNum_wrap (C : Cfg) (src : List UInt8) (h : src.length ≤ 10000000000) : wrap64 ((lexErrs (items src) : Nat) + (errsOf (toks C src (startL src)) : Nat)) = (errNum C src : Nat) := by
  have := errNum_le C src
  unfold errNum at *
  unfold wrap64; omega
theorem errNum_pos {C : Cfg} {src : List UInt8} {c : Item} (hc : c ∈ items src) (h : c.bad = true ∨ c.r = 0) : 0 < errNum C src := by
  have := lexErrs_pos hc h
  unfold errNum; omega
end Go.Proofs.YtmfihkgbfoapaaaDoor
