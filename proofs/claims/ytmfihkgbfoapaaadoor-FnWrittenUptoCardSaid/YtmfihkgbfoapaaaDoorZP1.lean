/- Own texts P1 of this claim, cut to what the claim uses. -/
import Derived.Test.YtmfihkgbfoapaaaDoorZE10
import Derived.Test.YtmfihkgbfoapaaaDoorZS2
import Derived.Laws.BitsLemmas
import Derived.Test.YtmfihkgbfoapaaaDoorZE11
namespace Go.Proofs.YtmfihkgbfoapaaaDoor
set_option linter.unusedVariables false
set_option linter.unusedSimpArgs false
open Go Go.RowKit Go.Lib
theorem digRun_k (b : Int) : ∀ n l, (digRun b n l).2 ≤ 1
  | 0, l => by unfold digRun; exact Nat.zero_le _
  | n + 1, l => by
    unfold digRun
    split
    · exact digRun_k b n l.tail
    · exact Nat.le_refl _
theorem escRun_k (q : Int) (l : List Item) : (escRun q l).2 ≤ 1 := by
  unfold escRun
  simp only
  repeat' split
  all_goals first
    | exact digRun_k _ _ _
    | exact Nat.zero_le _
    | exact Nat.le_refl _
theorem strRun_k (q : Int) (l : List Item) : (strRun q l).2.2 + (strRun q l).1.length ≤ l.length + 1 := by
  induction hn : l.length using Nat.strongRecOn generalizing l with
  | _ n ih =>
    subst hn
    by_cases h : chOf l = q
    · rw [strRun_stop h]; simp
    · by_cases h1 : chOf l = 10 ∨ chOf l < 0
      · rw [strRun_bad h h1]; simp only; omega
      · have hne : l ≠ [] := ne_nil_of_ch (by omega)
        by_cases h2 : chOf l = 92
        · rw [strRun_esc h h2]
          have h3 := escRun_lt q l hne
          have h4 := escRun_k q l
          have := ih _ h3 _ rfl
          simp only; omega
        · rw [strRun_step h (by omega) (by omega) h2]
          have h3 := tail_lt hne
          have := ih _ h3 _ rfl
          simp only; omega
theorem comRun_k : ∀ l : List Item, (comRun l).2 ≤ 1
  | [] => by unfold comRun; simp
  | c :: l => by
    unfold comRun
    split
    · simp
    · exact comRun_k l
theorem comment_k (l : List Item) : (comment l).2 ≤ 1 := by
  unfold comment; split
  · exact Nat.zero_le _
  · exact comRun_k _
theorem chrErr_k (n : Nat) : chrErr n ≤ 1 := by unfold chrErr; split <;> omega
theorem rawErr_k (l : List Item) : rawErr l ≤ 1 := by unfold rawErr; split <;> omega
theorem Num.pre_k (n : Num) : n.pre.k = n.k := by unfold Num.pre; repeat' split
                                                  all_goals rfl
theorem Num.point_k (fl : Bool) (n : Num) : (n.point fl).k = n.k := by unfold Num.point; split <;> rfl
theorem Num.whole_k (fl : Bool) (n : Num) : (n.whole fl).k = n.k := by
  unfold Num.whole; split
  · rfl
  · rw [Num.point_k]; exact Num.pre_k _
theorem Num.frac_k (n : Num) : n.frac.k ≤ n.k + 1 := by
  unfold Num.frac; split
  · show n.k + _ ≤ _; split <;> omega
  · omega
theorem Num.none_k (n : Num) : n.none.k ≤ n.k + 1 := by unfold Num.none; split <;> (try simp only) <;> omega
theorem Num.sign_k (n : Num) : n.sign.k = n.k := by unfold Num.sign; split <;> rfl
theorem Num.exp_k (fl : Bool) (n : Num) : (n.exp fl).k ≤ n.k + 2 := by
  unfold Num.exp; split
  · unfold Num.expDig
    simp only [Num.sign_k]
    have h1 : ∀ (p : Prop) [Decidable p], (if p then 1 else 0) ≤ 1 := fun p _ => by split <;> omega
    have h2 : ∀ (p : Prop) [Decidable p], (if p then 0 else 1) ≤ 1 := fun p _ => by split <;> omega
    have := h1 ((lowerOf (chOf n.l) = 101 ∧ n.pr ≠ 0 ∧ n.pr ≠ 48) ∨ (lowerOf (chOf n.l) = 112 ∧ n.pr ≠ 120))
    refine Nat.le_trans (Nat.add_le_add (Nat.add_le_add_left this _) (h2 _)) ?_
    omega
  · split <;> (try simp only) <;> omega
theorem Num.bad_k (n : Num) : n.bad.k ≤ n.k + 1 := by unfold Num.bad; split <;> (try simp only) <;> omega
theorem Num.sep_k (src : List UInt8) (st : Nat) (n : Num) : (n.sep src st).k ≤ n.k + 1 := by unfold Num.sep; split <;> (try simp only) <;> omega
theorem numRun_k (src : List UInt8) (st : Nat) (fl dot : Bool) (l : List Item) : (numRun src st fl dot l).k ≤ 6 := by
  unfold numRun
  generalize hn : (⟨l, 10, 0, false, false, 0, 0, dot, 0⟩ : Num) = n0
  have h0 : n0.k = 0 := by rw [← hn]
  have h1 := Num.whole_k fl n0
  have h2 := Num.frac_k (Num.whole fl n0)
  have h3 := Num.none_k (Num.whole fl n0).frac
  have h4 := Num.exp_k fl (Num.whole fl n0).frac.none
  have h5 := Num.bad_k ((Num.whole fl n0).frac.none.exp fl)
  have h6 := Num.sep_k src st ((Num.whole fl n0).frac.none.exp fl).bad
  omega
theorem oneAt_k (C : Cfg) (src : List UInt8) (l : List Item) : (oneAt C src l).k + 8 * (oneAt C src l).l.length ≤ 8 * l.length := by
  have h := oneAt_lt C src l
  by_cases hne : l = []
  · rcases h with h | h
    · subst hne
      unfold oneAt
      rw [chOf_nil, if_neg (by rw [C.I.e0]; decide), if_neg (by decide), if_pos rfl]
      simp
    · have := h.2.1; rw [hne] at this; simp at this
  · have hlt : (oneAt C src l).l.length < l.length := by
      rcases h with h | h
      · exact absurd h.2.1 hne
      · exact h.2.1
    have ht := tail_lt hne
    have self : (One.self l).k = 0 := rfl
    suffices hk : (oneAt C src l).k ≤ 8 ∨ (oneAt C src l).k + (oneAt C src l).l.length ≤ l.length + 1 by
      rcases hk with hk | hk <;> omega
    have tl : ∀ m : List Item, m.tail.length ≤ m.length - 1 := fun m => by simp
    unfold oneAt
    repeat' split
    · left; unfold oneId; split
      · exact Nat.zero_le _
      · rw [self]; omega
    · left; unfold oneNum; split
      · exact Nat.le_trans (numRun_k _ _ _ _ _) (by omega)
      · rw [self]; omega
    · left; exact Nat.zero_le _
    · unfold oneStr; split
      · have := strRun_k 34 l.tail
        have := tl (strRun 34 l.tail).1
        right; simp only; omega
      · left; rw [self]; omega
    · unfold oneChr; split
      · have h1 := strRun_k 39 l.tail
        have h2 := tl (strRun 39 l.tail).1
        have h3 := chrErr_k (strRun 39 l.tail).2.1
        by_cases h4 : (strRun 39 l.tail).1.length = 0
        · right
          simp only
          omega
        · right; simp only; omega
      · left; rw [self]; omega
    · left; unfold oneDot; split
      · exact Nat.le_trans (numRun_k _ _ _ _ _) (by omega)
      · rw [self]; omega
    · left; unfold oneCom; split
      · exact Nat.le_trans (comment_k _) (by omega)
      · rw [self]; omega
    · left; unfold oneRaw; split
      · exact Nat.le_trans (rawErr_k _) (by omega)
      · rw [self]; omega
    · left; rw [self]; omega
theorem scanGo_k (C : Cfg) (src : List UInt8) (l : List Item) : (scanGo C src l).k + 8 * (scanGo C src l).l.length ≤ 8 * l.length := by
  induction hn : l.length using Nat.strongRecOn generalizing l with
  | _ n ih =>
    subst hn
    have hm := more_le (isWh C.white) l
    have h1 := oneAt_k C src (more (isWh C.white) l)
    cases hr : (oneAt C src (more (isWh C.white) l)).redo with
    | true =>
      have h2 := (oneAt_redo hr).1
      rw [scanGo_redo hr]
      have := ih _ (by omega) (oneAt C src (more (isWh C.white) l)).l rfl
      simp only; omega
    | false =>
      rw [scanGo_stop hr]
      simp only; omega
theorem errsOf_le (C : Cfg) (src : List UInt8) (l : List Item) : errsOf (toks C src l) ≤ 8 * l.length := by
  induction hn : l.length using Nat.strongRecOn generalizing l with
  | _ n ih =>
    subst hn
    have hk := scanGo_k C src l
    rcases scanGo_lt C src l with h | h
    · rw [toks_end h.1]
      simp only [errsOf, List.map_cons, List.map_nil, List.sum_cons, List.sum_nil]; omega
    · rw [toks_step h.1 h.2]
      have := ih _ h.2 _ rfl
      simp only [errsOf, List.map_cons, List.sum_cons] at this ⊢
      omega
theorem lexErrs_le (l : List Item) : lexErrs l ≤ l.length := by
  induction l with
  | nil => exact Nat.le_refl _
  | cons c l ih =>
    have : lexErr c ≤ 1 := by unfold lexErr; split <;> omega
    simp only [lexErrs, List.map_cons, List.sum_cons, List.length_cons] at ih ⊢
    omega
def errNum (C : Cfg) (src : List UInt8) : Nat := lexErrs (items src) + errsOf (toks C src (startL src))
theorem items_le (src : List UInt8) : (items src).length ≤ src.length := suffix_len (pre := []) rfl
theorem startL_le (src : List UInt8) : (startL src).length ≤ src.length := by
  obtain ⟨pre, h⟩ := startL_pre src
  exact suffix_len h
theorem errNum_le (C : Cfg) (src : List UInt8) : errNum C src ≤ 9 * src.length := by
  have h1 := lexErrs_le (items src)
  have h2 := errsOf_le C src (startL src)
  have h3 := items_le src
  have h4 := startL_le src
  unfold errNum; omega
theorem errNum_wrap (C : Cfg) (src : List UInt8) (h : src.length ≤ 10000000000) : wrap64 ((lexErrs (items src) : Nat) + (errsOf (toks C src (startL src)) : Nat)) = (errNum C src : Nat) := by
  have := errNum_le C src
  unfold errNum at *
  unfold wrap64; omega
end Go.Proofs.YtmfihkgbfoapaaaDoor
namespace Go.Proofs.YtmfihkgbfoapaaaDoor
set_option linter.unusedVariables false
set_option linter.unusedSimpArgs false
open Go Go.RowKit Go.Lib
structure Skips (C1 C2 : Cfg) : Prop where
  id : C1.I = C2.I
  white : C1.white = C2.white
  b4 : hasBit C1.mode 4 = hasBit C2.mode 4
  b24 : hasBit C1.mode 24 = hasBit C2.mode 24
  b16 : hasBit C1.mode 16 = hasBit C2.mode 16
  b64 : hasBit C1.mode 64 = hasBit C2.mode 64
  b32 : hasBit C1.mode 32 = hasBit C2.mode 32
  b128 : hasBit C1.mode 128 = hasBit C2.mode 128
  c1 : hasBit C1.mode 256 = true
  c2 : hasBit C2.mode 256 = true
  s1 : hasBit C1.mode 512 = true
  s2 : hasBit C2.mode 512 = false
structure Spaces (C1 C2 : Cfg) (k : Int) : Prop where
  id : C1.I = C2.I
  mode : C1.mode = C2.mode
  k0 : 1 ≤ k ∧ k ≤ 32
  ident : C2.I.p0 k = false
  on : isWh C1.white k = true
  off : isWh C2.white k = false
  other : ∀ c, c ≠ k → isWh C1.white c = isWh C2.white c
end Go.Proofs.YtmfihkgbfoapaaaDoor
namespace Go.Proofs.YtmfihkgbfoapaaaDoor
set_option linter.unusedVariables false
set_option linter.unusedSimpArgs false
open Go Go.RowKit Go.Lib
set_option maxRecDepth 100000 in
set_option maxHeartbeats 2000000 in
theorem decodeN_stable {n b0 b1 b2 b3 m c1 c2 c3 r k : Nat} (h : decodeN n b0 b1 b2 b3 = (r, k)) (hb : ¬ (r = 65533 ∧ k = 1)) (hm : k ≤ m) (h1 : 1 < k → c1 = b1) (h2 : 2 < k → c2 = b2) (h3 : 3 < k → c3 = b3) : decodeN m b0 c1 c2 c3 = (r, k) := by
  unfold decodeN at h
  repeat' split at h
  all_goals
    obtain ⟨e1, e2⟩ := Prod.mk.inj h
    try (exfalso; omega)
  · rename_i hx; rw [← e1, ← e2]; unfold decodeN; rw [if_pos hx]
  · obtain rfl := h1 (by omega)
    unfold decodeN
    rw [if_neg (by assumption), if_pos ⟨by omega, by omega, by omega⟩, if_pos (by assumption), e1, e2]
  · obtain rfl := h1 (by omega)
    obtain rfl := h2 (by omega)
    unfold decodeN
    rw [if_neg (by assumption), if_neg (by omega), if_pos ⟨by omega, ⟨by omega, by omega⟩, by omega, by omega⟩, if_pos (by assumption), e1, e2]
  · obtain rfl := h1 (by omega)
    obtain rfl := h2 (by omega)
    obtain rfl := h3 (by omega)
    unfold decodeN
    rw [if_neg (by assumption), if_neg (by omega), if_neg (by omega), if_pos ⟨by omega, ⟨by omega, by omega⟩, ⟨by omega, by omega⟩, by omega, by omega⟩, if_pos (by assumption), e1, e2]
def Item.ok (c : Item) : Prop := 0 < c.bs.length ∧ ∀ rest, hd (c.bs ++ rest) = (c.r, c.bs.length)
theorem hd_ok {l : List UInt8} (h : 0 < l.length) (hb : (hdItem l).bad = false) : (hdItem l).ok := by
  have hn := hdItem_n h
  unfold Item.n at hn
  have h1 := hd_pos l
  have hle := hd_le h
  have hbad : ¬ ((hd l).1 = 65533 ∧ (hd l).2 = 1) := by
    rintro ⟨x, y⟩
    rw [bad_of h, x, y] at hb; simp at hb
  refine ⟨by rw [hn]; exact h1, fun rest => ?_⟩
  rw [hn]
  show hd (l.take (hd l).2 ++ rest) = ((hd l).1, (hd l).2)
  have hg : ∀ i, i < (hd l).2 → gb (l.take (hd l).2 ++ rest) i = gb l i := fun i hi => by
    rw [gb_append_left (by rw [List.length_take]; omega)]
    unfold gb; simp [List.getD_eq_getElem?_getD, List.getElem?_take_of_lt hi]
  have key : decodeN l.length (gb l 0) (gb l 1) (gb l 2) (gb l 3) = ((hd l).1, (hd l).2) := rfl
  unfold hd at hg ⊢
  rw [hg 0 h1]
  exact decodeN_stable key hbad (by simp only [List.length_append, List.length_take]; unfold hd at hle; omega) (fun hk => hg 1 hk) (fun hk => hg 2 hk) (fun hk => hg 3 hk)
theorem items_ok {cs : List Item} (h : ∀ c ∈ cs, c.ok) : items (bytesOf cs) = cs := by
  induction cs with
  | nil => rw [bytesOf_nil, items_nil]
  | cons c cs ih =>
    obtain ⟨h0, hh⟩ := h c List.mem_cons_self
    rw [bytesOf_cons, items_cons (by rw [List.length_append]; omega)]
    have e := hh (bytesOf cs)
    unfold hdItem
    rw [e]
    simp only [List.take_left, List.drop_left]
    rw [ih (fun d hd => h d (List.mem_cons_of_mem _ hd))]
theorem items_good {l : List UInt8} : ∀ c ∈ items l, c.bad = false → c.ok := by
  induction hn : l.length using Nat.strongRecOn generalizing l with
  | _ n ih =>
    subst hn
    by_cases h : 0 < l.length
    · rw [items_cons h]
      intro c hc hb
      rcases List.mem_cons.1 hc with rfl | hc
      · exact hd_ok h hb
      · have := hd_pos l
        exact ih (l.drop (hd l).2).length (by rw [List.length_drop]; omega) rfl c hc hb
    · have : l = [] := List.eq_nil_of_length_eq_zero (by omega)
      subst this; rw [items_nil]; intro c hc; cases hc
theorem u64_small {n : Nat} (h : n < 2 ^ 64) : IntKind.u64.wrap (n : Int) = n := by
  simp only [IntKind.wrap, IntKind.bits, IntKind.signed]
  simp
  exact Int.emod_eq_of_lt (by omega) (by omega)
end Go.Proofs.YtmfihkgbfoapaaaDoor
namespace Go.Proofs.YtmfihkgbfoapaaaDoor
set_option linter.unusedVariables false
set_option linter.unusedSimpArgs false
open Go Go.RowKit Go.Lib
theorem tail_of {a b : List Item} (h : a <:+ b) : a.tail <:+ b := (List.tail_suffix a).trans h
theorem digRun_suffix (b : Int) : ∀ n l, (digRun b n l).1 <:+ l
  | 0, l => List.suffix_refl l
  | n + 1, l => by
    unfold digRun
    split
    · exact (digRun_suffix b n l.tail).trans (List.tail_suffix l)
    · exact List.suffix_refl l
theorem escRun_suffix (q : Int) (l : List Item) : (escRun q l).1 <:+ l := by
  have h1 := List.tail_suffix l
  have h2 := (List.tail_suffix l.tail).trans h1
  unfold escRun
  simp only
  repeat' split
  all_goals first
    | exact h2
    | exact h1
    | exact (digRun_suffix _ _ _).trans h1
    | exact (digRun_suffix _ _ _).trans h2
theorem strRun_suffix (q : Int) (l : List Item) : (strRun q l).1 <:+ l := by
  induction hn : l.length using Nat.strongRecOn generalizing l with
  | _ n ih =>
    subst hn
    by_cases h : chOf l = q
    · rw [strRun_stop h]; exact List.suffix_refl l
    · by_cases h1 : chOf l = 10 ∨ chOf l < 0
      · rw [strRun_bad h h1]; exact List.suffix_refl l
      · have hne : l ≠ [] := ne_nil_of_ch (by omega)
        by_cases h2 : chOf l = 92
        · rw [strRun_esc h h2]
          exact (ih _ (escRun_lt q l hne) _ rfl).trans (escRun_suffix q l)
        · rw [strRun_step h (by omega) (by omega) h2]
          exact (ih _ (tail_lt hne) _ rfl).trans (List.tail_suffix l)
theorem digs_suffix (p : Int → Bool) (m : Int) : ∀ (l : List Item) (inv : Int) (d u : Bool), (digs p m l inv d u).1 <:+ l
  | [], inv, d, u => by unfold digs; exact List.suffix_refl _
  | c :: l, inv, d, u => by
    have ih := fun inv d u => (digs_suffix p m l inv d u).trans (List.suffix_cons c l)
    unfold digs
    repeat' split
    all_goals first
      | exact ih _ _ _
      | exact List.suffix_refl _
theorem dg_suffix (b : Int) (l : List Item) (inv : Int) : (dg b l inv).1 <:+ l := by
  unfold dg; split <;> exact digs_suffix _ _ _ _ _ _
theorem Num.pre_suffix (n : Num) : n.pre.l <:+ n.l := by
  have h1 := List.tail_suffix n.l
  have h2 := (List.tail_suffix n.l.tail).trans h1
  unfold Num.pre
  repeat' split
  all_goals first
    | exact h2
    | exact h1
    | exact List.suffix_refl _
theorem Num.point_suffix (fl : Bool) (n : Num) : (n.point fl).l <:+ n.l := by
  unfold Num.point; split
  · exact List.tail_suffix _
  · exact List.suffix_refl _
theorem Num.whole_suffix (fl : Bool) (n : Num) : (n.whole fl).l <:+ n.l := by
  unfold Num.whole; split
  · exact List.suffix_refl _
  · exact (Num.point_suffix _ _).trans ((dg_suffix _ _ _).trans (Num.pre_suffix _))
theorem Num.frac_suffix (n : Num) : n.frac.l <:+ n.l := by
  unfold Num.frac; split
  · exact dg_suffix _ _ _
  · exact List.suffix_refl _
theorem Num.sign_suffix (n : Num) : n.sign.l <:+ n.l := by
  unfold Num.sign; split
  · exact List.tail_suffix _
  · exact List.suffix_refl _
theorem Num.exp_suffix (fl : Bool) (n : Num) : (n.exp fl).l <:+ n.l := by
  unfold Num.exp; split
  · exact (dg_suffix _ _ _).trans ((Num.sign_suffix _).trans (List.tail_suffix _))
  · split <;> exact List.suffix_refl _
theorem numRun_suffix (src : List UInt8) (st : Nat) (fl dot : Bool) (l : List Item) : (numRun src st fl dot l).l <:+ l := by
  unfold numRun
  rw [(Num.sep_l _ _ _).1, (Num.bad_l _).1]
  refine (Num.exp_suffix _ _).trans ?_
  rw [(Num.none_l _).1]
  exact (Num.frac_suffix _).trans (Num.whole_suffix _ _)
theorem oneAt_suffix (C : Cfg) (src : List UInt8) (l : List Item) : (oneAt C src l).l <:+ l := by
  have self : (One.self l).l <:+ l := List.tail_suffix l
  have ht := List.tail_suffix l
  unfold oneAt
  repeat' split
  · unfold oneId; split
    · exact (more_suffix _ _).trans ht
    · exact self
  · unfold oneNum; split
    · exact numRun_suffix _ _ _ _ _
    · exact self
  · exact List.suffix_refl _
  · unfold oneStr; split
    · exact tail_of ((strRun_suffix _ _).trans ht)
    · exact self
  · unfold oneChr; split
    · exact tail_of ((strRun_suffix _ _).trans ht)
    · exact self
  · unfold oneDot; split
    · exact (numRun_suffix _ _ _ _ _).trans ht
    · exact self
  · unfold oneCom; split
    · exact (comment_suffix _).trans ht
    · exact self
  · unfold oneRaw; split
    · exact tail_of ((List.dropWhile_suffix _).trans ht)
    · exact self
  · exact self
end Go.Proofs.YtmfihkgbfoapaaaDoor
namespace Go.Proofs.YtmfihkgbfoapaaaDoor
set_option linter.unusedVariables false
set_option linter.unusedSimpArgs false
open Go Go.RowKit Go.Lib
end Go.Proofs.YtmfihkgbfoapaaaDoor
