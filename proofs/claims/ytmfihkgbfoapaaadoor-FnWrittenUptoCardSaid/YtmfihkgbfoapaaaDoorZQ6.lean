/- Own texts Q6 Q7 of this claim, cut to what the claim uses. -/
import Derived.Test.YtmfihkgbfoapaaaDoorZQ1
namespace Go.Proofs.YtmfihkgbfoapaaaDoor
set_option linter.unusedVariables false
set_option linter.unusedSimpArgs false
open Go Go.RowKit Go.Lib Go.BigFrame Go.Proofs.YtmfihkgbfoapaaaDoorW.PrintWords
def ascI (l : List UInt8) : List Item := l.map fun b => ⟨b.toNat, [b]⟩
theorem ascI_append (a b : List UInt8) : ascI (a ++ b) = ascI a ++ ascI b := by unfold ascI; rw [List.map_append]
theorem ascI_bytes (l : List UInt8) : bytesOf (ascI l) = l := by
  induction l with
  | nil => rfl
  | cons b l ih =>
    show [b] ++ bytesOf (ascI l) = b :: l
    rw [ih]; rfl
def Fine (l : List Item) : Prop := ∀ c ∈ l, c.ok ∧ okc c = true
theorem Fine.nil : Fine [] := fun c h => by cases h
theorem Fine.app {a b : List Item} (ha : Fine a) (hb : Fine b) : Fine (a ++ b) := fun c hc => by
  rcases List.mem_append.1 hc with h | h
  · exact ha c h
  · exact hb c h
theorem asc_fine {l : List UInt8} (h : ∀ b ∈ l, 0 < b.toNat ∧ b.toNat < 128) : Fine (ascI l) := fun c hc => by
  unfold ascI at hc
  obtain ⟨b, hb, rfl⟩ := List.mem_map.1 hc
  obtain ⟨h0, h1⟩ := h b hb
  refine ⟨⟨Nat.zero_lt_one, fun rest => ?_⟩, ?_⟩
  · have : hd (b :: rest) = (b.toNat, 1) := hd_ascii (l := b :: rest) (by show b.toNat < 128; exact h1)
    exact this
  · unfold okc Item.bad
    simp
    omega
theorem Fine.items {l : List Item} (h : Fine l) : items (bytesOf l) = l := items_ok fun c hc => (h c hc).1
theorem Fine.sure {l : List Item} (h : Fine l) : sureL l = true := by
  unfold sureL
  exact List.all_eq_true.2 fun c hc => (h c hc).2
def dgB (d : Nat) : UInt8 := UInt8.ofNat (if d < 10 then 48 + d else 87 + d)
theorem dgB_nat {d : Nat} (h : d < 16) : (dgB d).toNat = if d < 10 then 48 + d else 87 + d := by
  unfold dgB
  have : (if d < 10 then 48 + d else 87 + d) < 256 := by split <;> omega
  simp only [UInt8.toNat_ofNat']
  exact Nat.mod_eq_of_lt this
def baseF (b : Nat) (mark : Bool) : Nat → Nat → List UInt8
  | 0, _ => []
  | f + 1, n => if n / b = 0 then [dgB (n % b)] else baseF b mark f (n / b) ++ ((if mark = true then [95] else []) ++ [dgB (n % b)])
def baseL (b : Nat) (mark : Bool) (n : Nat) : List UInt8 := baseF b mark 64 n
theorem dgOf_dgB {d : Nat} (h : d < 16) : dgOf ((dgB d).toNat : Int) = d ∧ ((dgB d).toNat : Int) ≠ 95 := by
  rw [dgB_nat h]
  unfold dgOf isDec
  split
  · refine ⟨?_, by omega⟩
    rw [if_pos (by simp; omega)]; omega
  · refine ⟨?_, by omega⟩
    rw [if_neg (by simp; omega), if_pos (by omega)]; omega
theorem base_asc (b : Nat) (hb : 2 ≤ b ∧ b ≤ 16) (mark : Bool) : ∀ (f n : Nat), ∀ x ∈ baseF b mark f n, 0 < x.toNat ∧ x.toNat < 128
  | 0, n => fun x hx => by cases hx
  | f + 1, n => by
    have hd : ∀ x ∈ [dgB (n % b)], 0 < x.toNat ∧ x.toNat < 128 := fun x hx => by
      rw [List.mem_singleton] at hx
      have : n % b < b := Nat.mod_lt _ (by omega)
      rw [hx, dgB_nat (by omega)]
      split <;> omega
    unfold baseF
    split
    · exact hd
    · intro x hx
      rcases List.mem_append.1 hx with h | h
      · exact base_asc b hb mark f _ x h
      · rcases List.mem_append.1 h with h | h
        · cases mark with
          | true => simp at h; subst h; decide
          | false => simp at h
        · exact hd x h
theorem sdig_base {B : Int} {b : Nat} (hb : 2 ≤ b ∧ (b : Int) ≤ B ∧ b ≤ 16) (mark : Bool) : ∀ (f n : Nat), 0 < f → n < 2 ^ f → ∀ (rest : List Item) (p : Bool) (r : List Item) (m : Nat), sdig B rest true = some (r, m) →
    ∃ m', 0 < m' ∧ sdig B (ascI (baseF b mark f n) ++ rest) p = some (r, m + m') := by
  have one : ∀ (d : Nat) (rest : List Item) (p : Bool) (r : List Item) (m : Nat), d < b → sdig B rest true = some (r, m) → sdig B (ascI [dgB d] ++ rest) p = some (r, m + 1) := by
    intro d rest p r m hd hr
    obtain ⟨e1, e2⟩ := dgOf_dgB (d := d) (by omega)
    show sdig B (⟨(dgB d).toNat, [dgB d]⟩ :: rest) p = _
    rw [sdig, if_neg e2, if_pos (by rw [e1]; omega), hr]; rfl
  intro f
  induction f with
  | zero => intro n h0; omega
  | succ f ih =>
    intro n _ hn rest p r m hr
    have hd : n % b < b := Nat.mod_lt _ (by omega)
    unfold baseF
    by_cases h : n / b = 0
    · rw [if_pos h]
      exact ⟨1, by decide, one _ rest p r m hd hr⟩
    · rw [if_neg h]
      have hlt : n / b < 2 ^ f := by
        have h1 : n / b ≤ n / 2 := Nat.div_le_div_left (by omega) (by decide)
        have h2 : 2 ^ (f + 1) = 2 * 2 ^ f := by rw [Nat.pow_succ]; omega
        omega
      have hf : 0 < f := by
        rcases Nat.eq_zero_or_pos f with h0 | h0
        · subst h0
          have : n / b < 1 := hlt
          exact absurd (Nat.lt_one_iff.1 this) h
        · exact h0
      have h1 := fun p => one (n % b) rest p r m hd hr
      have h2 : sdig B (ascI ((if mark = true then [95] else []) ++ [dgB (n % b)]) ++ rest) true = some (r, m + 1) := by
        cases mark with
        | false => exact h1 true
        | true =>
          obtain ⟨e1, e2⟩ := dgOf_dgB (d := n % b) (by omega)
          have h3 := h1 true
          show sdig B (⟨95, [95]⟩ :: (ascI [dgB (n % b)] ++ rest)) true = _
          rw [sdig, if_pos (show ((95 : Nat) : Int) = 95 from rfl), if_pos ⟨rfl, by show dgOf ((dgB (n % b)).toNat : Int) < B; rw [e1]; omega⟩]
          exact h3
      obtain ⟨m', hm, hs⟩ := ih (n / b) hf hlt _ p r (m + 1) h2
      refine ⟨m' + 1, by omega, ?_⟩
      rw [ascI_append, List.append_assoc, hs]
      congr 2
      omega
theorem sdig_stop {B : Int} {rest : List Item} (h : rest = [] ∨ (chOf rest ≠ 95 ∧ ¬ dgOf (chOf rest) < B)) (p : Bool) : sdig B rest p = some (rest, 0) := by
  cases rest with
  | nil => rfl
  | cons c l =>
    rcases h with h | h
    · cases h
    · rw [sdig, if_neg (show ¬ (c.r : Int) = 95 from h.1), if_neg (show ¬ dgOf c.r < B from h.2)]
theorem sdig_num {B : Int} {b : Nat} (hb : 2 ≤ b ∧ (b : Int) ≤ B ∧ b ≤ 16) (mark : Bool) {n : Nat} (hn : n < 2 ^ 64) {rest : List Item} (h : rest = [] ∨ (chOf rest ≠ 95 ∧ ¬ dgOf (chOf rest) < B)) (p : Bool) :
    ∃ m, 0 < m ∧ sdig B (ascI (baseL b mark n) ++ rest) p = some (rest, m) := by
  obtain ⟨m', h1, h2⟩ := sdig_base hb mark 64 n (by decide) hn rest p rest 0 (sdig_stop h true)
  exact ⟨m', h1, by unfold baseL; rw [h2, Nat.zero_add]⟩
theorem base_head (b : Nat) (hb : 2 ≤ b ∧ b ≤ 16) (mark : Bool) : ∀ (f n : Nat), 0 < f → n < 2 ^ f → ∃ d t, baseF b mark f n = dgB d :: t ∧ d < b ∧ (0 < n → 0 < d) := by
  intro f
  induction f with
  | zero => intro n h0; omega
  | succ f ih =>
    intro n _ hn
    have hd : n % b < b := Nat.mod_lt _ (by omega)
    unfold baseF
    by_cases h : n / b = 0
    · rw [if_pos h]
      refine ⟨n % b, [], rfl, hd, fun h0 => ?_⟩
      have := Nat.div_add_mod n b
      rw [h] at this
      omega
    · rw [if_neg h]
      have hlt : n / b < 2 ^ f := by
        have h1 : n / b ≤ n / 2 := Nat.div_le_div_left (by omega) (by decide)
        have h2 : 2 ^ (f + 1) = 2 * 2 ^ f := by rw [Nat.pow_succ]; omega
        omega
      have hf : 0 < f := by
        rcases Nat.eq_zero_or_pos f with h0 | h0
        · subst h0
          have : n / b < 1 := hlt
          exact absurd (Nat.lt_one_iff.1 this) h
        · exact h0
      obtain ⟨d, t, e, h1, h2⟩ := ih (n / b) hf hlt
      exact ⟨d, _, by rw [e, List.cons_append], h1, fun _ => h2 (Nat.pos_of_ne_zero h)⟩
theorem base_ch (b : Nat) (hb : 2 ≤ b ∧ b ≤ 16) (mark : Bool) {n : Nat} (hn : n < 2 ^ 64) (rest : List Item) : ∃ d, d < b ∧ (0 < n → 0 < d) ∧ chOf (ascI (baseL b mark n) ++ rest) = if d < 10 then 48 + (d : Int) else 87 + (d : Int) := by
  obtain ⟨d, t, e, h1, h2⟩ := base_head b hb mark 64 n (by decide) hn
  refine ⟨d, h1, h2, ?_⟩
  unfold baseL
  rw [e]
  show ((dgB d).toNat : Int) = _
  rw [dgB_nat (by omega)]
  split <;> omega
theorem base_no89 (mark : Bool) : ∀ (f n : Nat), (ascI (baseF 8 mark f n)).any is89 = false
  | 0, n => rfl
  | f + 1, n => by
    have hd : (ascI [dgB (n % 8)]).any is89 = false := by
      have : n % 8 < 8 := Nat.mod_lt _ (by decide)
      show (is89 ⟨(dgB (n % 8)).toNat, _⟩ || false) = false
      unfold is89
      simp only
      rw [dgB_nat (by omega), if_pos (by omega)]
      simp; omega
    unfold baseF
    split
    · exact hd
    · rw [ascI_append, ascI_append, List.any_append, List.any_append, base_no89 mark f, hd]
      cases mark <;> rfl
def numT (kind n : Nat) (mark : Bool) : List UInt8 :=
  if kind = 0 then 48 :: 120 :: baseL 16 mark n else if kind = 1 then 48 :: 66 :: baseL 2 mark n else if kind = 2 then 48 :: baseL 8 mark n else baseL 10 mark n
def fltT (kind n : Nat) (mark : Bool) : List UInt8 :=
  if kind = 0 then 46 :: baseL 10 mark n else if kind = 1 then baseL 10 mark n ++ [46] else if kind = 2 then baseL 10 mark n ++ (69 :: 45 :: baseL 10 false (n / 256)) else 48 :: 88 :: (baseL 16 mark n ++ (46 :: 112 :: baseL 10 mark (n / 256)))
theorem dec_num {t l2 l3 : List Item} {m n2 : Nat} {pt had : Bool} {l : List Item} (h1 : sdig 10 t false = some (l, m)) (h2 : sfrac 10 l m = some (l2, n2, pt)) (h3 : sexp 101 69 l2 = some (l3, had)) (hn : n2 ≠ 0) (hl : l3 = []) (hk : pt = true ∨ had = true) : sdec t = -4 := by
  unfold sdec
  rw [h1]; simp only
  rw [h2]; simp only
  rw [h3]; simp only
  rw [if_neg hn, if_pos hk, hl]; rfl
theorem sexp_nil (s g : Int) (hs : s ≠ -1) (hg : g ≠ -1) : sexp s g [] = some ([], false) := by
  unfold sexp
  rw [chOf_nil, if_neg (by omega)]
theorem sfrac_nil (b : Int) (m : Nat) : sfrac b [] m = some ([], m, false) := by
  unfold sfrac
  rw [chOf_nil, if_neg (by decide)]
theorem int_spec (n : Nat) (hn : n < 2 ^ 64) (mark : Bool) (hk : n % 4 < 4) : numSpec (ascI (numT (n % 4) n mark)) = -3 := by
  unfold numT
  by_cases h0 : n % 4 = 0
  · rw [if_pos h0]
    obtain ⟨m, hm, hs⟩ := sdig_num (B := 16) (b := 16) ⟨by decide, by decide, by decide⟩ mark hn (rest := []) (.inl rfl) true
    rw [List.append_nil] at hs
    show numSpec (⟨48, [48]⟩ :: ⟨120, [120]⟩ :: ascI (baseL 16 mark n)) = -3
    unfold numSpec
    rw [if_neg (by simp [chOf]), if_neg (by simp [chOf]), if_pos (by simp [chOf])]
    unfold shex
    simp only [List.tail_cons]
    rw [hs]; simp only
    rw [sfrac_nil]; simp only
    rw [sexp_nil _ _ (by decide) (by decide)]; simp only
    rw [if_neg (by simp; omega)]
    rfl
  rw [if_neg h0]
  by_cases h1 : n % 4 = 1
  · rw [if_pos h1]
    obtain ⟨m, hm, hs⟩ := sdig_num (B := 2) (b := 2) ⟨by decide, by decide, by decide⟩ mark hn (rest := []) (.inl rfl) true
    rw [List.append_nil] at hs
    show numSpec (⟨48, [48]⟩ :: ⟨66, [66]⟩ :: ascI (baseL 2 mark n)) = -3
    unfold numSpec
    rw [if_pos (by simp [chOf])]
    unfold sbin
    simp only [List.tail_cons]
    rw [hs]; simp only
    rw [if_neg (by omega)]
    rfl
  rw [if_neg h1]
  by_cases h2 : n % 4 = 2
  · rw [if_pos h2]
    obtain ⟨m, hm, hs⟩ := sdig_num (B := 10) (b := 8) ⟨by decide, by decide, by decide⟩ mark hn (rest := []) (.inl rfl) true
    obtain ⟨d, hd, -, hc⟩ := base_ch 8 (by decide) mark hn []
    rw [List.append_nil] at hs hc
    rw [if_pos (by omega)] at hc
    show numSpec (⟨48, [48]⟩ :: ascI (baseL 8 mark n)) = -3
    unfold numSpec
    rw [if_neg (by rw [List.tail_cons, hc]; omega), if_neg (by rw [List.tail_cons, hc]; omega), if_neg (by rw [List.tail_cons, hc]; omega)]
    unfold sdec
    have hs0 : sdig 10 (⟨48, [48]⟩ :: ascI (baseL 8 mark n)) false = some ([], m + 1) := by
      rw [sdig, if_neg (by decide), if_pos (by decide), hs]; rfl
    rw [hs0]; simp only
    rw [sfrac_nil]; simp only
    rw [sexp_nil _ _ (by decide) (by decide)]; simp only
    rw [if_neg (by omega), if_neg (by simp), if_neg]
    · rfl
    · rintro ⟨-, -, h⟩
      simp only [List.length_nil, Nat.sub_zero, List.take_length] at h
      rw [List.any_cons] at h
      have h8 := base_no89 mark 64 n
      unfold baseL at h
      rw [h8] at h
      exact absurd h (by decide)
  rw [if_neg h2]
  obtain ⟨m, hm, hs⟩ := sdig_num (B := 10) (b := 10) ⟨by decide, by decide, by decide⟩ mark hn (rest := []) (.inl rfl) false
  obtain ⟨d, hd, hd0, hc⟩ := base_ch 10 (by decide) mark hn []
  rw [List.append_nil] at hs hc
  rw [if_pos (by omega)] at hc
  have hd1 := hd0 (by omega)
  unfold numSpec
  rw [if_neg (by rw [hc]; omega), if_neg (by rw [hc]; omega), if_neg (by rw [hc]; omega)]
  unfold sdec
  rw [hs]; simp only
  rw [sfrac_nil]; simp only
  rw [sexp_nil _ _ (by decide) (by decide)]; simp only
  rw [if_neg (by omega), if_neg (by simp), if_neg (by rw [hc]; omega)]
  rfl
theorem dec_first {t : List Item} (h : chOf t ≠ 48) : numSpec t = sdec t := by
  unfold numSpec
  rw [if_neg (fun h1 => h h1.1), if_neg (fun h1 => h h1.1), if_neg (fun h1 => h h1.1)]
theorem sexp_at {s g c : Int} {l r : List Item} {m : Nat} (hc : chOf l = c) (hsg : c = s ∨ c = g) (hs : sdig 10 (if chOf l.tail = 43 ∨ chOf l.tail = 45 then l.tail.tail else l.tail) false = some (r, m)) (hm : 0 < m) : sexp s g l = some (r, true) := by
  unfold sexp
  rw [hc, if_pos hsg, hs]
  simp only
  rw [if_neg (by omega)]
theorem flt_spec (n : Nat) (hn : n < 2 ^ 64) (mark : Bool) : numSpec (ascI (fltT (n % 4) n mark)) = -4 := by
  unfold fltT
  have h10 : (10 : Nat) ≥ 2 ∧ ((10 : Nat) : Int) ≤ 10 ∧ (10 : Nat) ≤ 16 := ⟨by decide, by decide, by decide⟩
  have hn8 : n / 256 < 2 ^ 64 := Nat.lt_of_le_of_lt (Nat.div_le_self _ _) hn
  by_cases h0 : n % 4 = 0
  · rw [if_pos h0]
    obtain ⟨m, hm, hs⟩ := sdig_num h10 mark hn (rest := []) (.inl rfl) false
    rw [List.append_nil] at hs
    show numSpec (⟨46, [46]⟩ :: ascI (baseL 10 mark n)) = -4
    rw [dec_first (by show (46 : Int) ≠ 48; decide)]
    refine dec_num (m := 0) (l := ⟨46, [46]⟩ :: ascI (baseL 10 mark n)) (l2 := []) (n2 := 0 + m) (pt := true) (sdig_stop (.inr ⟨by show (46 : Int) ≠ 95; decide, by show ¬ dgOf (46 : Int) < 10; decide⟩) false) ?_ (sexp_nil _ _ (by decide) (by decide)) (by omega) rfl (.inl rfl)
    unfold sfrac
    rw [if_pos (show chOf (⟨46, [46]⟩ :: ascI (baseL 10 mark n)) = 46 from rfl)]
    simp only [List.tail_cons]
    rw [hs]
  rw [if_neg h0]
  by_cases h1 : n % 4 = 1
  · rw [if_pos h1]
    rw [ascI_append]
    obtain ⟨m, hm, hs⟩ := sdig_num h10 mark hn (rest := ascI [46]) (.inr ⟨by show (46 : Int) ≠ 95; decide, by show ¬ dgOf (46 : Int) < 10; decide⟩) false
    obtain ⟨d, hd, hd0, hc⟩ := base_ch 10 (by decide) mark hn (ascI [46])
    rw [if_pos (by omega)] at hc
    have hd1 := hd0 (by omega)
    rw [dec_first (by rw [hc]; omega)]
    refine dec_num (l2 := []) (n2 := m + 0) (pt := true) hs ?_ (sexp_nil _ _ (by decide) (by decide)) (by omega) rfl (.inl rfl)
    unfold sfrac
    rw [if_pos (by rfl)]
    rfl
  rw [if_neg h1]
  by_cases h2 : n % 4 = 2
  · rw [if_pos h2]
    rw [ascI_append]
    obtain ⟨m, hm, hs⟩ := sdig_num h10 mark hn (rest := ascI (69 :: 45 :: baseL 10 false (n / 256))) (.inr ⟨by show (69 : Int) ≠ 95; decide, by show ¬ dgOf (69 : Int) < 10; decide⟩) false
    obtain ⟨m2, hm2, hs2⟩ := sdig_num h10 false hn8 (rest := []) (.inl rfl) false
    rw [List.append_nil] at hs2
    obtain ⟨d, hd, hd0, hc⟩ := base_ch 10 (by decide) mark hn (ascI (69 :: 45 :: baseL 10 false (n / 256)))
    rw [if_pos (by omega)] at hc
    have hd1 := hd0 (by omega)
    rw [dec_first (by rw [hc]; omega)]
    refine dec_num (l2 := ascI (69 :: 45 :: baseL 10 false (n / 256))) (n2 := m) (pt := false) (had := true) (l3 := []) hs ?_ (sexp_at (c := 69) (m := m2) rfl (.inr rfl) ?_ hm2) (by omega) rfl (.inr rfl)
    · unfold sfrac
      rw [if_neg (by show ¬ (69 : Int) = 46; decide)]
    · rw [if_pos (by right; rfl)]
      exact hs2
  rw [if_neg h2]
  show numSpec (⟨48, [48]⟩ :: ⟨88, [88]⟩ :: ascI (baseL 16 mark n ++ (46 :: 112 :: baseL 10 mark (n / 256)))) = -4
  rw [ascI_append]
  obtain ⟨m, hm, hs⟩ := sdig_num (B := 16) (b := 16) ⟨by decide, by decide, by decide⟩ mark hn (rest := ascI (46 :: 112 :: baseL 10 mark (n / 256))) (.inr ⟨by show (46 : Int) ≠ 95; decide, by show ¬ dgOf (46 : Int) < 16; decide⟩) true
  obtain ⟨m2, hm2, hs2⟩ := sdig_num h10 mark hn8 (rest := []) (.inl rfl) false
  rw [List.append_nil] at hs2
  obtain ⟨d, hd, -, hc⟩ := base_ch 10 (by decide) mark hn8 []
  rw [List.append_nil, if_pos (by omega)] at hc
  unfold numSpec
  rw [if_neg (by simp [chOf]), if_neg (by simp [chOf]), if_pos (by simp [chOf])]
  unfold shex
  simp only [List.tail_cons]
  rw [hs]; simp only
  have hf : sfrac 16 (ascI (46 :: 112 :: baseL 10 mark (n / 256))) m = some (ascI (112 :: baseL 10 mark (n / 256)), m + 0, true) := by
    unfold sfrac
    rw [if_pos (show chOf (ascI (46 :: 112 :: baseL 10 mark (n / 256))) = 46 from rfl)]
    show (match sdig 16 (ascI (112 :: baseL 10 mark (n / 256))) false with | some (l', m_1) => some (l', m + m_1, true) | none => none) = _
    rw [sdig_stop (.inr ⟨by show (112 : Int) ≠ 95; decide, by show ¬ dgOf (112 : Int) < 16; decide⟩) false]
  rw [hf]; simp only
  rw [sexp_at (l := ascI (112 :: baseL 10 mark (n / 256))) (r := []) (c := 112) (m := m2) rfl (.inl rfl) (by
    show sdig 10 (if chOf (ascI (baseL 10 mark (n / 256))) = 43 ∨ chOf (ascI (baseL 10 mark (n / 256))) = 45 then (ascI (baseL 10 mark (n / 256))).tail else ascI (baseL 10 mark (n / 256))) false = _
    rw [hc, if_neg (by omega)]; exact hs2) hm2]
  simp only
  rw [if_neg (by simp; omega)]
  rfl
end Go.Proofs.YtmfihkgbfoapaaaDoor
namespace Go.Proofs.YtmfihkgbfoapaaaDoor
set_option linter.unusedVariables false
set_option linter.unusedSimpArgs false
open Go Go.RowKit Go.Lib Go.BigFrame Go.Proofs.YtmfihkgbfoapaaaDoorW.PrintWords
theorem items_mem {l : List UInt8} : ∀ c ∈ items l, ∃ l', 0 < l'.length ∧ c = hdItem l' := by
  induction hn : l.length using Nat.strongRecOn generalizing l with
  | _ n ih =>
    subst hn
    by_cases h : 0 < l.length
    · rw [items_cons h]
      intro c hc
      rcases List.mem_cons.1 hc with rfl | hc
      · exact ⟨l, h, rfl⟩
      · have := hd_pos l
        exact ih (l.drop (hd l).2).length (by rw [List.length_drop]; omega) rfl c hc
    · have : l = [] := List.eq_nil_of_length_eq_zero (by omega)
      subst this; rw [items_nil]; intro c hc; cases hc
theorem bad_byte {l : List UInt8} {c : Item} (hc : c ∈ items l) (hb : c.bad = true) : ∃ b : UInt8, c.bs = [b] ∧ 128 ≤ b.toNat := by
  obtain ⟨l', h, rfl⟩ := items_mem c hc
  unfold Item.bad at hb
  simp only [Bool.and_eq_true, beq_iff_eq] at hb
  obtain ⟨h1, h2⟩ := hb
  cases l' with
  | nil => simp at h
  | cons b t =>
    refine ⟨b, ?_, ?_⟩
    · have hn := hdItem_n (l := b :: t) (by simp)
      unfold Item.n at hn
      rw [hn] at h2
      unfold hdItem
      simp only
      rw [h2]; rfl
    · rcases Nat.lt_or_ge b.toNat 128 with h3 | h3
      · have h4 : hd (b :: t) = (b.toNat, 1) := hd_ascii (l := b :: t) (by show b.toNat < 128; exact h3)
        have h5 : (hd (b :: t)).1 = 65533 := h1
        rw [h4] at h5
        have h6 : b.toNat = 65533 := h5
        omega
      · exact h3
theorem digRun_all {b : Int} : ∀ (X rest : List Item), (∀ c ∈ X, digVal (c.r : Int) < b) → digRun b X.length (X ++ rest) = (rest, 0)
  | [], rest, _ => rfl
  | c :: X, rest, h => by
    show digRun b (X.length + 1) (c :: (X ++ rest)) = _
    rw [digRun, if_pos (by exact h c List.mem_cons_self)]
    exact digRun_all X rest fun x hx => h x (List.mem_cons_of_mem _ hx)
theorem dig_tab : ((List.range 16).all fun d => decide (digVal ((dgB d).toNat : Int) = d)) = true := by kernel_rfl
theorem dig_dgB {d : Nat} (h : d < 16) : digVal ((dgB d).toNat : Int) = d := by
  have := List.all_eq_true.1 dig_tab d (List.mem_range.2 h)
  simpa using this
theorem base_digs (b : Nat) (hb : 2 ≤ b ∧ b ≤ 16) : ∀ (f n : Nat), ∀ c ∈ ascI (baseF b false f n), digVal (c.r : Int) < b
  | 0, n => fun x hx => by cases hx
  | f + 1, n => by
    have hd : ∀ c ∈ ascI [dgB (n % b)], digVal (c.r : Int) < b := fun c hc => by
      have hlt : n % b < b := Nat.mod_lt _ (by omega)
      have e : c = ⟨(dgB (n % b)).toNat, [dgB (n % b)]⟩ := List.mem_singleton.1 hc
      rw [e]
      show digVal ((dgB (n % b)).toNat : Int) < b
      rw [dig_dgB (by omega)]; omega
    unfold baseF
    split
    · exact hd
    · intro c hc
      rw [ascI_append] at hc
      rcases List.mem_append.1 hc with h | h
      · exact base_digs b hb f _ c h
      · exact hd c h
theorem base_len (b : Nat) (hb : 2 ≤ b) : ∀ (k f n : Nat), n < b ^ (k + 1) → (baseF b false f n).length ≤ k + 1
  | _, 0, _, _ => Nat.zero_le _
  | 0, f + 1, n, h => by
    unfold baseF
    rw [if_pos (Nat.div_eq_of_lt (by simpa using h))]
    exact Nat.le_refl _
  | k + 1, f + 1, n, h => by
    unfold baseF
    split
    · simp
    · have h1 : n / b < b ^ (k + 1) := by
        rw [Nat.pow_succ] at h
        exact (Nat.div_lt_iff_lt_mul (by omega)).2 h
      have := base_len b hb k f (n / b) h1
      simp only [Bool.false_eq_true, if_false, List.nil_append, List.length_append, List.length_cons, List.length_nil]
      omega
def padL (k : Nat) (l : List UInt8) : List UInt8 := List.replicate (k - l.length) 48 ++ l
theorem padL_len {k : Nat} {l : List UInt8} (h : l.length ≤ k) : (padL k l).length = k := by
  unfold padL
  rw [List.length_append, List.length_replicate]; omega
theorem padL_digs {k : Nat} {l : List UInt8} (h : ∀ c ∈ ascI l, digVal (c.r : Int) < 16) : ∀ c ∈ ascI (padL k l), digVal (c.r : Int) < 16 := fun c hc => by
  unfold padL at hc
  rw [ascI_append] at hc
  rcases List.mem_append.1 hc with h1 | h1
  · unfold ascI at h1
    obtain ⟨b, hb, rfl⟩ := List.mem_map.1 h1
    rw [List.eq_of_mem_replicate hb]
    have h0 := dig_dgB (d := 0) (by decide)
    show digVal ((dgB 0).toNat : Int) < 16
    rw [h0]; decide
  · exact h c h1
def innI (q : Nat) (c : Item) : List Item :=
  if c.bad = true then (if (c.bs.headD 0).toNat % 2 = 0 then ascI (92 :: 120 :: baseL 16 false (c.bs.headD 0).toNat) else ascI (92 :: baseL 8 false (c.bs.headD 0).toNat))
  else if c.r = 10 then ascI [92, 110]
  else if c.r = q ∨ c.r = 92 then ⟨92, [92]⟩ :: [c]
  else if c.r = 0 ∨ c.r = 65279 then ascI (92 :: 117 :: padL 4 (baseL 16 false c.r))
  else if 65535 < c.r then ascI (92 :: 85 :: padL 8 (baseL 16 false c.r))
  else [c]
theorem strRun_esc0 {q : Int} (hq : q ≠ 92) {l rest : List Item} (h : chOf l = 92) (he : escRun q l = (rest, 0)) : strRun q l = ((strRun q rest).1, (strRun q rest).2.1 + 1, (strRun q rest).2.2) := by
  rw [strRun_esc (by rw [h]; exact fun e => hq e.symm) h, he]
  simp
theorem byte_tab : ((List.range 128).all fun k => (baseL 16 false (k + 128)).length == 2 && (baseL 8 false (k + 128)).length == 3 && ((baseL 8 false (k + 128)).headD 0 == 50 || (baseL 8 false (k + 128)).headD 0 == 51)) = true := by kernel_rfl
theorem esc_at (q : Int) (l : List Item) (k : Int) (h : chOf l.tail = k) : escRun q l = if k = 97 ∨ k = 98 ∨ k = 102 ∨ k = 110 ∨ k = 114 ∨ k = 116 ∨ k = 118 ∨ k = 92 ∨ k = q then (l.tail.tail, 0) else if 48 ≤ k ∧ k ≤ 55 then digRun 8 3 l.tail else if k = 120 then digRun 16 2 l.tail.tail else if k = 117 then digRun 16 4 l.tail.tail else if k = 85 then digRun 16 8 l.tail.tail else (l.tail, 1) := by subst h; rfl
theorem esc_x {q : Int} (hq : q = 34 ∨ q = 39) {X rest : List Item} (hl : X.length = 2) (hX : ∀ c ∈ X, digVal (c.r : Int) < 16) : escRun q (⟨92, [92]⟩ :: ⟨120, [120]⟩ :: (X ++ rest)) = (rest, 0) := by
  rw [esc_at _ _ 120 rfl, if_neg (by omega), if_neg (by omega), if_pos rfl]
  have := digRun_all X rest hX
  rw [hl] at this
  exact this
theorem esc_u {q : Int} (hq : q = 34 ∨ q = 39) {X rest : List Item} (hl : X.length = 4) (hX : ∀ c ∈ X, digVal (c.r : Int) < 16) : escRun q (⟨92, [92]⟩ :: ⟨117, [117]⟩ :: (X ++ rest)) = (rest, 0) := by
  rw [esc_at _ _ 117 rfl, if_neg (by omega), if_neg (by omega), if_neg (by omega), if_pos rfl]
  have := digRun_all X rest hX
  rw [hl] at this
  exact this
theorem esc_U {q : Int} (hq : q = 34 ∨ q = 39) {X rest : List Item} (hl : X.length = 8) (hX : ∀ c ∈ X, digVal (c.r : Int) < 16) : escRun q (⟨92, [92]⟩ :: ⟨85, [85]⟩ :: (X ++ rest)) = (rest, 0) := by
  rw [esc_at _ _ 85 rfl, if_neg (by omega), if_neg (by omega), if_neg (by omega), if_neg (by omega), if_pos rfl]
  have := digRun_all X rest hX
  rw [hl] at this
  exact this
theorem esc_o {q : Int} (hq : q = 34 ∨ q = 39) {X rest : List Item} (hl : X.length = 3) (h0 : chOf X = 50 ∨ chOf X = 51) (hX : ∀ c ∈ X, digVal (c.r : Int) < 8) : escRun q (⟨92, [92]⟩ :: (X ++ rest)) = (rest, 0) := by
  have e : chOf (X ++ rest) = chOf X := by
    cases X with
    | nil => simp at hl
    | cons c X => rfl
  rw [esc_at q (⟨92, [92]⟩ :: (X ++ rest)) (chOf X) e, if_neg (by omega), if_pos (by omega)]
  have := digRun_all X rest hX
  rw [hl] at this
  exact this
theorem esc_1 {q k : Int} {c : Item} (hc : (c.r : Int) = k) (hk : k = 110 ∨ k = 92 ∨ k = q) (rest : List Item) : escRun q (⟨92, [92]⟩ :: c :: rest) = (rest, 0) := by
  rw [esc_at q (⟨92, [92]⟩ :: c :: rest) k hc, if_pos (by omega)]
  rfl
theorem ascI_len (l : List UInt8) : (ascI l).length = l.length := List.length_map ..
theorem inn_run {s : List UInt8} {c : Item} (hc : c ∈ items s) {q : Nat} (hq : q = 34 ∨ q = 39) (rest : List Item) :
    strRun (q : Int) (innI q c ++ rest) = ((strRun (q : Int) rest).1, (strRun (q : Int) rest).2.1 + 1, (strRun (q : Int) rest).2.2) := by
  have hq92 : (q : Int) ≠ 92 := by omega
  have hqq : (q : Int) = 34 ∨ (q : Int) = 39 := by omega
  have hr := items_rune (src := s) hc
  unfold innI
  by_cases hb : c.bad = true
  · rw [if_pos hb]
    obtain ⟨b, hbs, h128⟩ := bad_byte hc hb
    have hb2 := UInt8.toNat_lt b
    have ht := List.all_eq_true.1 byte_tab (b.toNat - 128) (List.mem_range.2 (by omega))
    rw [show b.toNat - 128 + 128 = b.toNat by omega] at ht
    simp only [Bool.and_eq_true, Bool.or_eq_true, beq_iff_eq] at ht
    obtain ⟨⟨t1, t2⟩, t3⟩ := ht
    have e : (c.bs.headD 0).toNat = b.toNat := by rw [hbs]; rfl
    rw [e]
    split
    · refine strRun_esc0 hq92 rfl ?_
      exact esc_x (q := (q : Int)) (rest := rest) hqq (X := ascI (baseL 16 false b.toNat)) (by rw [ascI_len]; exact t1) (base_digs 16 (by decide) 64 _)
    · refine strRun_esc0 hq92 rfl ?_
      refine esc_o (q := (q : Int)) (rest := rest) hqq (X := ascI (baseL 8 false b.toNat)) (by rw [ascI_len]; exact t2) ?_ (base_digs 8 (by decide) 64 _)
      cases hB : baseL 8 false b.toNat with
      | nil => rw [hB] at t2; simp at t2
      | cons x t =>
        rw [hB] at t3
        show ((x.toNat : Nat) : Int) = 50 ∨ ((x.toNat : Nat) : Int) = 51
        simp only [List.headD_cons] at t3
        rcases t3 with rfl | rfl
        · left; rfl
        · right; rfl
  rw [if_neg hb]
  by_cases h10 : c.r = 10
  · rw [if_pos h10]
    exact strRun_esc0 hq92 rfl (esc_1 (k := 110) (c := ⟨110, [110]⟩) rfl (.inl rfl) rest)
  rw [if_neg h10]
  by_cases hqc : c.r = q ∨ c.r = 92
  · rw [if_pos hqc]
    exact strRun_esc0 hq92 rfl (esc_1 (k := (c.r : Int)) (c := c) rfl (by omega) rest)
  rw [if_neg hqc]
  by_cases h0 : c.r = 0 ∨ c.r = 65279
  · rw [if_pos h0]
    refine strRun_esc0 hq92 rfl ?_
    refine esc_u (q := (q : Int)) (rest := rest) hqq (X := ascI (padL 4 (baseL 16 false c.r))) (by rw [ascI_len]; exact padL_len (base_len 16 (by decide) 3 64 _ (by omega))) (padL_digs (base_digs 16 (by decide) 64 _))
  rw [if_neg h0]
  by_cases hbig : 65535 < c.r
  · rw [if_pos hbig]
    refine strRun_esc0 hq92 rfl ?_
    refine esc_U (q := (q : Int)) (rest := rest) hqq (X := ascI (padL 8 (baseL 16 false c.r))) (by rw [ascI_len]; exact padL_len (base_len 16 (by decide) 7 64 _ (by omega))) (padL_digs (base_digs 16 (by decide) 64 _))
  rw [if_neg hbig]
  have e : chOf ([c] ++ rest) = (c.r : Int) := rfl
  rw [strRun_step (l := [c] ++ rest) (by rw [e]; omega) (by rw [e]; omega) (by rw [e]; omega) (by rw [e]; omega)]
  rfl
theorem digs_asc {l : List UInt8} (h : ∀ b ∈ l, 0 < b.toNat ∧ b.toNat < 128) {x y : UInt8} (hx : 0 < x.toNat ∧ x.toNat < 128) (hy : 0 < y.toNat ∧ y.toNat < 128) : Fine (ascI (x :: y :: l)) :=
  asc_fine fun b hb => by
    rcases List.mem_cons.1 hb with rfl | hb
    · exact hx
    · rcases List.mem_cons.1 hb with rfl | hb
      · exact hy
      · exact h b hb
theorem pad_asc {k : Nat} {l : List UInt8} (h : ∀ b ∈ l, 0 < b.toNat ∧ b.toNat < 128) : ∀ b ∈ padL k l, 0 < b.toNat ∧ b.toNat < 128 := fun b hb => by
  unfold padL at hb
  rcases List.mem_append.1 hb with h1 | h1
  · rw [List.eq_of_mem_replicate h1]; decide
  · exact h b h1
theorem base_fine (b : Nat) (hb : 2 ≤ b ∧ b ≤ 16) (mark : Bool) (n : Nat) : ∀ x ∈ baseL b mark n, 0 < x.toNat ∧ x.toNat < 128 := base_asc b hb mark 64 n
theorem inn_fine {s : List UInt8} {c : Item} (hc : c ∈ items s) {q : Nat} (hq : q = 34 ∨ q = 39) : Fine (innI q c) := by
  have hg := items_good (l := s) c hc
  unfold innI
  by_cases hb : c.bad = true
  · rw [if_pos hb]
    split
    · exact digs_asc (base_fine 16 (by decide) false _) (by decide) (by decide)
    · refine asc_fine fun b hb => ?_
      rcases List.mem_cons.1 hb with rfl | hb
      · decide
      · exact base_fine 8 (by decide) false _ b hb
  rw [if_neg hb]
  have hb0 : c.bad = false := by simpa using hb
  have one : ¬ (c.r = 0 ∨ c.r = 65279) → c.ok ∧ okc c = true := fun h => ⟨hg hb0, by
    unfold okc
    rw [hb0]
    simp
    omega⟩
  split
  · exact asc_fine (by decide)
  · split
    · rename_i h1 h2
      intro x hx
      rcases List.mem_cons.1 hx with rfl | hx
      · exact asc_fine (l := [92]) (by decide) _ List.mem_cons_self
      · rw [List.mem_singleton] at hx
        rw [hx]
        by_cases hz : c.r = 0 ∨ c.r = 65279
        · omega
        · exact one hz
    · split
      · exact digs_asc (pad_asc (base_fine 16 (by decide) false _)) (by decide) (by decide)
      · split
        · exact digs_asc (pad_asc (base_fine 16 (by decide) false _)) (by decide) (by decide)
        · rename_i h3 h4
          intro x hx
          rw [List.mem_singleton] at hx
          rw [hx]
          exact one h3
def inner (q most : Nat) (s : List UInt8) : List Item := ((items s).take most).flatMap (innI q)
theorem flat_run {q : Nat} (hq : q = 34 ∨ q = 39) {s : List UInt8} : ∀ (L : List Item), (∀ c ∈ L, c ∈ items s) → ∀ rest : List Item, chOf rest = (q : Int) → strRun (q : Int) (L.flatMap (innI q) ++ rest) = (rest, L.length, 0)
  | [], _, rest, h => strRun_stop h
  | c :: L, hL, rest, h => by
    rw [List.flatMap_cons, List.append_assoc, inn_run (hL c List.mem_cons_self) hq, flat_run hq L (fun x hx => hL x (List.mem_cons_of_mem _ hx)) rest h]
    rfl
theorem inner_run {q : Nat} (hq : q = 34 ∨ q = 39) (most : Nat) (s : List UInt8) (rest : List Item) (h : chOf rest = (q : Int)) : strRun (q : Int) (inner q most s ++ rest) = (rest, ((items s).take most).length, 0) :=
  flat_run (s := s) hq _ (fun c hc => List.mem_of_mem_take hc) rest h
theorem inner_fine {q : Nat} (hq : q = 34 ∨ q = 39) (most : Nat) (s : List UInt8) : Fine (inner q most s) := fun x hx => by
  unfold inner at hx
  obtain ⟨c, hc, hx⟩ := List.mem_flatMap.1 hx
  exact inn_fine (List.mem_of_mem_take hc) hq x hx
def filt (p : Nat → Bool) (s : List UInt8) : List Item := (items s).filter fun c => !c.bad && p c.r
theorem filt_fine {p : Nat → Bool} (h0 : p 0 = false) (h1 : p 65279 = false) (s : List UInt8) : Fine (filt p s) := fun x hx => by
  unfold filt at hx
  obtain ⟨hm, hp⟩ := List.mem_filter.1 hx
  simp only [Bool.and_eq_true, Bool.not_eq_true'] at hp
  refine ⟨items_good x hm hp.1, ?_⟩
  unfold okc
  rw [hp.1]
  have e0 : x.r ≠ 0 := fun e => by rw [e, h0] at hp; cases hp.2
  have e1 : x.r ≠ 65279 := fun e => by rw [e, h1] at hp; cases hp.2
  simp [e0, e1]
def woP (other : Nat) (r : Nat) : Bool := r != 0 && r != 65279 && r != other
def without (other : Nat) (s : List UInt8) : List Item := filt (woP other) s
theorem without_fine (other : Nat) (s : List UInt8) : Fine (without other s) := filt_fine rfl (by unfold woP; rfl) s
theorem without_ne (other : Nat) (s : List UInt8) : ∀ c ∈ without other s, c.r ≠ other := fun c hc => by
  unfold without filt at hc
  have h := (List.mem_filter.1 hc).2
  unfold woP at h
  simp at h
  exact h.2.2
def letP (r : Nat) : Bool := isLet (r : Int)
theorem let_bom : isLetterU 65279 = false := by kernel_rfl
def letters (s : List UInt8) : List Item := if filt letP s = [] then ascI [97] else filt letP s
theorem letters_all (s : List UInt8) : (∀ c ∈ letters s, isLet (c.r : Int) = true) ∧ letters s ≠ [] := by
  unfold letters
  split
  · refine ⟨fun c hc => ?_, by unfold ascI; simp⟩
    have e : c = ⟨97, [97]⟩ := List.mem_singleton.1 hc
    rw [e]
    show isLet 97 = true
    kernel_rfl
  · rename_i h
    refine ⟨fun c hc => ?_, h⟩
    unfold filt at hc
    have h2 := (List.mem_filter.1 hc).2
    simp only [Bool.and_eq_true] at h2
    exact h2.2
theorem letters_fine (s : List UInt8) : Fine (letters s) := by
  unfold letters
  split
  · exact asc_fine (by decide)
  · refine filt_fine ?_ ?_ s
    · unfold letP isLet; rfl
    · unfold letP isLet
      show ((65279 : Int) == 95 || (decide ((0 : Int) < 65279) && isLetterU 65279)) = false
      rw [let_bom]; rfl
def pieceI (kind n : Nat) (s : List UInt8) : List Item :=
  if kind = 1 then ascI (numT (n % 4) n (n.testBit 3))
  else if kind = 2 then ascI (fltT (n % 4) n (n.testBit 3))
  else if kind = 3 then (if s = [] then ascI [39, 92, 85, 48, 48, 49, 48, 102, 102, 102, 102, 39] else ⟨39, [39]⟩ :: (inner 39 1 s ++ [⟨39, [39]⟩]))
  else if kind = 4 then ⟨34, [34]⟩ :: (inner 34 s.length s ++ [⟨34, [34]⟩])
  else if kind = 5 then ⟨96, [96]⟩ :: (without 96 s ++ [⟨96, [96]⟩])
  else if kind = 6 then (if n % 2 = 0 then ⟨47, [47]⟩ :: ⟨47, [47]⟩ :: without 10 s else ⟨47, [47]⟩ :: ⟨42, [42]⟩ :: (without 42 s ++ [⟨42, [42]⟩, ⟨47, [47]⟩]))
  else letters s
def wrC : Cfg := ⟨500, 4294977024, idGo⟩
theorem wr_bits : hasBit wrC.mode 4 = true ∧ hasBit wrC.mode 24 = true ∧ hasBit wrC.mode 16 = true ∧ hasBit wrC.mode 64 = true ∧ hasBit wrC.mode 32 = true ∧ hasBit wrC.mode 128 = true ∧ hasBit wrC.mode 256 = true ∧ hasBit wrC.mode 512 = false := by
  refine ⟨?_, ?_, ?_, ?_, ?_, ?_, ?_, ?_⟩ <;> kernel_rfl
end Go.Proofs.YtmfihkgbfoapaaaDoor
