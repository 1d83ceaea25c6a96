/- Own texts X0 of this claim, cut to what the claim uses. -/
import Derived.Test.YtmfihkgbfoapaaaDoorZP0
namespace Go.Proofs.YtmfihkgbfoapaaaDoor
set_option linter.unusedVariables false
set_option linter.unusedSimpArgs false
open Go Go.RowKit Go.Lib
def isLet (c : Int) : Bool := c == 95 || (decide (0 < c) && isLetterU c)
def dgOf (c : Int) : Int := if isDec c = true then c - 48 else if 97 ≤ c ∧ c ≤ 102 then c - 87 else if 65 ≤ c ∧ c ≤ 70 then c - 55 else 16
def sdig (b : Int) : List Item → Bool → Option (List Item × Nat)
  | [], _ => some ([], 0)
  | c :: l, p =>
    if (c.r : Int) = 95 then (if p = true ∧ dgOf (chOf l) < b then sdig b l true else none)
    else if dgOf c.r < b then (sdig b l true).map fun x => (x.1, x.2 + 1)
    else some (c :: l, 0)
def sexp (s g : Int) (l : List Item) : Option (List Item × Bool) :=
  if chOf l = s ∨ chOf l = g then
    match sdig 10 (if chOf l.tail = 43 ∨ chOf l.tail = 45 then l.tail.tail else l.tail) false with
    | some (l', n) => if n = 0 then none else some (l', true)
    | none => none
  else some (l, false)
def sfrac (b : Int) (l : List Item) (n : Nat) : Option (List Item × Nat × Bool) :=
  if chOf l = 46 then
    match sdig b l.tail false with
    | some (l', m) => some (l', n + m, true)
    | none => none
  else some (l, n, false)
def send (k : Int) (l : List Item) : Int := if l = [] then k else 0
def shex (t : List Item) : Int :=
  match sdig 16 t.tail.tail true with
  | none => 0
  | some (l, n) => match sfrac 16 l n with
    | none => 0
    | some (l2, n2, pt) => match sexp 112 80 l2 with
      | none => 0
      | some (l3, had) => if n2 = 0 ∨ (pt = true ∧ had = false) then 0 else if had = true then send (-4) l3 else send (-3) l3
def is89 (c : Item) : Bool := c.r == 56 || c.r == 57
def sdec (t : List Item) : Int :=
  match sdig 10 t false with
  | none => 0
  | some (l, n) => match sfrac 10 l n with
    | none => 0
    | some (l2, n2, pt) => match sexp 101 69 l2 with
      | none => 0
      | some (l3, had) => if n2 = 0 then 0 else if pt = true ∨ had = true then send (-4) l3
        else if 1 < (t.take (t.length - l.length)).length ∧ chOf t = 48 ∧ (t.take (t.length - l.length)).any is89 = true then 0 else send (-3) l3
def sbin (b : Int) (t : List Item) : Int :=
  match sdig b t.tail.tail true with
  | none => 0
  | some (l, n) => if n = 0 then 0 else send (-3) l
def numSpec (t : List Item) : Int :=
  if chOf t = 48 ∧ (chOf t.tail = 98 ∨ chOf t.tail = 66) then sbin 2 t
  else if chOf t = 48 ∧ (chOf t.tail = 111 ∨ chOf t.tail = 79) then sbin 8 t
  else if chOf t = 48 ∧ (chOf t.tail = 120 ∨ chOf t.tail = 88) then shex t
  else sdec t
theorem dgOf_cases {c : Int} (h : dgOf c < 16) : (48 ≤ c ∧ c ≤ 57) ∨ (97 ≤ c ∧ c ≤ 102) ∨ (65 ≤ c ∧ c ≤ 70) := by
  unfold dgOf isDec at h
  simp only [Bool.and_eq_true, decide_eq_true_eq] at h
  split at h
  · omega
  · split at h
    · omega
    · split at h
      · omega
      · omega
theorem isDec_iff {c : Int} : isDec c = true ↔ 48 ≤ c ∧ c ≤ 57 := by unfold isDec; simp
theorem dgOf_dec {c : Int} (h : isDec c = true) : dgOf c = c - 48 := by unfold dgOf; rw [if_pos h]
theorem dgOf_ten {c : Int} : dgOf c < 10 ↔ isDec c = true := by
  rw [isDec_iff]
  unfold dgOf isDec
  simp only [Bool.and_eq_true, decide_eq_true_eq]
  repeat' split
  all_goals omega
theorem dgOf_lt {c b : Int} (h : dgOf c < b) (hb : b ≤ 10) : 48 ≤ c ∧ c < 48 + b := by
  have h1 := (isDec_iff (c := c)).1 (dgOf_ten.1 (by omega))
  rw [dgOf_dec (isDec_iff.2 h1)] at h
  omega
theorem dgOf_end : dgOf (-1) = 16 := by decide
theorem lower_nat (n : Nat) (h : n < 2147483648) : lowerOf (n : Int) = ((32 ||| n : Nat) : Int) :=
  (bits_nat .i32 31 (by decide) (fun m h0 h1 => by rw [IntKind.wrap_i32]; omega) 32 n (by decide) h).2
theorem low_tab : ((List.range 128).all fun n => decide ((32 ||| n) = if n / 32 % 2 = 1 then n else n + 32)) = true := by decide +kernel
theorem lower_char {c k : Int} (hc : -1 ≤ c ∧ c ≤ 1114111) (hk : 97 ≤ k ∧ k ≤ 122) : lowerOf c = k ↔ c = k ∨ c = k - 32 := by
  by_cases h1 : c = -1
  · subst h1
    have : lowerOf (-1) = -1 := by decide +kernel
    rw [this]; omega
  · obtain ⟨n, rfl⟩ : ∃ n : Nat, c = n := ⟨c.toNat, by omega⟩
    rw [lower_nat n (by omega)]
    by_cases h2 : n < 128
    · have := List.all_eq_true.1 low_tab n (List.mem_range.2 h2)
      rw [decide_eq_true_eq] at this
      rw [this]
      split <;> omega
    · have : n ≤ 32 ||| n := Nat.right_le_or
      omega
theorem isHexa_iff {c : Int} (hc : -1 ≤ c ∧ c ≤ 1114111) : isHexa c = true ↔ dgOf c < 16 := by
  constructor
  · intro h
    unfold isHexa at h
    rw [Bool.or_eq_true] at h
    rcases h with h | h
    · rw [dgOf_dec h]; have := isDec_iff.1 h; omega
    · rw [Bool.and_eq_true, decide_eq_true_eq, decide_eq_true_eq] at h
      have h2 := (lower_char (k := lowerOf c) hc (by omega)).1 rfl
      unfold dgOf isDec
      simp only [Bool.and_eq_true, decide_eq_true_eq]
      repeat' split
      all_goals omega
  · intro h
    unfold isHexa
    rw [Bool.or_eq_true]
    rcases dgOf_cases h with h | h | h
    · exact .inl (isDec_iff.2 h)
    · right
      rw [Bool.and_eq_true, decide_eq_true_eq, decide_eq_true_eq, (lower_char (k := c) hc (by omega)).2 (.inl rfl)]
      omega
    · right
      rw [Bool.and_eq_true, decide_eq_true_eq, decide_eq_true_eq, (lower_char (k := c + 32) hc (by omega)).2 (.inr (by omega))]
      omega
def isD (c : Item) : Bool := !(c.r == 95)
def chB (c : Item) : UInt8 := UInt8.ofNat c.r
theorem chB_nat {c : Item} (h : c.r < 128) : (chB c).toNat = c.r := by
  unfold chB
  rw [UInt8.toNat_ofNat']
  omega
theorem cond_t {b : Int} (h : b = 16 ∨ (2 ≤ b ∧ b ≤ 10)) : (2 ≤ b ∧ b ≤ 10) ∨ (b = 16 ∧ true = true) := by
  rcases h with h | h
  · exact .inr ⟨h, rfl⟩
  · exact .inl h
theorem sdig_law {b : Int} {hx : Bool} (hb : (2 ≤ b ∧ b ≤ 10) ∨ (b = 16 ∧ hx = true)) : ∀ (l : List Item) (p : Bool) (l' : List Item) (n : Nat), sdig b l p = some (l', n) →
    ∃ pre, l = pre ++ l' ∧ (n = 0 → pre = []) ∧ (n ≠ 0 → pre.any isD = true) ∧ (∀ c ∈ pre, (c.r : Int) = 95 ∨ dgOf c.r < b) ∧ (l' = [] ∨ (chOf l' ≠ 95 ∧ ¬ dgOf (chOf l') < b)) ∧
      (∀ d s, (p = true → d = 48) → sepGo hx d (pre.map chB ++ s) = sepGo hx (if n = 0 then d else 48) s)
  | [], p, l', n, h => by
    simp only [sdig, Option.some.injEq, Prod.mk.injEq] at h
    obtain ⟨rfl, rfl⟩ := h
    exact ⟨[], rfl, fun _ => rfl, fun h => absurd rfl h, (fun c hc => by cases hc), .inl rfl, fun d s _ => rfl⟩
  | c :: l, p, l', n, h => by
    have hb16 : b ≤ 16 := by omega
    unfold sdig at h
    by_cases h1 : (c.r : Int) = 95
    · rw [if_pos h1] at h
      by_cases h2 : p = true ∧ dgOf (chOf l) < b
      · rw [if_pos h2] at h
        obtain ⟨pre, rfl, a1, a2, a3, a4, a5⟩ := sdig_law hb l true l' n h
        have hn : n ≠ 0 := by
          intro hn
          have := a1 hn
          subst this
          rcases a4 with a4 | a4
          · subst a4
            exact absurd h2.2 (by show ¬ dgOf (-1) < b; rw [dgOf_end]; omega)
          · exact a4.2 h2.2
        refine ⟨c :: pre, rfl, fun e => absurd e hn, fun _ => ?_, ?_, a4, fun d s hd => ?_⟩
        · rw [List.any_cons, a2 hn, Bool.or_true]
        · intro x hx
          rcases List.mem_cons.1 hx with rfl | hx
          · exact .inl h1
          · exact a3 x hx
        · rw [if_neg hn, List.map_cons, List.cons_append, sep_b (by rw [chB_nat (by omega)]; exact h1) (hd h2.1)]
          -- from '_' on: a digit must follow
          cases pre with
          | nil => exact absurd (a2 hn) (by simp)
          | cons x pre =>
            have hx1 : dgOf x.r < b := h2.2
            have h3 := a5 48 s (fun _ => rfl)
            rw [if_neg hn] at h3
            rw [List.map_cons, List.cons_append] at h3 ⊢
            have c16 := dgOf_cases (c := (x.r : Int)) (by omega)
            have hne : ((chB x).toNat : Int) ≠ 95 := by rw [chB_nat (by omega)]; omega
            have hdg : isDec (chB x).toNat = true ∨ (hx = true ∧ isHexa (chB x).toNat = true) := by
              rw [chB_nat (by omega)]
              rcases hb with hb | hb
              · exact .inl (dgOf_ten.1 (by omega))
              · exact .inr ⟨hb.2, (isHexa_iff (by omega)).2 (by omega)⟩
            rw [sep_c hne hdg] at h3 ⊢
            exact h3
      · rw [if_neg h2] at h; cases h
    · rw [if_neg h1] at h
      by_cases h2 : dgOf c.r < b
      · rw [if_pos h2] at h
        cases hs : sdig b l true with
        | none => rw [hs] at h; cases h
        | some x =>
          rw [hs] at h
          obtain ⟨y, m⟩ := x
          simp only [Option.map_some, Option.some.injEq, Prod.mk.injEq] at h
          obtain ⟨rfl, rfl⟩ := h
          obtain ⟨pre, rfl, a1, a2, a3, a4, a5⟩ := sdig_law hb l true y m hs
          have c16 := dgOf_cases (c := (c.r : Int)) (by omega)
          refine ⟨c :: pre, rfl, fun e => by omega, fun _ => ?_, ?_, a4, fun d s _ => ?_⟩
          · rw [List.any_cons]
            have : isD c = true := by unfold isD; simp; omega
            rw [this, Bool.true_or]
          · intro x hx
            rcases List.mem_cons.1 hx with rfl | hx
            · exact .inr h2
            · exact a3 x hx
          · rw [if_neg (Nat.succ_ne_zero m), List.map_cons, List.cons_append]
            have hne : ((chB c).toNat : Int) ≠ 95 := by rw [chB_nat (by omega)]; omega
            have hdg : isDec (chB c).toNat = true ∨ (hx = true ∧ isHexa (chB c).toNat = true) := by
              rw [chB_nat (by omega)]
              rcases hb with hb | hb
              · exact .inl (dgOf_ten.1 (by omega))
              · exact .inr ⟨hb.2, (isHexa_iff (by omega)).2 (by omega)⟩
            rw [sep_c hne hdg, a5 48 s (fun _ => rfl)]
            simp
      · rw [if_neg h2] at h
        simp only [Option.some.injEq, Prod.mk.injEq] at h
        obtain ⟨rfl, rfl⟩ := h
        exact ⟨[], rfl, fun _ => rfl, fun h => absurd rfl h, (fun x hx => by cases hx), .inr ⟨h1, h2⟩, fun d s _ => rfl⟩
def invS (m : Int) (inv : Int) (c : Item) : Int := if (c.r : Int) ≠ 95 ∧ m ≤ (c.r : Int) ∧ inv = 0 then (c.r : Int) else inv
theorem digs_run {q : Int → Bool} {m b : Int} (hq : ∀ c : Nat, dgOf c < b → q c = true) : ∀ (pre tl : List Item) (inv : Int) (d u : Bool), (∀ c ∈ pre, (c.r : Int) = 95 ∨ dgOf c.r < b) →
    ∃ u', digs q m (pre ++ tl) inv d u = digs q m tl (pre.foldl (invS m) inv) (d || pre.any isD) u'
  | [], tl, inv, d, u, h => ⟨u, by simp⟩
  | c :: pre, tl, inv, d, u, h => by
    have hc := h c List.mem_cons_self
    have hp := fun x hx => h x (List.mem_cons_of_mem c hx)
    rw [List.cons_append, digs, List.foldl_cons, List.any_cons]
    by_cases h1 : (c.r : Int) = 95
    · rw [if_pos h1]
      obtain ⟨u', h2⟩ := digs_run (m := m) hq pre tl inv d true hp
      have e : isD c = false := by unfold isD; simp; omega
      refine ⟨u', ?_⟩
      rw [h2, e, Bool.false_or]
      unfold invS
      rw [if_neg (by simp [h1])]
    · rw [if_neg h1, if_pos (hq _ (by omega))]
      obtain ⟨u', h2⟩ := digs_run (m := m) hq pre tl (if m ≤ (c.r : Int) ∧ inv = 0 then (c.r : Int) else inv) true u hp
      have e : isD c = true := by unfold isD; simp; omega
      refine ⟨u', ?_⟩
      rw [h2, e]
      unfold invS
      by_cases hm : m ≤ (c.r : Int) ∧ inv = 0
      · rw [if_pos hm, if_pos ⟨h1, hm⟩]; simp
      · rw [if_neg hm, if_neg (by rintro ⟨-, h3⟩; exact hm h3)]; simp
theorem fold_inv {m : Int} : ∀ (pre : List Item) (inv : Int), (∀ c ∈ pre, (c.r : Int) = 95 ∨ (c.r : Int) < m) → pre.foldl (invS m) inv = inv
  | [], inv, h => rfl
  | c :: pre, inv, h => by
    have hc := h c List.mem_cons_self
    rw [List.foldl_cons]
    have e : invS m inv c = inv := by unfold invS; rw [if_neg]; omega
    rw [e]
    exact fold_inv pre inv fun x hx => h x (List.mem_cons_of_mem c hx)
structure StopAt (rest : List Item) : Prop where
  pt : chOf rest ≠ 46
  dec : isDec (chOf rest) = false
  letter : isLet (chOf rest) = false
theorem let_tab : ((List.range 128).all fun n => decide (¬ ((65 ≤ n ∧ n ≤ 90) ∨ (97 ≤ n ∧ n ≤ 122))) || isLetterU n) = true := by kernel_rfl
theorem StopAt.no {rest : List Item} (h : StopAt rest) : chOf rest ≠ 95 ∧ ¬ (65 ≤ chOf rest ∧ chOf rest ≤ 90) ∧ ¬ (97 ≤ chOf rest ∧ chOf rest ≤ 122) ∧ ¬ dgOf (chOf rest) < 16 := by
  have h1 := h.letter
  have h2 := h.dec
  unfold isLet at h1
  rw [Bool.or_eq_false_iff, beq_eq_false_iff_ne] at h1
  obtain ⟨h1, h3⟩ := h1
  have key : ∀ n : Nat, chOf rest = n → n < 128 → ¬ ((65 ≤ n ∧ n ≤ 90) ∨ (97 ≤ n ∧ n ≤ 122)) := by
    intro n hn hl hr
    have := List.all_eq_true.1 let_tab n (List.mem_range.2 hl)
    rw [Bool.or_eq_true, decide_eq_true_eq] at this
    rcases this with h | h
    · exact h hr
    · rw [hn, h, decide_eq_true (by omega)] at h3; cases h3
  have k : ¬ (65 ≤ chOf rest ∧ chOf rest ≤ 90) ∧ ¬ (97 ≤ chOf rest ∧ chOf rest ≤ 122) :=
    ⟨fun e => key (chOf rest).toNat (by omega) (by omega) (by omega), fun e => key (chOf rest).toNat (by omega) (by omega) (by omega)⟩
  refine ⟨h1, k.1, k.2, fun e => ?_⟩
  have := dgOf_cases e
  rcases this with e | e | e
  · rw [isDec_iff.2 e] at h2; cases h2
  · omega
  · omega
theorem chOf_append {l rest : List Item} (h : l ≠ []) : chOf (l ++ rest) = chOf l := by
  cases l with
  | nil => exact absurd rfl h
  | cons c l => rfl
def Rng (l : List Item) : Prop := ∀ c ∈ l, c.r ≤ 1114111
theorem Rng.ch {l : List Item} (h : Rng l) : -1 ≤ chOf l ∧ chOf l ≤ 1114111 := by
  cases l with
  | nil => exact ⟨by decide, by decide⟩
  | cons c l => have := h c List.mem_cons_self; show -1 ≤ (c.r : Int) ∧ (c.r : Int) ≤ _; omega
theorem dg_run {b B : Int} {l l' rest : List Item} {p : Bool} {n : Nat} (hs : sdig b l p = some (l', n)) (hst : StopAt rest) (hr : Rng (l ++ rest))
    (hB : (b = 16 ∧ B = 16) ∨ (b = 10 ∧ (B = 8 ∨ B = 10)) ∨ (b = B ∧ (b = 2 ∨ b = 8) ∧ l' = [])) (inv : Int) :
    ∃ u' inv', dg B (l ++ rest) inv = (l' ++ rest, inv', decide (n ≠ 0), u') ∧
      (inv' = inv ∨ (b = 10 ∧ B = 8 ∧ (l.take (l.length - l'.length)).any is89 = true)) := by
  obtain ⟨pre, rfl, a1, a2, a3, a4, -⟩ := sdig_law (hx := true) (cond_t (by omega)) l p l' n hs
  have hno := hst.no
  have hd : pre.any isD = decide (n ≠ 0) := by
    by_cases h0 : n = 0
    · rw [a1 h0]; simp [h0]
    · rw [a2 h0]; simp [h0]
  have hstop : chOf (l' ++ rest) ≠ 95 ∧ (B = 16 → ¬ dgOf (chOf (l' ++ rest)) < 16) ∧ (B ≠ 16 → isDec (chOf (l' ++ rest)) = false) := by
    by_cases hl : l' = []
    · subst hl
      rw [List.nil_append]
      exact ⟨hno.1, fun _ => hno.2.2.2, fun _ => hst.dec⟩
    · rw [chOf_append hl]
      rcases a4 with a4 | a4
      · exact absurd a4 hl
      · refine ⟨a4.1, fun e => ?_, fun e => ?_⟩
        · have : b = 16 := by omega
          rw [← this]; exact a4.2
        · have : b = 10 := by
            rcases hB with h | h | h
            · omega
            · exact h.1
            · exact absurd h.2.2 hl
          rw [this] at a4
          exact Bool.eq_false_iff.2 fun h => a4.2 (dgOf_ten.2 h)
  have hrl : Rng (l' ++ rest) := fun c hc => hr c (by rw [List.append_assoc]; exact List.mem_append_right _ hc)
  unfold dg
  by_cases h16 : B = 16
  · subst h16
    have hb : b = 16 := by omega
    subst hb
    rw [if_pos rfl, List.append_assoc]
    obtain ⟨u', hu⟩ := digs_run (q := isHexa) (m := 2147483648) (b := 16) (fun c hc => (isHexa_iff (by have := dgOf_cases hc; omega)).2 hc) pre (l' ++ rest) inv false false a3
    rw [hu, digs_stop hstop.1 (by rw [← Bool.not_eq_true, isHexa_iff hrl.ch]; exact hstop.2.1 rfl), fold_inv]
    · rw [Bool.false_or, hd]
      exact ⟨_, _, rfl, .inl rfl⟩
    · intro c hc
      have := hr c (by rw [List.append_assoc]; exact List.mem_append_left _ hc)
      omega
  · rw [if_neg h16, List.append_assoc]
    have hb10 : b ≤ 10 := by omega
    obtain ⟨u', hu⟩ := digs_run (q := isDec) (m := 48 + B) (b := b) (fun c hc => dgOf_ten.1 (by omega)) pre (l' ++ rest) inv false false a3
    rw [hu, digs_stop hstop.1 (hstop.2.2 h16)]
    rw [Bool.false_or, hd]
    refine ⟨_, _, rfl, ?_⟩
    have et : ((pre ++ l').take ((pre ++ l').length - l'.length)) = pre := by
      rw [List.length_append, Nat.add_sub_cancel, List.take_left]
    rw [et]
    by_cases h89 : ∀ c ∈ pre, (c.r : Int) = 95 ∨ (c.r : Int) < 48 + B
    · exact .inl (fold_inv pre inv h89)
    · right
      have hB8 : b = 10 ∧ B = 8 := by
        rcases hB with h | ⟨h, h2⟩ | h
        · omega
        · rcases h2 with h2 | h2
          · exact ⟨h, h2⟩
          · exfalso; apply h89
            intro c hc
            rcases a3 c hc with h3 | h3
            · exact .inl h3
            · right; have := dgOf_lt h3 (by omega); omega
        · exfalso; apply h89
          intro c hc
          rcases a3 c hc with h3 | h3
          · exact .inl h3
          · right; have := dgOf_lt h3 (by omega); omega
      refine ⟨hB8.1, hB8.2, ?_⟩
      rw [List.any_eq_true]
      refine Classical.byContradiction fun hno2 => h89 fun c hc => ?_
      rcases a3 c hc with h3 | h3
      · exact .inl h3
      · right
        have h4 := dgOf_lt h3 (by omega)
        have : is89 c = false := Bool.eq_false_iff.2 fun h => hno2 ⟨c, hc, h⟩
        unfold is89 at this
        simp at this
        omega
theorem num_dig {b B : Int} {l l' rest : List Item} {p : Bool} {n : Nat} (hs : sdig b l p = some (l', n)) (hst : StopAt rest) (hr : Rng (l ++ rest))
    (hB : (b = 16 ∧ B = 16) ∨ (b = 10 ∧ (B = 8 ∨ B = 10)) ∨ (b = B ∧ (b = 2 ∨ b = 8) ∧ l' = [])) (pr : Int) (d u : Bool) (inv tok : Int) (dot : Bool) :
    ∃ u' inv', Num.dig ⟨l ++ rest, B, pr, d, u, inv, tok, dot, 0⟩ = ⟨l' ++ rest, B, pr, d || decide (n ≠ 0), u', inv', tok, dot, 0⟩ ∧
      (inv' = inv ∨ (b = 10 ∧ B = 8 ∧ (l.take (l.length - l'.length)).any is89 = true)) := by
  obtain ⟨u', inv', h1, h2⟩ := dg_run hs hst hr hB inv
  unfold Num.dig
  simp only [h1]
  exact ⟨_, _, rfl, h2⟩
theorem sfrac_inv {b : Int} {l l2 : List Item} {n n2 : Nat} {pt : Bool} (h : sfrac b l n = some (l2, n2, pt)) :
    (pt = false ∧ l2 = l ∧ n2 = n ∧ chOf l ≠ 46) ∨ (pt = true ∧ ∃ c l1 m, l = c :: l1 ∧ (c.r : Int) = 46 ∧ sdig b l1 false = some (l2, m) ∧ n2 = n + m) := by
  unfold sfrac at h
  by_cases h1 : chOf l = 46
  · rw [if_pos h1] at h
    cases l with
    | nil => cases h1
    | cons c l1 =>
      rw [List.tail_cons] at h
      cases hs : sdig b l1 false with
      | none => rw [hs] at h; cases h
      | some x =>
        rw [hs] at h
        obtain ⟨y, m⟩ := x
        simp only [Option.some.injEq, Prod.mk.injEq] at h
        obtain ⟨rfl, rfl, rfl⟩ := h
        exact .inr ⟨rfl, c, l1, m, rfl, h1, hs, rfl⟩
  · rw [if_neg h1] at h
    simp only [Option.some.injEq, Prod.mk.injEq] at h
    obtain ⟨rfl, rfl, rfl⟩ := h
    exact .inl ⟨rfl, rfl, rfl, h1⟩
theorem sexp_inv {s g : Int} {l l' : List Item} {had : Bool} (hs0 : 0 < s) (hg0 : 0 < g) (h : sexp s g l = some (l', had)) :
    (had = false ∧ l' = l ∧ chOf l ≠ s ∧ chOf l ≠ g) ∨ (had = true ∧ ∃ c l1 l2 n, l = c :: l1 ∧ ((c.r : Int) = s ∨ (c.r : Int) = g) ∧
      ((l1 = l2 ∧ chOf l2 ≠ 43 ∧ chOf l2 ≠ 45) ∨ (∃ c2, l1 = c2 :: l2 ∧ ((c2.r : Int) = 43 ∨ (c2.r : Int) = 45))) ∧ sdig 10 l2 false = some (l', n) ∧ n ≠ 0) := by
  unfold sexp at h
  by_cases h1 : chOf l = s ∨ chOf l = g
  · rw [if_pos h1] at h
    cases l with
    | nil => rw [chOf_nil] at h1; omega
    | cons c l1 =>
      rw [List.tail_cons] at h
      by_cases h2 : chOf l1 = 43 ∨ chOf l1 = 45
      · rw [if_pos h2] at h
        cases l1 with
        | nil => rw [chOf_nil] at h2; omega
        | cons c2 l2 =>
          rw [List.tail_cons] at h
          cases hs : sdig 10 l2 false with
          | none => rw [hs] at h; cases h
          | some x =>
            rw [hs] at h
            obtain ⟨y, m⟩ := x
            simp only at h
            by_cases hm : m = 0
            · rw [if_pos hm] at h; cases h
            · rw [if_neg hm] at h
              simp only [Option.some.injEq, Prod.mk.injEq] at h
              obtain ⟨rfl, rfl⟩ := h
              exact .inr ⟨rfl, c, c2 :: l2, l2, m, rfl, h1, .inr ⟨c2, rfl, h2⟩, hs, hm⟩
      · rw [if_neg h2] at h
        cases hs : sdig 10 l1 false with
        | none => rw [hs] at h; cases h
        | some x =>
          rw [hs] at h
          obtain ⟨y, m⟩ := x
          simp only at h
          by_cases hm : m = 0
          · rw [if_pos hm] at h; cases h
          · rw [if_neg hm] at h
            simp only [Option.some.injEq, Prod.mk.injEq] at h
            obtain ⟨rfl, rfl⟩ := h
            exact .inr ⟨rfl, c, l1, l1, m, rfl, h1, .inl ⟨rfl, by omega, by omega⟩, hs, hm⟩
  · rw [if_neg h1] at h
    simp only [Option.some.injEq, Prod.mk.injEq] at h
    obtain ⟨rfl, rfl⟩ := h
    exact .inl ⟨rfl, rfl, by omega, by omega⟩
def Asc (l : List Item) : Prop := ∀ c ∈ l, c.r < 128
theorem Asc.nil : Asc [] := fun c h => by cases h
theorem Asc.cons {c : Item} {l : List Item} (h : c.r < 128) (hl : Asc l) : Asc (c :: l) := fun x hx => by
  rcases List.mem_cons.1 hx with rfl | hx
  · exact h
  · exact hl x hx
theorem Asc.app {a l : List Item} (h : Asc a) (hl : Asc l) : Asc (a ++ l) := fun x hx => by
  rcases List.mem_append.1 hx with hx | hx
  · exact h x hx
  · exact hl x hx
theorem Asc.digs {b : Int} (hb : b ≤ 16) {pre : List Item} (h : ∀ c ∈ pre, (c.r : Int) = 95 ∨ dgOf c.r < b) : Asc pre := fun c hc => by
  rcases h c hc with h | h
  · omega
  · have := dgOf_cases (c := (c.r : Int)) (by omega); omega
theorem sep_sym {hx : Bool} {d : Int} {c : Item} {s : List UInt8} (h1 : (c.r : Int) = 46 ∨ (c.r : Int) = 43 ∨ (c.r : Int) = 45 ∨ (hx = false ∧ ((c.r : Int) = 101 ∨ (c.r : Int) = 69)) ∨ (c.r : Int) = 112 ∨ (c.r : Int) = 80) (hd : d ≠ 95) :
    sepGo hx d (chB c :: s) = sepGo hx 46 s := by
  have hn := chB_nat (c := c) (by omega)
  refine sep_e (by rw [hn]; omega) ?_ ?_ hd
  · rw [hn]; exact Bool.eq_false_iff.2 fun h => by have := isDec_iff.1 h; omega
  · by_cases hh : hx = false
    · exact .inl hh
    · right
      rw [hn]
      exact Bool.eq_false_iff.2 fun h => by
        have := dgOf_cases ((isHexa_iff (by omega)).1 h)
        rcases h1 with h | h | h | h | h | h
        · omega
        · omega
        · omega
        · exact hh h.1
        · omega
        · omega
theorem exp_sep {hx : Bool} {s g : Int} {l : List Item} {had : Bool} (hs : (hx = false ∧ s = 101 ∧ g = 69) ∨ (hx = true ∧ s = 112 ∧ g = 80)) (h : sexp s g l = some ([], had)) :
    Asc l ∧ ∀ d, d ≠ 95 → sepGo hx d (l.map chB) = false := by
  have hlast : ∀ d : Int, d ≠ 95 → sepGo hx d [] = false := fun d hd => by rw [sepGo]; exact decide_eq_false hd
  rcases sexp_inv (by omega) (by omega) h with ⟨-, rfl, -⟩ | ⟨-, c, l1, l2, n, rfl, hc, hsg, hd, hn⟩
  · exact ⟨Asc.nil, hlast⟩
  · obtain ⟨pre, rfl, a1, a2, a3, a4, a5⟩ := sdig_law (hx := hx) (b := 10) (.inl (by decide)) _ _ _ _ hd
    have hA : Asc (pre ++ []) := (Asc.digs (by decide) a3).app Asc.nil
    have hS : ∀ d, sepGo hx d ((pre ++ []).map chB) = false := fun d => by
      rw [List.append_nil]
      have := a5 d [] (fun h => by cases h)
      rw [List.append_nil] at this
      rw [this, if_neg hn]
      exact hlast 48 (by decide)
    have hcs : ∀ d t, d ≠ 95 → sepGo hx d (chB c :: t) = sepGo hx 46 t := fun d t hd => sep_sym (by
      rcases hs with ⟨h1, h2, h3⟩ | ⟨h1, h2, h3⟩
      · right; right; right; left; exact ⟨h1, by clear hsg; omega⟩
      · right; right; right; right; clear hsg; omega) hd
    have hc128 : c.r < 128 := by clear hsg; omega
    rcases hsg with ⟨rfl, -, -⟩ | ⟨c2, rfl, hc2⟩
    · exact ⟨hA.cons hc128, fun d hd => by rw [List.map_cons, hcs d _ hd, hS]⟩
    · refine ⟨(hA.cons (by omega)).cons hc128, fun d hd => ?_⟩
      rw [List.map_cons, hcs d _ hd, List.map_cons, sep_sym (.inr (by omega)) (by decide), hS]
theorem frac_sep {hx : Bool} {b s g : Int} {l l2 : List Item} {n n2 : Nat} {pt had : Bool} (hs : (hx = false ∧ b = 10 ∧ s = 101 ∧ g = 69) ∨ (hx = true ∧ b = 16 ∧ s = 112 ∧ g = 80)) (hf : sfrac b l n = some (l2, n2, pt)) (h : sexp s g l2 = some ([], had)) :
    Asc l ∧ ∀ d, d ≠ 95 → sepGo hx d (l.map chB) = false := by
  have he := exp_sep (hx := hx) (hs.elim (fun h => .inl ⟨h.1, h.2.2⟩) (fun h => .inr ⟨h.1, h.2.2⟩)) h
  rcases sfrac_inv hf with ⟨-, rfl, -⟩ | ⟨-, c, l1, m, rfl, hc, hd, -⟩
  · exact he
  · obtain ⟨pre, rfl, a1, a2, a3, a4, a5⟩ := sdig_law (hx := hx) (b := b) (hs.elim (fun h => .inl (by have := h.2.1; omega)) (fun h => .inr ⟨h.2.1, h.1⟩)) _ _ _ _ hd
    refine ⟨((Asc.digs (by omega) a3).app he.1).cons (by omega), fun d hd => ?_⟩
    rw [List.map_cons, sep_sym (.inl hc) hd, List.map_append, a5 46 _ (fun h => by cases h)]
    exact he.2 _ (by split <;> decide)
theorem num_fp {b B : Int} {l l2 rest : List Item} {n n2 : Nat} {pt : Bool} (hf : sfrac b l n = some (l2, n2, pt)) (hst : StopAt rest) (hr : Rng (l ++ rest))
    (hB : (b = 16 ∧ B = 16) ∨ (b = 10 ∧ (B = 8 ∨ B = 10))) (fl : Bool) (hfl : pt = true → fl = true) (pr : Int) (hpr : pr ≠ 111 ∧ pr ≠ 98) (d u : Bool) (inv : Int) :
    ∃ u' inv', Num.frac (Num.point fl ⟨l ++ rest, B, pr, d, u, inv, -3, false, 0⟩) = ⟨l2 ++ rest, B, pr, d || decide (n2 ≠ n), u', inv', if pt = true then -4 else -3, pt, 0⟩ ∧ (pt = false → inv' = inv) := by
  rcases sfrac_inv hf with ⟨rfl, rfl, rfl, h46⟩ | ⟨rfl, c, l1, m, rfl, hc, hd, rfl⟩
  · have hne : chOf (l2 ++ rest) ≠ 46 := by
      by_cases hl : l2 = []
      · rw [hl]; exact hst.pt
      · rw [chOf_append hl]; exact h46
    have e : Num.point fl ⟨l2 ++ rest, B, pr, d, u, inv, -3, false, 0⟩ = ⟨l2 ++ rest, B, pr, d, u, inv, -3, false, 0⟩ := by
      unfold Num.point; rw [if_neg]; rintro ⟨h, -⟩; exact hne h
    rw [e]
    refine ⟨u, inv, ?_, fun _ => rfl⟩
    unfold Num.frac
    rw [if_neg (by simp)]
    simp
  · have e : Num.point fl ⟨(c :: l1) ++ rest, B, pr, d, u, inv, -3, false, 0⟩ = ⟨l1 ++ rest, B, pr, d, u, inv, -3, true, 0⟩ := by
      unfold Num.point; rw [if_pos ⟨hc, hfl rfl⟩]; rfl
    rw [e]
    obtain ⟨u', inv', h1, -⟩ := num_dig hd hst (fun x hx => hr x (List.mem_cons_of_mem c hx)) (b := b) (B := B) (by omega) pr d u inv (-4) true
    refine ⟨u', inv', ?_, fun h => by cases h⟩
    unfold Num.frac
    rw [if_pos rfl]
    simp only
    rw [if_neg (by omega), h1]
    have : decide (m ≠ 0) = decide (n + m ≠ n) := decide_eq_decide.2 (by omega)
    rw [this]
    rfl
theorem num_exp {s g : Int} {l rest : List Item} {had : Bool} (hst : StopAt rest) (hr : Rng (l ++ rest)) (h : sexp s g l = some ([], had)) (fl : Bool) (hfl : had = true → fl = true) (B pr : Int) (u : Bool) (inv tok : Int) (dot : Bool)
    (hs : (s = 101 ∧ g = 69 ∧ (pr = 0 ∨ pr = 48)) ∨ (s = 112 ∧ g = 80 ∧ pr = 120 ∧ (tok = -4 → had = true))) :
    ∃ u', Num.exp fl ⟨l ++ rest, B, pr, true, u, inv, tok, dot, 0⟩ = ⟨rest, B, pr, true, u', inv, if had = true then -4 else tok, dot, 0⟩ := by
  rcases sexp_inv (by omega) (by omega) h with ⟨rfl, rfl, -⟩ | ⟨rfl, c, l1, l2, n, rfl, hc, hsg, hd, hn⟩
  · refine ⟨u, ?_⟩
    have hno := hst.no
    have hrg : Rng rest := fun x hx => hr x (List.mem_append_right _ hx)
    rw [List.nil_append]
    unfold Num.exp
    simp only
    rw [if_neg, if_neg]
    · simp
    · rintro ⟨e1, e2⟩
      rcases hs with h1 | h1
      · omega
      · have := h1.2.2.2 e2; cases this
    · rintro ⟨e1, -⟩
      rcases e1 with e1 | e1
      · have := (lower_char hrg.ch (by decide)).1 e1; omega
      · have := (lower_char hrg.ch (by decide)).1 e1; omega
  · have hl2 : l2 ≠ [] := by
      rintro rfl
      simp only [sdig, Option.some.injEq, Prod.mk.injEq] at hd
      exact hn hd.2.symm
    have hr1 : Rng (l2 ++ rest) := by
      rcases hsg with ⟨rfl, -, -⟩ | ⟨c2, rfl, -⟩
      · exact fun x hx => hr x (List.mem_cons_of_mem c hx)
      · exact fun x hx => hr x (List.mem_cons_of_mem c (List.mem_cons_of_mem c2 hx))
    obtain ⟨u', inv', h1, -⟩ := dg_run (b := 10) (B := 10) hd hst hr1 (by omega) 0
    have hcr : lowerOf (chOf (c :: l1 ++ rest)) = s := by
      have := hr c (by simp)
      clear hsg
      exact (lower_char (c := (c.r : Int)) (by omega) (by omega)).2 (by omega)
    have hfl' := hfl rfl
    refine ⟨u || u', ?_⟩
    unfold Num.exp
    simp only
    rw [hcr, if_pos ⟨by clear hsg; omega, hfl'⟩, if_neg (by clear hsg; omega)]
    have hsgn : Num.sign ⟨(c :: l1 ++ rest).tail, B, pr, true, u, inv, -4, dot, 0 + 0⟩ = ⟨l2 ++ rest, B, pr, true, u, inv, -4, dot, 0⟩ := by
      unfold Num.sign
      rcases hsg with ⟨rfl, h3, h4⟩ | ⟨c2, rfl, h3⟩
      · rw [if_neg]
        · rfl
        · show ¬ (chOf (l1 ++ rest) = 43 ∨ chOf (l1 ++ rest) = 45)
          rw [chOf_append hl2]; omega
      · rw [if_pos (by exact h3)]
        rfl
    rw [hsgn]
    unfold Num.expDig
    simp only [h1]
    rw [decide_eq_true hn]
    simp
theorem num_none {N : Num} (h : N.d = true) : N.none = N := by unfold Num.none; rw [if_pos h]
theorem num_bad {N : Num} (h : N.tok = -3 → N.inv = 0) : N.bad = N := by unfold Num.bad; rw [if_neg]; rintro ⟨h1, h2⟩; exact h2 (h h1)
theorem num_sep {src : List UInt8} {st : Nat} {N : Num} (h : sepBad (txt src st N.l) = false) : N.sep src st = N := by unfold Num.sep; rw [if_neg]; rintro ⟨-, h1⟩; rw [h] at h1; cases h1
theorem sdig_head {t l : List Item} {n : Nat} (h : sdig 10 t false = some (l, n)) (h48 : chOf t = 48) : ∃ c t' m, t = c :: t' ∧ (c.r : Int) = 48 ∧ sdig 10 t' true = some (l, m) ∧ n = m + 1 := by
  cases t with
  | nil => cases h48
  | cons c t' =>
    have hc : (c.r : Int) = 48 := h48
    unfold sdig at h
    rw [if_neg (by omega), if_pos (by rw [hc]; decide)] at h
    cases hs : sdig 10 t' true with
    | none => rw [hs] at h; cases h
    | some x =>
      rw [hs] at h
      obtain ⟨y, m⟩ := x
      simp only [Option.map_some, Option.some.injEq, Prod.mk.injEq] at h
      obtain ⟨rfl, rfl⟩ := h
      exact ⟨c, t', m, rfl, hc, hs, rfl⟩
theorem sdig_len {b : Int} {l l' : List Item} {p : Bool} {n : Nat} (hb : 2 ≤ b ∧ b ≤ 16) (h : sdig b l p = some (l', n)) : l'.length ≤ l.length := by
  have : ∃ pre, l = pre ++ l' := by
    rcases Int.lt_or_le 10 b with hb' | hb'
    · by_cases h16 : b = 16
      · obtain ⟨pre, h1, -⟩ := sdig_law (hx := true) (.inr ⟨h16, rfl⟩) l p l' n h; exact ⟨pre, h1⟩
      · clear hb'
        induction l generalizing p l' n with
        | nil => simp only [sdig, Option.some.injEq, Prod.mk.injEq] at h; exact ⟨[], by rw [← h.1]; rfl⟩
        | cons c l ih =>
          unfold sdig at h
          split at h
          · split at h
            · obtain ⟨q, hq⟩ := ih h; exact ⟨c :: q, by rw [hq]; rfl⟩
            · cases h
          · split at h
            · cases hs : sdig b l true with
              | none => rw [hs] at h; cases h
              | some x =>
                rw [hs] at h
                simp only [Option.map_some, Option.some.injEq, Prod.mk.injEq] at h
                obtain ⟨y, m⟩ := x
                obtain ⟨q, hq⟩ := ih hs
                exact ⟨c :: q, by rw [hq, ← h.1]; rfl⟩
            · simp only [Option.some.injEq, Prod.mk.injEq] at h; exact ⟨[], by rw [← h.1]; rfl⟩
    · obtain ⟨pre, h1, -⟩ := sdig_law (hx := true) (.inl ⟨hb.1, hb'⟩) l p l' n h; exact ⟨pre, h1⟩
  obtain ⟨pre, h1⟩ := this
  rw [h1, List.length_append]; omega
theorem gb_map {t : List Item} {i : Nat} (h : Asc t) (hi : i < t.length) : gb (t.map chB) i = (t[i]).r := by
  have hl : i < (t.map chB).length := by rw [List.length_map]; exact hi
  rw [gb_get hl, List.getElem_map, chB_nat (h _ (List.getElem_mem hi))]
theorem ascii_item {src : List UInt8} {c : Item} (h : c ∈ items src) (h1 : c.r < 128) : c.bs = [chB c] := by
  induction hn : src.length using Nat.strongRecOn generalizing src with
  | _ n ih =>
    by_cases h0 : 0 < src.length
    · rw [items_cons h0] at h
      rcases List.mem_cons.1 h with rfl | h
      · have e : (hdItem src).r = (hd src).1 := rfl
        rw [e] at h1
        have key : (hd src).2 = 1 ∧ (hd src).1 = gb src 0 := by
          unfold hd decodeN at h1 ⊢
          repeat' split at h1
          all_goals simp only at h1
          all_goals try omega
          rename_i h2
          rw [if_pos h2]; exact ⟨rfl, rfl⟩
        show src.take (hd src).2 = [chB (hdItem src)]
        unfold chB
        rw [e, key.1, key.2, gb_get h0]
        cases src with
        | nil => simp at h0
        | cons b t => simp
      · have := hd_pos src
        exact ih (src.drop (hd src).2).length (by rw [List.length_drop]; omega) h rfl
    · have : src = [] := List.eq_nil_of_length_eq_zero (by omega)
      subst this; rw [items_nil] at h; cases h
theorem bytes_asc {src : List UInt8} {t : List Item} (hm : ∀ c ∈ t, c ∈ items src) (h : Asc t) : bytesOf t = t.map chB := by
  induction t with
  | nil => rfl
  | cons c t ih => rw [bytesOf_cons, ih (fun x hx => hm x (List.mem_cons_of_mem _ hx)) (fun x hx => h x (List.mem_cons_of_mem _ hx)), ascii_item (hm c List.mem_cons_self) (h c List.mem_cons_self)]; rfl
theorem txt_bytes {src : List UInt8} {pre0 t rest : List Item} (h : items src = pre0 ++ (t ++ rest)) : txt src (offOf src (t ++ rest)) rest = bytesOf t := by
  have h2 : items src = (pre0 ++ t) ++ rest := by rw [h, List.append_assoc]
  have e1 := offOf_pre h
  have e2 := offOf_pre h2
  have hb := bytesOf_items src
  rw [h2, bytesOf_append, bytesOf_append] at hb
  unfold txt
  rw [e1, e2, bytesOf_append, List.length_append, Nat.add_sub_cancel_left]
  conv => lhs; rw [← hb]
  rw [List.append_assoc, List.drop_left, List.take_left]
theorem sep_txt {src : List UInt8} {pre0 t rest : List Item} (h : items src = pre0 ++ (t ++ rest)) (ha : Asc t) (hs : sepBad (t.map chB) = false) : sepBad (txt src (offOf src (t ++ rest)) rest) = false := by
  rw [txt_bytes h, bytes_asc (src := src) (fun c hc => by rw [h]; exact List.mem_append_right _ (List.mem_append_left _ hc)) ha]; exact hs
theorem num_sep2 {src : List UInt8} {pre0 t rest : List Item} {N : Num} (h : items src = pre0 ++ (t ++ rest)) (ha : Asc t) (hs : sepBad (t.map chB) = false) (hl : N.l = rest) : N.sep src (offOf src (t ++ rest)) = N := num_sep (by rw [hl]; exact sep_txt h ha hs)
theorem rng_of {src : List UInt8} {pre0 l : List Item} (h : items src = pre0 ++ l) : Rng l := fun c hc => items_rune (src := src) (by rw [h]; exact List.mem_append_right _ hc)
theorem num_bin {src : List UInt8} {pre0 rest : List Item} {c0 c1 : Item} {t2 : List Item} {b k q : Int} (hpre : items src = pre0 ++ ((c0 :: c1 :: t2) ++ rest)) (hst : StopAt rest) (h0 : (c0.r : Int) = 48)
    (hq : (b = 2 ∧ q = 98) ∨ (b = 8 ∧ q = 111)) (h1 : (c1.r : Int) = q ∨ (c1.r : Int) = q - 32) (hk : sbin b (c0 :: c1 :: t2) = k) (hk0 : k ≠ 0) (fl : Bool) :
    One.num (numRun src (offOf src ((c0 :: c1 :: t2) ++ rest)) fl false ((c0 :: c1 :: t2) ++ rest)) = ⟨k, rest, 0, false⟩ := by
  have hr := rng_of hpre
  have hno := hst.no
  unfold sbin at hk
  simp only [List.tail_cons] at hk
  cases hs : sdig b t2 true with
  | none => rw [hs] at hk; exact absurd hk.symm hk0
  | some x =>
    rw [hs] at hk
    obtain ⟨l, n⟩ := x
    simp only at hk
    by_cases hn : n = 0
    · rw [if_pos hn] at hk; exact absurd hk.symm hk0
    rw [if_neg hn] at hk
    unfold send at hk
    by_cases hl : l = []
    · rw [if_pos hl] at hk
      subst hl hk
      obtain ⟨pre, e, a1, a2, a3, a4, a5⟩ := sdig_law (hx := false) (.inl (by omega)) _ _ _ _ hs
      rw [List.append_nil] at e
      subst e
      have hA : Asc (c0 :: c1 :: t2) := ((Asc.digs (by omega) a3).cons (by omega)).cons (by omega)
      have hlow : lowerOf (c1.r : Int) = q := (lower_char (c := (c1.r : Int)) (k := q) (by omega) (by omega)).2 h1
      have hsep : sepBad ((c0 :: c1 :: t2).map chB) = false := by
        have g0 := gb_map (i := 0) hA (by simp)
        have g1 := gb_map (i := 1) hA (by simp)
        have g1' : lowerOf (gb ((c0 :: c1 :: t2).map chB) 1 : Nat) = q := by rw [g1]; exact hlow
        rw [sepBad_pre (by simp) (by rw [g0]; exact_mod_cast h0) (by omega), decide_eq_false (by omega)]
        have := a5 48 [] (fun _ => rfl)
        rw [List.append_nil, if_neg hn] at this
        exact this.trans (by rw [sepGo]; decide)
      have hp : Num.pre ⟨(c0 :: c1 :: t2) ++ rest, 10, 0, false, false, 0, -3, false, 0⟩ = ⟨t2 ++ rest, b, q, false, false, 0, -3, false, 0⟩ := by
        unfold Num.pre
        simp only
        rw [if_pos (show chOf ((c0 :: c1 :: t2) ++ rest) = 48 from h0)]
        show (if lowerOf (c1.r : Int) = 120 then _ else if lowerOf (c1.r : Int) = 111 then _ else if lowerOf (c1.r : Int) = 98 then _ else _) = _
        rw [hlow]
        rcases hq with ⟨rfl, rfl⟩ | ⟨rfl, rfl⟩
        · rw [if_neg (by decide), if_neg (by decide), if_pos rfl]; rfl
        · rw [if_neg (by decide), if_pos rfl]; rfl
      obtain ⟨u', inv', hd, hi⟩ := num_dig (B := b) (rest := rest) hs hst (fun x hx => hr x (List.mem_cons_of_mem _ (List.mem_cons_of_mem _ hx))) (.inr (.inr ⟨rfl, by omega, rfl⟩)) q false false 0 (-3) false
      have hi0 : inv' = 0 := by
        rcases hi with hi | hi
        · exact hi
        · omega
      rw [List.nil_append, Bool.false_or, decide_eq_true hn, hi0] at hd
      unfold numRun Num.whole
      rw [if_neg (by simp)]
      simp only
      rw [hp, hd]
      have hpt : Num.point fl ⟨rest, b, q, true, u', 0, -3, false, 0⟩ = ⟨rest, b, q, true, u', 0, -3, false, 0⟩ := by
        unfold Num.point; rw [if_neg]; rintro ⟨h, -⟩; exact hst.pt h
      rw [hpt]
      have hfr : Num.frac ⟨rest, b, q, true, u', 0, -3, false, 0⟩ = ⟨rest, b, q, true, u', 0, -3, false, 0⟩ := by
        unfold Num.frac; rw [if_neg (by simp)]
      have hrg : Rng rest := fun x hx => hr x (List.mem_append_right _ hx)
      have hex : Num.exp fl ⟨rest, b, q, true, u', 0, -3, false, 0⟩ = ⟨rest, b, q, true, u', 0, -3, false, 0⟩ := by
        unfold Num.exp
        simp only
        rw [if_neg, if_neg]
        · rintro ⟨e1, -⟩; omega
        · rintro ⟨e1, -⟩
          rcases e1 with e1 | e1
          · have := (lower_char hrg.ch (by decide)).1 e1; omega
          · have := (lower_char hrg.ch (by decide)).1 e1; omega
      rw [hfr, num_none rfl, hex, num_bad (fun _ => rfl), num_sep2 hpre hA hsep (by rfl)]
      rfl
    · rw [if_neg hl] at hk; exact absurd hk.symm hk0
theorem num_hex {src : List UInt8} {pre0 rest : List Item} {c0 c1 : Item} {t2 : List Item} {k : Int} (hpre : items src = pre0 ++ ((c0 :: c1 :: t2) ++ rest)) (hst : StopAt rest) (h0 : (c0.r : Int) = 48)
    (h1 : (c1.r : Int) = 120 ∨ (c1.r : Int) = 88) (hk : shex (c0 :: c1 :: t2) = k) (hk0 : k ≠ 0) (fl : Bool) (hfl : fl = true ∨ k = -3) :
    One.num (numRun src (offOf src ((c0 :: c1 :: t2) ++ rest)) fl false ((c0 :: c1 :: t2) ++ rest)) = ⟨k, rest, 0, false⟩ := by
  have hr := rng_of hpre
  have hno := hst.no
  unfold shex at hk
  simp only [List.tail_cons] at hk
  cases hs : sdig 16 t2 true with
  | none => rw [hs] at hk; exact absurd hk.symm hk0
  | some x =>
    rw [hs] at hk
    obtain ⟨l, n⟩ := x
    simp only at hk
    cases hf : sfrac 16 l n with
    | none => rw [hf] at hk; exact absurd hk.symm hk0
    | some x =>
      rw [hf] at hk
      obtain ⟨l2, n2, pt⟩ := x
      simp only at hk
      cases he : sexp 112 80 l2 with
      | none => rw [he] at hk; exact absurd hk.symm hk0
      | some x =>
        rw [he] at hk
        obtain ⟨l3, had⟩ := x
        simp only at hk
        by_cases hz : n2 = 0 ∨ (pt = true ∧ had = false)
        · rw [if_pos hz] at hk; exact absurd hk.symm hk0
        rw [if_neg hz] at hk
        have hl3 : l3 = [] := by
          unfold send at hk
          by_cases hl : l3 = []
          · exact hl
          · rw [if_neg hl, if_neg hl] at hk
            exact absurd (by rw [← hk]; split <;> rfl) hk0
        subst hl3
        have hk' : k = if had = true then -4 else -3 := by
          rw [← hk]; unfold send; rw [if_pos rfl, if_pos rfl]
        obtain ⟨pre, e, a1, a2, a3, a4, a5⟩ := sdig_law (b := 16) (hx := true) (cond_t (.inl rfl)) _ _ _ _ hs
        have hsp := frac_sep (hx := true) (.inr ⟨rfl, rfl, rfl, rfl⟩) hf he
        have hA : Asc (c0 :: c1 :: t2) := by
          rw [e]; exact (((Asc.digs (by omega) a3).app hsp.1).cons (by omega)).cons (by omega)
        have hlow : lowerOf (c1.r : Int) = 120 := (lower_char (c := (c1.r : Int)) (k := 120) (by omega) (by omega)).2 (by omega)
        have hsep : sepBad ((c0 :: c1 :: t2).map chB) = false := by
          have g0 := gb_map (i := 0) hA (by simp)
          have g1 := gb_map (i := 1) hA (by simp)
          have g1' : lowerOf (gb ((c0 :: c1 :: t2).map chB) 1 : Nat) = 120 := by rw [g1]; exact hlow
          rw [sepBad_pre (by simp) (by rw [g0]; exact_mod_cast h0) (by omega), decide_eq_true g1']
          show sepGo true 48 (t2.map chB) = false
          rw [e, List.map_append, a5 48 _ (fun _ => rfl)]
          exact hsp.2 _ (by split <;> decide)
        have hp : Num.pre ⟨(c0 :: c1 :: t2) ++ rest, 10, 0, false, false, 0, -3, false, 0⟩ = ⟨t2 ++ rest, 16, 120, false, false, 0, -3, false, 0⟩ := by
          unfold Num.pre
          simp only
          rw [if_pos (show chOf ((c0 :: c1 :: t2) ++ rest) = 48 from h0)]
          show (if lowerOf (c1.r : Int) = 120 then _ else _) = _
          rw [if_pos hlow]; rfl
        have hr2 : Rng (t2 ++ rest) := fun x hx => hr x (List.mem_cons_of_mem _ (List.mem_cons_of_mem _ hx))
        obtain ⟨u', inv', hd, hi⟩ := num_dig (B := 16) (rest := rest) hs hst hr2 (by omega) 120 false false 0 (-3) false
        have hi0 : inv' = 0 := by
          rcases hi with hi | hi
          · exact hi
          · omega
        subst hi0
        have hr3 : Rng (l ++ rest) := fun x hx => hr2 x (by rw [e, List.append_assoc]; exact List.mem_append_right _ hx)
        have hhf : had = true → fl = true := fun h => by
          rcases hfl with h1 | h1
          · exact h1
          · rw [hk', if_pos h] at h1; cases h1
        have hpf : pt = true → had = true := fun h => by
          cases had with
          | true => rfl
          | false => exact absurd (Or.inr ⟨h, rfl⟩) hz
        obtain ⟨u2, inv2, hfp, hi2⟩ := num_fp hf hst hr3 (B := 16) (by omega) fl (fun h => hhf (hpf h)) 120 (by omega) (false || decide (n ≠ 0)) u' 0
        have hdt : (false || decide (n ≠ 0) || decide (n2 ≠ n)) = true := by
          simp only [Bool.false_or, Bool.or_eq_true, decide_eq_true_eq]
          omega
        rw [hdt] at hfp
        have hr4 : Rng (l2 ++ rest) := by
          rcases sfrac_inv hf with ⟨-, rfl, -⟩ | ⟨-, c, l1, m, rfl, -, hd2, -⟩
          · exact hr3
          · obtain ⟨q, rfl, -⟩ := sdig_law (hx := true) (cond_t (by omega)) _ _ _ _ hd2
            exact fun x hx => hr3 x (List.mem_cons_of_mem _ (by show x ∈ (q ++ l2) ++ rest; rw [List.append_assoc]; exact List.mem_append_right _ hx))
        obtain ⟨u3, hex⟩ := num_exp hst hr4 he fl hhf 16 120 u2 inv2 (if pt = true then -4 else -3) pt (.inr ⟨rfl, rfl, rfl, fun h => by
          cases pt with
          | true => exact hpf rfl
          | false => cases h⟩)
        unfold numRun Num.whole
        rw [if_neg (by simp)]
        simp only
        rw [hp, hd, hfp, num_none rfl, hex, num_bad, num_sep2 hpre hA hsep (by rfl)]
        · unfold One.num
          simp only
          rw [hk']
          cases had with
          | true => rfl
          | false =>
            cases pt with
            | true => exact absurd (hpf rfl) (by decide)
            | false => rfl
        · intro ht
          cases pt with
          | true =>
            have := hpf rfl
            subst this
            cases ht
          | false => exact hi2 rfl
set_option maxHeartbeats 1600000 in
theorem num_dec {src : List UInt8} {pre0 t rest : List Item} {k : Int} (hpre : items src = pre0 ++ (t ++ rest)) (hst : StopAt rest)
    (h0 : chOf t = 48 → ¬ (chOf t.tail = 98 ∨ chOf t.tail = 66 ∨ chOf t.tail = 111 ∨ chOf t.tail = 79 ∨ chOf t.tail = 120 ∨ chOf t.tail = 88)) (hk : sdec t = k) (hk0 : k ≠ 0) (fl : Bool) (hfl : fl = true ∨ k = -3) :
    (isDec (chOf t) = true → One.num (numRun src (offOf src (t ++ rest)) fl false (t ++ rest)) = ⟨k, rest, 0, false⟩) ∧
    (chOf t = 46 → fl = true → One.num (numRun src (offOf src (t ++ rest)) fl true (t.tail ++ rest)) = ⟨k, rest, 0, false⟩) := by
  have hr := rng_of hpre
  have hno := hst.no
  unfold sdec at hk
  cases hs : sdig 10 t false with
  | none => rw [hs] at hk; exact absurd hk.symm hk0
  | some x =>
    rw [hs] at hk
    obtain ⟨l, n⟩ := x
    simp only at hk
    cases hf : sfrac 10 l n with
    | none => rw [hf] at hk; exact absurd hk.symm hk0
    | some x =>
      rw [hf] at hk
      obtain ⟨l2, n2, pt⟩ := x
      simp only at hk
      cases he : sexp 101 69 l2 with
      | none => rw [he] at hk; exact absurd hk.symm hk0
      | some x =>
        rw [he] at hk
        obtain ⟨l3, had⟩ := x
        simp only at hk
        by_cases hz : n2 = 0
        · rw [if_pos hz] at hk; exact absurd hk.symm hk0
        rw [if_neg hz] at hk
        have hl3 : l3 = [] := by
          unfold send at hk
          by_cases hl : l3 = []
          · exact hl
          · rw [if_neg hl, if_neg hl] at hk
            exact absurd (by rw [← hk]; (repeat' split) <;> rfl) hk0
        subst hl3
        have hw : ¬ (pt = true ∨ had = true) → ¬ (1 < (t.take (t.length - l.length)).length ∧ chOf t = 48 ∧ (t.take (t.length - l.length)).any is89 = true) := fun h1 h2 => by
          rw [if_neg h1, if_pos h2] at hk; exact hk0 hk.symm
        have hk' : k = if pt = true ∨ had = true then -4 else -3 := by
          rw [← hk]; unfold send
          by_cases h1 : pt = true ∨ had = true
          · rw [if_pos h1, if_pos h1, if_pos rfl]
          · rw [if_neg h1, if_neg h1, if_neg (hw h1), if_pos rfl]
        obtain ⟨pre, e, a1, a2, a3, a4, a5⟩ := sdig_law (hx := false) (.inl (by omega)) _ _ _ _ hs
        have hsp := frac_sep (hx := false) (.inl ⟨rfl, rfl, rfl, rfl⟩) hf he
        have hA : Asc t := by
          rw [e]; exact (Asc.digs (by omega) a3).app hsp.1
        have hsep : sepBad (t.map chB) = false := by
          have hgo : sepGo false 46 (t.map chB) = false := by
            rw [e, List.map_append, a5 46 _ (fun h => by cases h)]
            exact hsp.2 _ (by split <;> decide)
          rw [sepBad_no, hgo]
          by_cases hg : 2 ≤ (t.map chB).length ∧ gb (t.map chB) 0 = 48
          · right
            have hl := hg.1
            rw [List.length_map] at hl
            have g0 := gb_map (i := 0) hA (by omega)
            have g1 := gb_map (i := 1) hA (by omega)
            cases t with
            | nil => simp at hl
            | cons c0 t1 =>
              cases t1 with
              | nil => simp at hl
              | cons c1 t2 =>
                have h48 : (c0.r : Int) = 48 := by
                  have := hg.2
                  rw [g0] at this
                  exact_mod_cast this
                have hno1 := h0 h48
                have hc1 : (gb ((c0 :: c1 :: t2).map chB) 1 : Int) = (c1.r : Int) := by rw [g1]; rfl
                have hr1 : c1.r < 128 := hA c1 (by simp)
                rw [hc1]
                have hno2 : ¬ ((c1.r : Int) = 98 ∨ (c1.r : Int) = 66 ∨ (c1.r : Int) = 111 ∨ (c1.r : Int) = 79 ∨ (c1.r : Int) = 120 ∨ (c1.r : Int) = 88) := hno1
                refine ⟨fun e => ?_, fun e => ?_, fun e => ?_⟩
                · have := (lower_char (by omega) (by decide)).1 e; omega
                · have := (lower_char (by omega) (by decide)).1 e; omega
                · have := (lower_char (by omega) (by decide)).1 e; omega
          · exact .inl hg
        have hr3 : Rng (l ++ rest) := fun x hx => hr x (by rw [e, List.append_assoc]; exact List.mem_append_right _ hx)
        have hr4 : Rng (l2 ++ rest) := by
          rcases sfrac_inv hf with ⟨-, rfl, -⟩ | ⟨-, c, l1, m, rfl, -, hd2, -⟩
          · exact hr3
          · obtain ⟨q, rfl, -⟩ := sdig_law (hx := true) (cond_t (by omega)) _ _ _ _ hd2
            exact fun x hx => hr3 x (List.mem_cons_of_mem _ (by show x ∈ (q ++ l2) ++ rest; rw [List.append_assoc]; exact List.mem_append_right _ hx))
        have hfl2 : pt = true ∨ had = true → fl = true := fun h => by
          rcases hfl with h1 | h1
          · exact h1
          · rw [hk', if_pos h] at h1; cases h1
        refine ⟨fun hdec => ?_, fun h46 hfl1 => ?_⟩
        · have hhead : ∃ B pr u' inv', ((B = 8 ∧ pr = 48) ∨ (B = 10 ∧ pr = 0)) ∧ Num.dig (Num.pre ⟨t ++ rest, 10, 0, false, false, 0, -3, false, 0⟩) = ⟨l ++ rest, B, pr, true, u', inv', -3, false, 0⟩ ∧
              (inv' = 0 ∨ (1 < (t.take (t.length - l.length)).length ∧ chOf t = 48 ∧ (t.take (t.length - l.length)).any is89 = true)) := by
            by_cases h48 : chOf t = 48
            · obtain ⟨c, t', m, rfl, hc, hs', rfl⟩ := sdig_head hs h48
              have hlow : lowerOf (chOf (t' ++ rest)) ≠ 120 ∧ lowerOf (chOf (t' ++ rest)) ≠ 111 ∧ lowerOf (chOf (t' ++ rest)) ≠ 98 := by
                have hrg : Rng (t' ++ rest) := fun x hx => hr x (List.mem_cons_of_mem _ hx)
                have hn0 := h0 h48
                rw [List.tail_cons] at hn0
                by_cases ht : t' = []
                · subst ht
                  rw [List.nil_append] at hrg ⊢
                  refine ⟨fun e => ?_, fun e => ?_, fun e => ?_⟩
                  · have := (lower_char hrg.ch (by decide)).1 e; omega
                  · have := (lower_char hrg.ch (by decide)).1 e; omega
                  · have := (lower_char hrg.ch (by decide)).1 e; omega
                · have hch := hrg.ch
                  rw [chOf_append ht] at hch ⊢
                  refine ⟨fun e => ?_, fun e => ?_, fun e => ?_⟩
                  · have := (lower_char hch (by decide)).1 e; omega
                  · have := (lower_char hch (by decide)).1 e; omega
                  · have := (lower_char hch (by decide)).1 e; omega
              have hp : Num.pre ⟨(c :: t') ++ rest, 10, 0, false, false, 0, -3, false, 0⟩ = ⟨t' ++ rest, 8, 48, true, false, 0, -3, false, 0⟩ := by
                unfold Num.pre
                simp only
                rw [if_pos (show chOf ((c :: t') ++ rest) = 48 from hc)]
                show (if lowerOf (chOf (t' ++ rest)) = 120 then _ else if lowerOf (chOf (t' ++ rest)) = 111 then _ else if lowerOf (chOf (t' ++ rest)) = 98 then _ else _) = _
                rw [if_neg hlow.1, if_neg hlow.2.1, if_neg hlow.2.2]; rfl
              obtain ⟨u', inv', hd, hi⟩ := num_dig (B := 8) (rest := rest) hs' hst (fun x hx => hr x (List.mem_cons_of_mem _ hx)) (by omega) 48 true false 0 (-3) false
              refine ⟨8, 48, u', inv', .inl ⟨rfl, rfl⟩, by rw [hp, hd, Bool.true_or], ?_⟩
              rcases hi with hi | ⟨-, -, hi⟩
              · exact .inl hi
              · right
                have hll := sdig_len (by decide) hs'
                have he2 : (c :: t').take ((c :: t').length - l.length) = c :: t'.take (t'.length - l.length) := by
                  rw [List.length_cons, show t'.length + 1 - l.length = (t'.length - l.length) + 1 by omega, List.take_succ_cons]
                rw [he2]
                refine ⟨?_, h48, by rw [List.any_cons, hi, Bool.or_true]⟩
                cases hq : t'.take (t'.length - l.length) with
                | nil => rw [hq] at hi; cases hi
                | cons x y => simp
            · have hn0 : n ≠ 0 := by
                intro hn0
                have h1 := a1 hn0
                rw [h1, List.nil_append] at e
                rcases a4 with a4 | a4
                · rw [e, a4] at hdec; cases hdec
                · exact a4.2 (by rw [← e]; exact dgOf_ten.2 hdec)
              have htn : t ≠ [] := by rintro rfl; cases hdec
              have hp : Num.pre ⟨t ++ rest, 10, 0, false, false, 0, -3, false, 0⟩ = ⟨t ++ rest, 10, 0, false, false, 0, -3, false, 0⟩ := by
                unfold Num.pre
                rw [if_neg]
                show ¬ chOf (t ++ rest) = 48
                rw [chOf_append htn]; exact h48
              obtain ⟨u', inv', hd, hi⟩ := num_dig (B := 10) (rest := rest) hs hst hr (by omega) 0 false false 0 (-3) false
              refine ⟨10, 0, u', inv', .inr ⟨rfl, rfl⟩, by rw [hp, hd, Bool.false_or, decide_eq_true hn0], .inl ?_⟩
              rcases hi with hi | hi
              · exact hi
              · omega
          obtain ⟨B, pr, u', inv', hBp, hd, hi⟩ := hhead
          obtain ⟨u2, inv2, hfp, hi2⟩ := num_fp hf hst hr3 (B := B) (by omega) fl (fun h => hfl2 (.inl h)) pr (by omega) true u' inv'
          rw [Bool.true_or] at hfp
          obtain ⟨u3, hex⟩ := num_exp hst hr4 he fl (fun h => hfl2 (.inr h)) B pr u2 inv2 (if pt = true then -4 else -3) pt (.inl ⟨rfl, rfl, by omega⟩)
          unfold numRun Num.whole
          rw [if_neg (by simp)]
          simp only
          rw [hd, hfp, num_none rfl, hex, num_bad, num_sep2 hpre hA hsep (by rfl)]
          · unfold One.num
            simp only
            rw [hk']
            cases had <;> cases pt <;> rfl
          · simp only
            intro ht
            cases had with
            | true => cases ht
            | false =>
              cases pt with
              | true => cases ht
              | false =>
                rw [hi2 rfl]
                rcases hi with hi | hi
                · exact hi
                · exact absurd hi (hw (by decide))
        · cases t with
          | nil => cases h46
          | cons c t1 =>
            have hc : (c.r : Int) = 46 := h46
            unfold sdig at hs
            rw [if_neg (by omega), if_neg (by rw [hc]; decide)] at hs
            simp only [Option.some.injEq, Prod.mk.injEq] at hs
            obtain ⟨rfl, rfl⟩ := hs
            rcases sfrac_inv hf with ⟨-, -, -, h⟩ | ⟨rfl, c', l1, m, e1, -, hd2, hm⟩
            · exact absurd h46 h
            injection e1 with e1 e2
            subst e1 e2
            rw [Nat.zero_add] at hm
            subst hm
            obtain ⟨u', inv', hd, -⟩ := num_dig (B := 10) (rest := rest) hd2 hst (fun x hx => hr x (List.mem_cons_of_mem _ hx)) (by omega) 0 false false 0 (-4) true
            rw [Bool.false_or, decide_eq_true hz] at hd
            obtain ⟨u3, hex⟩ := num_exp hst hr4 he fl (fun _ => hfl1) 10 0 u' inv' (-4) true (.inl ⟨rfl, rfl, by omega⟩)
            unfold numRun Num.whole
            rw [if_pos rfl]
            have hfr : Num.frac ⟨t1 ++ rest, 10, 0, false, false, 0, 0, true, 0⟩ = ⟨l2 ++ rest, 10, 0, true, u', inv', -4, true, 0⟩ := by
              unfold Num.frac
              rw [if_pos rfl]
              simp only
              rw [if_neg (by simp)]
              exact hd
            rw [List.tail_cons, hfr, num_none rfl, hex, num_bad, num_sep2 hpre hA hsep (by rfl)]
            · unfold One.num
              simp only
              rw [hk', if_pos (Or.inl rfl)]
              cases had <;> rfl
            · simp only
              intro ht
              cases had <;> cases ht
theorem num_law {src : List UInt8} {pre0 t rest : List Item} {k : Int} (hpre : items src = pre0 ++ (t ++ rest)) (hst : StopAt rest) (hk : numSpec t = k) (hk0 : k ≠ 0) (fl : Bool) (hfl : fl = true ∨ k = -3) :
    (isDec (chOf t) = true → One.num (numRun src (offOf src (t ++ rest)) fl false (t ++ rest)) = ⟨k, rest, 0, false⟩) ∧
    (chOf t = 46 → fl = true → One.num (numRun src (offOf src (t ++ rest)) fl true (t.tail ++ rest)) = ⟨k, rest, 0, false⟩) := by
  have two : ∀ q : Int, q ≠ -1 → chOf t = 48 ∧ chOf t.tail = q → ∃ c0 c1 t2, t = c0 :: c1 :: t2 ∧ (c0.r : Int) = 48 ∧ (c1.r : Int) = q := by
    rintro q hq ⟨h1, h2⟩
    cases t with
    | nil => cases h1
    | cons c0 t1 =>
      cases t1 with
      | nil => exact absurd h2.symm hq
      | cons c1 t2 => exact ⟨c0, c1, t2, rfl, h1, h2⟩
  unfold numSpec at hk
  by_cases h2 : chOf t = 48 ∧ (chOf t.tail = 98 ∨ chOf t.tail = 66)
  · rw [if_pos h2] at hk
    obtain ⟨c0, c1, t2, rfl, e0, e1⟩ := two _ (by omega) ⟨h2.1, rfl⟩
    have h3 := h2.2
    rw [← e1] at h3
    exact ⟨fun _ => num_bin (b := 2) (q := 98) hpre hst e0 (by omega) (by omega) hk hk0 fl, fun h => by rw [h2.1] at h; cases h⟩
  rw [if_neg h2] at hk
  by_cases h8 : chOf t = 48 ∧ (chOf t.tail = 111 ∨ chOf t.tail = 79)
  · rw [if_pos h8] at hk
    obtain ⟨c0, c1, t2, rfl, e0, e1⟩ := two _ (by omega) ⟨h8.1, rfl⟩
    have h3 := h8.2
    rw [← e1] at h3
    exact ⟨fun _ => num_bin (b := 8) (q := 111) hpre hst e0 (by omega) (by omega) hk hk0 fl, fun h => by rw [h8.1] at h; cases h⟩
  rw [if_neg h8] at hk
  by_cases h16 : chOf t = 48 ∧ (chOf t.tail = 120 ∨ chOf t.tail = 88)
  · rw [if_pos h16] at hk
    obtain ⟨c0, c1, t2, rfl, e0, e1⟩ := two _ (by omega) ⟨h16.1, rfl⟩
    have h3 := h16.2
    rw [← e1] at h3
    exact ⟨fun _ => num_hex hpre hst e0 h3 hk hk0 fl hfl, fun h => by rw [h16.1] at h; cases h⟩
  rw [if_neg h16] at hk
  exact num_dec hpre hst (fun h => by
    rintro (h1 | h1 | h1 | h1 | h1 | h1)
    · exact h2 ⟨h, .inl h1⟩
    · exact h2 ⟨h, .inr h1⟩
    · exact h8 ⟨h, .inl h1⟩
    · exact h8 ⟨h, .inr h1⟩
    · exact h16 ⟨h, .inl h1⟩
    · exact h16 ⟨h, .inr h1⟩) hk hk0 fl hfl
end Go.Proofs.YtmfihkgbfoapaaaDoor
