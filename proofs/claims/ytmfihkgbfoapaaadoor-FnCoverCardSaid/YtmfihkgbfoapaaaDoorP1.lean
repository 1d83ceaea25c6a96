/- How many errors there can be; a bad character or a NUL is an error. Comments that are left out; a character that becomes white space: plain laws of the tokens. -/
import Derived.Test.YtmfihkgbfoapaaaDoorE10
namespace Go.Proofs.YtmfihkgbfoapaaaDoor
set_option linter.unusedVariables false
set_option linter.unusedSimpArgs false
open Go Go.RowKit Go.Lib

theorem digRun_k (b : Int) : ∀ n l, (digRun b n l).2 ≤ 1
  | 0, l => by unfold digRun; exact Nat.zero_le _
  | n + 1, l => by
    unfold digRun
    split
    · exact digRun_k b n l.tail
    · exact Nat.le_refl _
theorem escRun_k (q : Int) (l : List Item) : (escRun q l).2 ≤ 1 := by
  unfold escRun
  simp only
  repeat' split
  all_goals first
    | exact digRun_k _ _ _
    | exact Nat.zero_le _
    | exact Nat.le_refl _
theorem strRun_k (q : Int) (l : List Item) : (strRun q l).2.2 + (strRun q l).1.length ≤ l.length + 1 := by
  induction hn : l.length using Nat.strongRecOn generalizing l with
  | _ n ih =>
    subst hn
    by_cases h : chOf l = q
    · rw [strRun_stop h]; simp
    · by_cases h1 : chOf l = 10 ∨ chOf l < 0
      · rw [strRun_bad h h1]; simp only; omega
      · have hne : l ≠ [] := ne_nil_of_ch (by omega)
        by_cases h2 : chOf l = 92
        · rw [strRun_esc h h2]
          have h3 := escRun_lt q l hne
          have h4 := escRun_k q l
          have := ih _ h3 _ rfl
          simp only; omega
        · rw [strRun_step h (by omega) (by omega) h2]
          have h3 := tail_lt hne
          have := ih _ h3 _ rfl
          simp only; omega
theorem comRun_k : ∀ l : List Item, (comRun l).2 ≤ 1
  | [] => by unfold comRun; simp
  | c :: l => by
    unfold comRun
    split
    · simp
    · exact comRun_k l
theorem comment_k (l : List Item) : (comment l).2 ≤ 1 := by
  unfold comment; split
  · exact Nat.zero_le _
  · exact comRun_k _
theorem chrErr_k (n : Nat) : chrErr n ≤ 1 := by unfold chrErr; split <;> omega
theorem rawErr_k (l : List Item) : rawErr l ≤ 1 := by unfold rawErr; split <;> omega
theorem Num.pre_k (n : Num) : n.pre.k = n.k := by unfold Num.pre; repeat' split
                                                  all_goals rfl
theorem Num.point_k (fl : Bool) (n : Num) : (n.point fl).k = n.k := by unfold Num.point; split <;> rfl
theorem Num.whole_k (fl : Bool) (n : Num) : (n.whole fl).k = n.k := by
  unfold Num.whole; split
  · rfl
  · rw [Num.point_k]; exact Num.pre_k _
theorem Num.frac_k (n : Num) : n.frac.k ≤ n.k + 1 := by
  unfold Num.frac; split
  · show n.k + _ ≤ _; split <;> omega
  · omega
theorem Num.none_k (n : Num) : n.none.k ≤ n.k + 1 := by unfold Num.none; split <;> (try simp only) <;> omega
theorem Num.sign_k (n : Num) : n.sign.k = n.k := by unfold Num.sign; split <;> rfl
theorem Num.exp_k (fl : Bool) (n : Num) : (n.exp fl).k ≤ n.k + 2 := by
  unfold Num.exp; split
  · unfold Num.expDig
    simp only [Num.sign_k]
    have h1 : ∀ (p : Prop) [Decidable p], (if p then 1 else 0) ≤ 1 := fun p _ => by split <;> omega
    have h2 : ∀ (p : Prop) [Decidable p], (if p then 0 else 1) ≤ 1 := fun p _ => by split <;> omega
    have := h1 ((lowerOf (chOf n.l) = 101 ∧ n.pr ≠ 0 ∧ n.pr ≠ 48) ∨ (lowerOf (chOf n.l) = 112 ∧ n.pr ≠ 120))
    refine Nat.le_trans (Nat.add_le_add (Nat.add_le_add_left this _) (h2 _)) ?_
    omega
  · split <;> (try simp only) <;> omega
theorem Num.bad_k (n : Num) : n.bad.k ≤ n.k + 1 := by unfold Num.bad; split <;> (try simp only) <;> omega
theorem Num.sep_k (src : List UInt8) (st : Nat) (n : Num) : (n.sep src st).k ≤ n.k + 1 := by unfold Num.sep; split <;> (try simp only) <;> omega
theorem numRun_k (src : List UInt8) (st : Nat) (fl dot : Bool) (l : List Item) : (numRun src st fl dot l).k ≤ 6 := by
  unfold numRun
  generalize hn : (⟨l, 10, 0, false, false, 0, 0, dot, 0⟩ : Num) = n0
  have h0 : n0.k = 0 := by rw [← hn]
  have h1 := Num.whole_k fl n0
  have h2 := Num.frac_k (Num.whole fl n0)
  have h3 := Num.none_k (Num.whole fl n0).frac
  have h4 := Num.exp_k fl (Num.whole fl n0).frac.none
  have h5 := Num.bad_k ((Num.whole fl n0).frac.none.exp fl)
  have h6 := Num.sep_k src st ((Num.whole fl n0).frac.none.exp fl).bad
  omega
theorem oneAt_k (C : Cfg) (src : List UInt8) (l : List Item) : (oneAt C src l).k + 8 * (oneAt C src l).l.length ≤ 8 * l.length := by
  have h := oneAt_lt C src l
  by_cases hne : l = []
  · rcases h with h | h
    · subst hne
      unfold oneAt
      rw [chOf_nil, if_neg (by rw [C.I.e0]; decide), if_neg (by decide), if_pos rfl]
      simp
    · have := h.2.1; rw [hne] at this; simp at this
  · have hlt : (oneAt C src l).l.length < l.length := by
      rcases h with h | h
      · exact absurd h.2.1 hne
      · exact h.2.1
    have ht := tail_lt hne
    have self : (One.self l).k = 0 := rfl
    suffices hk : (oneAt C src l).k ≤ 8 ∨ (oneAt C src l).k + (oneAt C src l).l.length ≤ l.length + 1 by
      rcases hk with hk | hk <;> omega
    have tl : ∀ m : List Item, m.tail.length ≤ m.length - 1 := fun m => by simp
    unfold oneAt
    repeat' split
    · left; unfold oneId; split
      · exact Nat.zero_le _
      · rw [self]; omega
    · left; unfold oneNum; split
      · exact Nat.le_trans (numRun_k _ _ _ _ _) (by omega)
      · rw [self]; omega
    · left; exact Nat.zero_le _
    · unfold oneStr; split
      · have := strRun_k 34 l.tail
        have := tl (strRun 34 l.tail).1
        right; simp only; omega
      · left; rw [self]; omega
    · unfold oneChr; split
      · have h1 := strRun_k 39 l.tail
        have h2 := tl (strRun 39 l.tail).1
        have h3 := chrErr_k (strRun 39 l.tail).2.1
        by_cases h4 : (strRun 39 l.tail).1.length = 0
        · right
          simp only
          omega
        · right; simp only; omega
      · left; rw [self]; omega
    · left; unfold oneDot; split
      · exact Nat.le_trans (numRun_k _ _ _ _ _) (by omega)
      · rw [self]; omega
    · left; unfold oneCom; split
      · exact Nat.le_trans (comment_k _) (by omega)
      · rw [self]; omega
    · left; unfold oneRaw; split
      · exact Nat.le_trans (rawErr_k _) (by omega)
      · rw [self]; omega
    · left; rw [self]; omega
theorem scanGo_k (C : Cfg) (src : List UInt8) (l : List Item) : (scanGo C src l).k + 8 * (scanGo C src l).l.length ≤ 8 * l.length := by
  induction hn : l.length using Nat.strongRecOn generalizing l with
  | _ n ih =>
    subst hn
    have hm := more_le (isWh C.white) l
    have h1 := oneAt_k C src (more (isWh C.white) l)
    cases hr : (oneAt C src (more (isWh C.white) l)).redo with
    | true =>
      have h2 := (oneAt_redo hr).1
      rw [scanGo_redo hr]
      have := ih _ (by omega) (oneAt C src (more (isWh C.white) l)).l rfl
      simp only; omega
    | false =>
      rw [scanGo_stop hr]
      simp only; omega
theorem errsOf_le (C : Cfg) (src : List UInt8) (l : List Item) : errsOf (toks C src l) ≤ 8 * l.length := by
  induction hn : l.length using Nat.strongRecOn generalizing l with
  | _ n ih =>
    subst hn
    have hk := scanGo_k C src l
    rcases scanGo_lt C src l with h | h
    · rw [toks_end h.1]
      simp only [errsOf, List.map_cons, List.map_nil, List.sum_cons, List.sum_nil]; omega
    · rw [toks_step h.1 h.2]
      have := ih _ h.2 _ rfl
      simp only [errsOf, List.map_cons, List.sum_cons] at this ⊢
      omega
theorem lexErrs_le (l : List Item) : lexErrs l ≤ l.length := by
  induction l with
  | nil => exact Nat.le_refl _
  | cons c l ih =>
    have : lexErr c ≤ 1 := by unfold lexErr; split <;> omega
    simp only [lexErrs, List.map_cons, List.sum_cons, List.length_cons] at ih ⊢
    omega
theorem lexErrs_pos {l : List Item} {c : Item} (hc : c ∈ l) (h : c.bad = true ∨ c.r = 0) : 0 < lexErrs l := by
  induction l with
  | nil => cases hc
  | cons d l ih =>
    simp only [lexErrs, List.map_cons, List.sum_cons] at ih ⊢
    rcases List.mem_cons.1 hc with rfl | hc
    · have : lexErr c = 1 := by unfold lexErr; rw [if_pos h]
      omega
    · have := ih hc; omega
/-- The number of errors, as the scanner counts it. -/
def errNum (C : Cfg) (src : List UInt8) : Nat := lexErrs (items src) + errsOf (toks C src (startL src))
theorem items_le (src : List UInt8) : (items src).length ≤ src.length := suffix_len (pre := []) rfl
theorem startL_le (src : List UInt8) : (startL src).length ≤ src.length := by
  obtain ⟨pre, h⟩ := startL_pre src
  exact suffix_len h
theorem errNum_le (C : Cfg) (src : List UInt8) : errNum C src ≤ 9 * src.length := by
  have h1 := lexErrs_le (items src)
  have h2 := errsOf_le C src (startL src)
  have h3 := items_le src
  have h4 := startL_le src
  unfold errNum; omega
theorem errNum_wrap (C : Cfg) (src : List UInt8) (h : src.length ≤ 10000000000) : wrap64 ((lexErrs (items src) : Nat) + (errsOf (toks C src (startL src)) : Nat)) = (errNum C src : Nat) := by
  have := errNum_le C src
  unfold errNum at *
  unfold wrap64; omega
theorem errNum_pos {C : Cfg} {src : List UInt8} {c : Item} (hc : c ∈ items src) (h : c.bad = true ∨ c.r = 0) : 0 < errNum C src := by
  have := lexErrs_pos hc h
  unfold errNum; omega
end Go.Proofs.YtmfihkgbfoapaaaDoor
namespace Go.Proofs.YtmfihkgbfoapaaaDoor
set_option linter.unusedVariables false
set_option linter.unusedSimpArgs false
open Go Go.RowKit Go.Lib

/-- A token without its errors. -/
def core (g : Got) : Got := ⟨g.tok, g.at_, g.l, 0⟩
theorem tokOf_core (src : List UInt8) (g : Got) : tokOf src (core g) = tokOf src g := rfl
def ctoks (C : Cfg) (src : List UInt8) (l : List Item) : List Got := (toks C src l).map core
theorem ctoks_tok (C : Cfg) (src : List UInt8) (l : List Item) : (toks C src l).map (tokOf src) = (ctoks C src l).map (tokOf src) := by
  unfold ctoks; rw [List.map_map]; rfl
/-- The tokens hang on what a call of Scan gives alone. -/
theorem ctoks_congr {C : Cfg} {src : List UInt8} {l l' : List Item} (h : core (scanGo C src l) = core (scanGo C src l')) : ctoks C src l = ctoks C src l' := by
  have h1 : (scanGo C src l).tok = (scanGo C src l').tok := by have := congrArg Got.tok h; exact this
  have h2 : (scanGo C src l).l = (scanGo C src l').l := by have := congrArg Got.l h; exact this
  unfold ctoks
  rcases scanGo_lt C src l with a | a <;> rcases scanGo_lt C src l' with b | b
  · rw [toks_end a.1, toks_end b.1, List.map_cons, List.map_cons, h]
  · exact absurd (h1.symm.trans a.1) b.1
  · exact absurd (h1.trans b.1) a.1
  · rw [toks_step a.1 a.2, toks_step b.1 b.2, List.map_cons, List.map_cons, h, h2]
theorem ctoks_end {C : Cfg} {src : List UInt8} {l : List Item} (h : (scanGo C src l).tok = -1) : ctoks C src l = [core (scanGo C src l)] := by
  unfold ctoks; rw [toks_end h]; rfl
theorem ctoks_step {C : Cfg} {src : List UInt8} {l : List Item} (h : (scanGo C src l).tok ≠ -1) : ctoks C src l = core (scanGo C src l) :: ctoks C src (scanGo C src l).l := by
  unfold ctoks
  rcases scanGo_lt C src l with a | a
  · exact absurd a.1 h
  · rw [toks_step a.1 a.2]; rfl
theorem core_redo {C : Cfg} {src : List UInt8} {l : List Item} (h : (oneAt C src (more (isWh C.white) l)).redo = true) : core (scanGo C src l) = core (scanGo C src (oneAt C src (more (isWh C.white) l)).l) := by
  rw [scanGo_redo h]; rfl

/-- Two modes that part in the bit that leaves comments out alone. -/
structure Skips (C1 C2 : Cfg) : Prop where
  id : C1.I = C2.I
  white : C1.white = C2.white
  b4 : hasBit C1.mode 4 = hasBit C2.mode 4
  b24 : hasBit C1.mode 24 = hasBit C2.mode 24
  b16 : hasBit C1.mode 16 = hasBit C2.mode 16
  b64 : hasBit C1.mode 64 = hasBit C2.mode 64
  b32 : hasBit C1.mode 32 = hasBit C2.mode 32
  b128 : hasBit C1.mode 128 = hasBit C2.mode 128
  c1 : hasBit C1.mode 256 = true
  c2 : hasBit C2.mode 256 = true
  s1 : hasBit C1.mode 512 = true
  s2 : hasBit C2.mode 512 = false
theorem One.self_tok (l : List Item) : (One.self l).tok ≠ -8 := by
  unfold One.self
  cases l with
  | nil => rw [chOf_nil]; decide
  | cons c l => show ((c.r : Int)) ≠ -8; omega
theorem skip_one {C1 C2 : Cfg} (h : Skips C1 C2) (src : List UInt8) (l : List Item) :
    (oneAt C1 src l).tok = (oneAt C2 src l).tok ∧ (oneAt C1 src l).l = (oneAt C2 src l).l ∧ (oneAt C2 src l).redo = false ∧ ((oneAt C1 src l).redo = true ↔ (oneAt C2 src l).tok = -8) := by
  have hs := One.self_tok l
  have key : ∀ a : One, a.redo = false → a.tok ≠ -8 → a.tok = a.tok ∧ a.l = a.l ∧ a.redo = false ∧ (a.redo = true ↔ a.tok = -8) := fun a h1 h2 => ⟨rfl, rfl, h1, by rw [h1]; exact ⟨(fun h => absurd h (by decide)), fun h => absurd h h2⟩⟩
  unfold oneAt
  rw [h.id]
  repeat' split
  · have e : oneId C1 l = oneId C2 l := by unfold oneId; rw [h.b4, h.id]
    rw [e]
    refine key _ ?_ ?_ <;> (unfold oneId; split)
    · rfl
    · rfl
    · show (-2 : Int) ≠ -8; decide
    · exact hs
  · have e : oneNum C1 src l = oneNum C2 src l := by unfold oneNum; rw [h.b24, h.b16]
    rw [e]
    refine key _ ?_ ?_ <;> (unfold oneNum; split)
    · rfl
    · rfl
    · have := (numRun_parts src (offOf src l) (hasBit C2.mode 16) false l).2
      show Num.tok _ ≠ -8; omega
    · exact hs
  · exact key _ rfl (by show (-1 : Int) ≠ -8; decide)
  · have e : oneStr C1 l = oneStr C2 l := by unfold oneStr; rw [h.b64]
    rw [e]
    refine key _ ?_ ?_ <;> (unfold oneStr; split)
    · rfl
    · rfl
    · show (-6 : Int) ≠ -8; decide
    · exact hs
  · have e : oneChr C1 l = oneChr C2 l := by unfold oneChr; rw [h.b32]
    rw [e]
    refine key _ ?_ ?_ <;> (unfold oneChr; split)
    · rfl
    · rfl
    · show (-5 : Int) ≠ -8; decide
    · exact hs
  · have e : oneDot C1 src l = oneDot C2 src l := by unfold oneDot; rw [h.b16]
    rw [e]
    refine key _ ?_ ?_ <;> (unfold oneDot; split)
    · rfl
    · rfl
    · have := (numRun_parts src (offOf src l) (hasBit C2.mode 16) true l.tail).2
      show Num.tok _ ≠ -8; omega
    · exact hs
  · unfold oneCom
    rw [h.c1, h.c2, h.s1, h.s2]
    split
    · exact ⟨rfl, rfl, rfl, by simp⟩
    · exact key _ rfl hs
  · have e : oneRaw C1 l = oneRaw C2 l := by unfold oneRaw; rw [h.b128]
    rw [e]
    refine key _ ?_ ?_ <;> (unfold oneRaw; split)
    · rfl
    · rfl
    · show (-7 : Int) ≠ -8; decide
    · exact hs
  · exact key _ rfl hs
theorem skip_toks {C1 C2 : Cfg} (h : Skips C1 C2) (src : List UInt8) (l : List Item) : ctoks C1 src l = (ctoks C2 src l).filter fun g => decide (g.tok ≠ -8) := by
  induction hn : l.length using Nat.strongRecOn generalizing l with
  | _ n ih =>
    subst hn
    obtain ⟨t, e, r2, r1⟩ := skip_one h src (more (isWh C2.white) l)
    have s2 := scanGo_stop r2
    have hm := more_le (isWh C2.white) l
    have hw : more (isWh C1.white) l = more (isWh C2.white) l := by rw [h.white]
    by_cases h8 : (oneAt C2 src (more (isWh C2.white) l)).tok = -8
    · have hr1 := r1.2 h8
      have hlt := (oneAt_redo hr1).1
      have hc := ctoks_congr (core_redo (C := C1) (src := src) (l := l) (by rw [hw]; exact hr1))
      rw [hw, e] at hc
      rw [e] at hlt
      rw [hc, ih _ (by omega) _ rfl, ctoks_step (l := l) (by rw [s2]; show (oneAt C2 src _).tok ≠ -1; rw [h8]; decide), List.filter_cons_of_neg (by rw [s2]; simp [core, h8])]
      rw [s2]
    · have hr1 : (oneAt C1 src (more (isWh C2.white) l)).redo = false := by
        cases hr : (oneAt C1 src (more (isWh C2.white) l)).redo with
        | false => rfl
        | true => exact absurd (r1.1 hr) h8
      have s1 := scanGo_stop (C := C1) (src := src) (l := l) (by rw [hw]; exact hr1)
      rw [hw] at s1
      have hcc : core (scanGo C1 src l) = core (scanGo C2 src l) := by rw [s1, s2]; unfold core; simp only [t, e]
      have h1 : (scanGo C1 src l).tok = (scanGo C2 src l).tok := (show (core (scanGo C1 src l)).tok = (core (scanGo C2 src l)).tok from by rw [hcc])
      have h2 : (scanGo C1 src l).l = (scanGo C2 src l).l := (show (core (scanGo C1 src l)).l = (core (scanGo C2 src l)).l from by rw [hcc])
      have h3 : (scanGo C2 src l).tok ≠ -8 := by rw [s2]; exact h8
      have f1 : (fun g : Got => decide (g.tok ≠ -8)) (core (scanGo C2 src l)) = true := decide_eq_true h3
      by_cases he : (scanGo C2 src l).tok = -1
      · rw [ctoks_end (h1.trans he), ctoks_end he, hcc, List.filter_cons_of_pos (p := fun g : Got => decide (g.tok ≠ -8)) f1]; rfl
      · rw [ctoks_step (by rw [h1]; exact he), ctoks_step he, hcc, List.filter_cons_of_pos (p := fun g : Got => decide (g.tok ≠ -8)) f1, h2]
        rcases scanGo_lt C2 src l with hl | hl
        · exact absurd hl.1 he
        · rw [ih _ hl.2 _ rfl]

/-- Two kinds of white space that part in one character alone, which stands in no token but its own. -/
structure Spaces (C1 C2 : Cfg) (k : Int) : Prop where
  id : C1.I = C2.I
  mode : C1.mode = C2.mode
  k0 : 1 ≤ k ∧ k ≤ 32
  ident : C2.I.p0 k = false
  on : isWh C1.white k = true
  off : isWh C2.white k = false
  other : ∀ c, c ≠ k → isWh C1.white c = isWh C2.white c
theorem more_both {C1 C2 : Cfg} {k : Int} (h : Spaces C1 C2 k) (l : List Item) : more (isWh C1.white) l = more (isWh C1.white) (more (isWh C2.white) l) := by
  induction l with
  | nil => rfl
  | cons c l ih =>
    by_cases hc : isWh C2.white c.r = true
    · have hne : (c.r : Int) ≠ k := fun e => by rw [e, h.off] at hc; cases hc
      have h1 : isWh C1.white c.r = true := (h.other _ hne).trans hc
      have e2 : more (isWh C2.white) (c :: l) = more (isWh C2.white) l := List.dropWhile_cons_of_pos hc
      have e1 : more (isWh C1.white) (c :: l) = more (isWh C1.white) l := List.dropWhile_cons_of_pos h1
      rw [e1, e2]; exact ih
    · have e2 : more (isWh C2.white) (c :: l) = c :: l := List.dropWhile_cons_of_neg hc
      rw [e2]
theorem oneAt_conf {C1 C2 : Cfg} (hi : C1.I = C2.I) (hm : C1.mode = C2.mode) (src : List UInt8) (l : List Item) : oneAt C1 src l = oneAt C2 src l := by
  unfold oneAt oneId oneNum oneStr oneChr oneDot oneCom oneRaw; rw [hi, hm]
theorem scanGo_more {C : Cfg} {src : List UInt8} {l l' : List Item} (h : more (isWh C.white) l = more (isWh C.white) l') : core (scanGo C src l) = core (scanGo C src l') := by
  cases hr : (oneAt C src (more (isWh C.white) l)).redo with
  | true => rw [core_redo hr, core_redo (l := l') (by rw [← h]; exact hr), h]
  | false => rw [scanGo_stop hr, scanGo_stop (l := l') (by rw [← h]; exact hr), h]
theorem self_at {C : Cfg} {src : List UInt8} {l : List Item} {k : Int} (hk : chOf l = k) (h0 : 1 ≤ k ∧ k ≤ 32) (hi : C.I.p0 k = false) : oneAt C src l = One.self l := by
  unfold oneAt
  have hd : isDec k = false := by
    unfold isDec; rw [decide_eq_false (p := 48 ≤ k) (by omega)]; rfl
  rw [hk, hi, hd]
  rw [if_neg (by decide), if_neg (by decide), if_neg (by omega), if_neg (by omega), if_neg (by omega), if_neg (by omega), if_neg (by omega), if_neg (by omega)]
theorem more_head {p : Int → Bool} {l : List Item} (h : more p l ≠ []) : p (chOf (more p l)) = false := by
  cases hm : more p l with
  | nil => exact absurd hm h
  | cons c t =>
    have := List.head?_dropWhile_not (fun c : Item => p c.r) l
    unfold more at hm
    rw [hm] at this
    show p (c.r : Int) = false
    simpa using this
theorem space_toks {C1 C2 : Cfg} {k : Int} (h : Spaces C1 C2 k) (src : List UInt8) (l : List Item) : ctoks C1 src l = (ctoks C2 src l).filter fun g => decide (g.tok ≠ k) := by
  induction hn : l.length using Nat.strongRecOn generalizing l with
  | _ n ih =>
    subst hn
    have hm := more_le (isWh C2.white) l
    have hb := more_both h l
    by_cases hk : chOf (more (isWh C2.white) l) = k
    · have hone := self_at (C := C2) (src := src) hk h.k0 h.ident
      have hne : more (isWh C2.white) l ≠ [] := ne_nil_of_ch (by rw [hk]; have := h.k0; omega)
      have hlt := tail_lt hne
      have s2 := scanGo_stop (C := C2) (src := src) (l := l) (by rw [hone]; rfl)
      rw [hone] at s2
      have hm1 : more (isWh C1.white) l = more (isWh C1.white) (more (isWh C2.white) l).tail := by
        rw [hb]
        cases hx : more (isWh C2.white) l with
        | nil => exact absurd hx hne
        | cons c t =>
          have : isWh C1.white c.r = true := by rw [hx] at hk; rw [show (c.r : Int) = k from hk]; exact h.on
          exact List.dropWhile_cons_of_pos this
      rw [ctoks_congr (scanGo_more hm1), ih _ (by omega) _ rfl, ctoks_step (l := l) (by rw [s2]; show chOf _ ≠ -1; rw [hk]; have := h.k0; omega), List.filter_cons_of_neg (by rw [s2]; simp [core, One.self, hk]), s2]
      rfl
    · have hm1 : more (isWh C1.white) l = more (isWh C2.white) l := by
        rw [hb]
        by_cases hne : more (isWh C2.white) l = []
        · rw [hne]; rfl
        · have := more_head hne
          rw [← h.other _ hk] at this
          exact more_stop this
      have ho := oneAt_conf h.id h.mode src (more (isWh C2.white) l)
      cases hr : (oneAt C2 src (more (isWh C2.white) l)).redo with
      | true =>
        have hlt := (oneAt_redo hr).1
        have c2 := ctoks_congr (core_redo (C := C2) (src := src) (l := l) hr)
        have c1 := ctoks_congr (core_redo (C := C1) (src := src) (l := l) (by rw [hm1, ho]; exact hr))
        rw [c1, c2, hm1, ho, ih _ (by omega) _ rfl]
      | false =>
        have s2 := scanGo_stop hr
        have s1 := scanGo_stop (C := C1) (src := src) (l := l) (by rw [hm1, ho]; exact hr)
        rw [hm1, ho] at s1
        have hcc : scanGo C1 src l = scanGo C2 src l := by rw [s1, s2]
        have h3 : (scanGo C2 src l).tok ≠ k := by
          rw [s2]
          show (oneAt C2 src _).tok ≠ k
          have := h.k0
          rcases oneAt_lt C2 src (more (isWh C2.white) l) with h4 | h4
          · rw [h4.1]; omega
          · rcases h4.2.2 with h5 | h5
            · rw [h5]; exact hk
            · omega
        have f1 : (fun g : Got => decide (g.tok ≠ k)) (core (scanGo C2 src l)) = true := decide_eq_true h3
        by_cases he : (scanGo C2 src l).tok = -1
        · rw [ctoks_end (by rw [hcc]; exact he), ctoks_end he, hcc, List.filter_cons_of_pos (p := fun g : Got => decide (g.tok ≠ k)) f1]; rfl
        · rw [ctoks_step (by rw [hcc]; exact he), ctoks_step he, hcc, List.filter_cons_of_pos (p := fun g : Got => decide (g.tok ≠ k)) f1]
          rcases scanGo_lt C2 src l with hl | hl
          · exact absurd hl.1 he
          · rw [ih _ hl.2 _ rfl]
end Go.Proofs.YtmfihkgbfoapaaaDoor
