/- Own texts X6 X7 X8 of this claim, cut to what the claim uses. -/
import Derived.Test.YtmfihkgbfoapaaaDoorZX3
namespace Go.Proofs.YtmfihkgbfoapaaaDoor
set_option linter.unusedVariables false
set_option linter.unusedSimpArgs false
open Go Go.RowKit Go.Lib Go.BigFrame Go.Proofs.YtmfihkgbfoapaaaDoorW.PrintWords
theorem peek1q {e : SpE} (ok : SpOk e) {q : Nat} (hq : e.q = q) {w : World} {mode white : Int} {l : List Item} (h : Sp e w mode white l) :
    Calls Tryd.prog 57 #[.pointer (some ⟨q, 0, none⟩), .int .i64 1] w fun en w' => en = .returned (.int .i32 (chOf l.tail)) ∧ Below w.heap.size w w' := by
  subst hq
  have := peek_sp e ok w mode white l h 1 (by decide)
  rw [show (1 : Int).toNat = 1 from rfl, List.drop_one] at this
  exact this
theorem Sp.cellsq {e : SpE} {q i : Nat} (hq : e.q = q) {w : World} {mode white : Int} {l : List Item} (hi : e.n - l.length = i) (h : Sp e w mode white l) :
    w.cell? ⟨q, 1, none⟩ = some (.int .i64 (i : Int)) ∧ w.frozen? ⟨q, 1, none⟩ = false := by
  subst hq hi
  exact ⟨(cell_of_heap h.blk 1).trans rfl, frozen_of_heap h.blk 1⟩
theorem Sp.stepq {e : SpE} (ok : SpOk e) {q i : Nat} (hq : e.q = q) {w : World} {mode white : Int} {c : Item} {l : List Item} (hi : e.n - (c :: l).length = i) (h : Sp e w mode white (c :: l)) :
    Sp e (w.setCell ⟨q, 1, none⟩ (.int .i64 ((i : Int) + 1))) mode white l ∧ Mv q w (w.setCell ⟨q, 1, none⟩ (.int .i64 ((i : Int) + 1))) ∧ e.n - l.length = i + 1 := by
  subst hq hi
  obtain ⟨h1, h2⟩ := h.next ok 1 (by simp) (z := ((e.n - (c :: l).length : Nat) : Int) + 1) rfl
  have hl := h.len
  simp only [List.length_cons] at hl
  exact ⟨h1, h2, by simp only [List.length_cons]; omega⟩
theorem Sp.step2q {e : SpE} (ok : SpOk e) {q i : Nat} (hq : e.q = q) {w : World} {mode white : Int} {c d : Item} {l : List Item} (hi : e.n - (c :: d :: l).length = i) (h : Sp e w mode white (c :: d :: l)) :
    Sp e (w.setCell ⟨q, 1, none⟩ (.int .i64 ((i : Int) + 2))) mode white l ∧ Mv q w (w.setCell ⟨q, 1, none⟩ (.int .i64 ((i : Int) + 2))) := by
  subst hq hi
  exact h.next ok 2 (by simp) (z := ((e.n - (c :: d :: l).length : Nat) : Int) + 2) rfl
theorem Sp.ib {e : SpE} (ok : SpOk e) {i : Nat} {l : List Item} (hi : e.n - l.length = i) : (i : Int) ≤ 10000000000 := by have := ok.n_le; omega
theorem Sp.range {e : SpE} {w : World} {mode white : Int} {l : List Item} (h : Sp e w mode white l) : -1 ≤ chOf l ∧ chOf l ≤ 1114111 := by
  obtain ⟨pre, hp⟩ := h.suf
  exact chOf_range (src := e.src) (pre := pre) hp.symm
theorem two_of {l : List Item} {a : Int} (h0 : chOf l = a) (ha : a ≠ -1) (h1 : chOf l.tail ≠ -1) : ∃ c d l2, l = c :: d :: l2 := by
  cases l with
  | nil => exact absurd h0.symm ha
  | cons c l =>
    cases l with
    | nil => exact absurd rfl h1
    | cons d l2 => exact ⟨c, d, l2, rfl⟩
theorem drop0 (l : List Item) : l.drop (0 : Int).toNat = l := rfl
theorem drop1 (l : List Item) : l.drop (1 : Int).toNat = l.tail := List.drop_one
theorem peekq {e : SpE} (ok : SpOk e) {q : Nat} (hq : e.q = q) {w : World} {mode white : Int} {l : List Item} (h : Sp e w mode white l) (k : Int) (hk : 0 ≤ k ∧ k ≤ 2) :
    Calls Tryd.prog 57 #[.pointer (some ⟨q, 0, none⟩), .int .i64 k] w fun en w' => en = .returned (.int .i32 (chOf (l.drop k.toNat))) ∧ Below w.heap.size w w' := by
  subst hq; exact peek_sp e ok w mode white l h k hk
def SpPost (e : SpE) (w : World) (mode white : Int) (sure : Bool) (l' : List Item) (w' : World) : Prop := Mv e.q w w' ∧ ∃ l2, Sp e w' mode white l2 ∧ (sure = true → l2 = l')
def SurePost (e : SpE) (w : World) (mode white : Int) (good : Prop) (l' : List Item) (en : Ending) (w' : World) : Prop := ∃ b, en = .returned (.bool b) ∧ (b = true → good) ∧ SpPost e w mode white b l' w'
set_option maxRecDepth 100000 in
set_option maxHeartbeats 1600000 in
theorem comment_sp (e : SpE) (ok : SpOk e) (w : World) (mode white : Int) (l : List Item) (h : Sp e w mode white l) (h0 : chOf l = 47) (h1 : chOf l.tail = 47 ∨ chOf l.tail = 42) :
    Calls Tryd.prog 60 #[.pointer (some ⟨e.q, 0, none⟩)] w (SurePost e w mode white ((comment l.tail).2 = 0) (comment l.tail).1) := by
  obtain ⟨c, d, l2, rfl⟩ := two_of h0 (by decide) (by omega)
  obtain ⟨q, hq⟩ : ∃ q, e.q = q := ⟨_, rfl⟩
  rw [hq]
  obtain ⟨i, hi⟩ : ∃ i, e.n - (c :: d :: l2).length = i := ⟨_, rfl⟩
  have hib := Sp.ib ok hi
  have HQ := Lib.hid hq
  have OK := Lib.hid ok
  have HS := Lib.hid h
  have HI := Lib.hid hi
  have HP1 := Lib.hid (peek1q ok hq h)
  obtain ⟨k, hk⟩ : ∃ k, chOf (c :: d :: l2).tail = k := ⟨_, rfl⟩
  have hcm : comment (c :: d :: l2).tail = if k = 47 then (lineRun l2, 0) else comRun l2 := by unfold comment; rw [hk]; rfl
  rw [hcm]
  rw [hk] at HP1 h1
  clear h ok hq hi hk hcm h0
  rcases h1 with rfl | rfl
  · rw [if_pos rfl]
    go_enter Tryd.func60, Tryd.ntmps60
    go_upto_region 2 with (go_at_call 57; refine (HP1.out).mono ?_; rintro en w1 ⟨rfl, hb1⟩; have h1 := HS.out.old hb1; obtain ⟨c1, fz⟩ := h1.cellsq HQ.out HI.out; have B1 := Lib.hid (And.intro hb1 h1); clear hb1 h1)
    obtain ⟨st, mv⟩ := B1.out.2.step2q OK.out HQ.out HI.out
    obtain ⟨w2, hw2⟩ : ∃ w2, w1.setCell ⟨q, 1, none⟩ (.int .i64 ((i : Int) + 2)) = w2 := ⟨_, rfl⟩
    rw [hw2] at st mv
    have H2 := Lib.hid (And.intro ((Mv.of B1.out.1).trans mv) st)
    clear st mv
    go_upto_region 3 with (fail)
    try rw [hw2]
    clear hw2 B1 HS HI c1 fz
    go_wp2_with (fail)
    go_loopg [] l2.length (fun kk wr => ∃ (l1 : List Item), l1.length ≤ kk ∧ Sp e wr mode white l1 ∧ Mv q w wr ∧ lineRun l1 = lineRun l2)
    case atStart => exact ⟨l2, Nat.le_refl _, H2.out.2, H2.out.1, rfl⟩
    case round =>
      obtain ⟨l1, hk, hs, hm, hln⟩ := hrel
      obtain ⟨j, hj⟩ : ∃ i, e.n - l1.length = i := ⟨_, rfl⟩
      have hib := Sp.ib OK.out hj
      have HI := Lib.hid hj
      have HK := Lib.hid (And.intro hk hln)
      obtain ⟨c1, fz⟩ := hs.cellsq HQ.out hj
      have S := Lib.hid (And.intro hm hs)
      have HR := Lib.hid hs
      clear hk hs hm hln hj
      by_cases hneg : chOf l1 < 0
      · have hng : ¬ 0 ≤ chOf l1 := by omega
        go_wp2_with (first
          | (go_at_call 57; refine (peekq OK.out HQ.out S.out.2 _ (by decide)).mono ?_; (try rw [drop1]); (try rw [drop0]); rintro en wn ⟨rfl, hbn⟩; have hS := And.intro (S.out.1.trans (Mv.of hbn)) (S.out.2.old hbn); clear S hbn; obtain ⟨c1, fz⟩ := hS.2.cellsq HQ.out HI.out; have S := Lib.hid hS; clear hS))
        go_ret
        refine ⟨true, rfl, fun _ => by trivial, ?_, l1, S.out.2, fun _ => ?_⟩
        · rw [HQ.out]; exact S.out.1
        · rw [← HK.out.2, lineRun_stop (.inr hneg)]
      · have hpos : 0 ≤ chOf l1 := by omega
        by_cases h10 : chOf l1 = 10
        · have b10 : (chOf l1 != 10) = false := by rw [h10]; rfl
          go_wp2_with (first
            | (go_at_call 57; refine (peekq OK.out HQ.out S.out.2 _ (by decide)).mono ?_; (try rw [drop1]); (try rw [drop0]); rintro en wn ⟨rfl, hbn⟩; have hS := And.intro (S.out.1.trans (Mv.of hbn)) (S.out.2.old hbn); clear S hbn; obtain ⟨c1, fz⟩ := hS.2.cellsq HQ.out HI.out; have S := Lib.hid hS; clear hS))
          go_ret
          refine ⟨true, rfl, fun _ => by trivial, ?_, l1, S.out.2, fun _ => ?_⟩
          · rw [HQ.out]; exact S.out.1
          · rw [← HK.out.2, lineRun_stop (.inl h10)]
        · have b10 : (chOf l1 != 10) = true := bne_iff_ne.2 h10
          have hne : l1 ≠ [] := ne_nil_of_ch hpos
          cases l1 with
          | nil => exact absurd rfl hne
          | cons c' l3 =>
            go_wp2_with (first
              | (go_at_call 57; refine (peekq OK.out HQ.out S.out.2 _ (by decide)).mono ?_; (try rw [drop1]); (try rw [drop0]); rintro en wn ⟨rfl, hbn⟩; have hS := And.intro (S.out.1.trans (Mv.of hbn)) (S.out.2.old hbn); clear S hbn; obtain ⟨c1, fz⟩ := hS.2.cellsq HQ.out HI.out; have S := Lib.hid hS; clear hS))
            obtain ⟨st, mv, hj2⟩ := S.out.2.stepq OK.out HQ.out HI.out
            go_roundg l3.length
            case measure => have := HK.out.1; simp only [List.length_cons] at this; omega
            case rel => exact ⟨l3, Nat.le_refl _, st, S.out.1.trans mv, by rw [← HK.out.2, lineRun_step h10 hpos]; rfl⟩
  · rw [if_neg (by decide)]
    go_enter Tryd.func60, Tryd.ntmps60
    go_upto_region 2 with (go_at_call 57; refine (HP1.out).mono ?_; rintro en w1 ⟨rfl, hb1⟩; have h1 := HS.out.old hb1; obtain ⟨c1, fz⟩ := h1.cellsq HQ.out HI.out; have B1 := Lib.hid (And.intro hb1 h1); clear hb1 h1)
    obtain ⟨st, mv⟩ := B1.out.2.step2q OK.out HQ.out HI.out
    obtain ⟨w2, hw2⟩ : ∃ w2, w1.setCell ⟨q, 1, none⟩ (.int .i64 ((i : Int) + 2)) = w2 := ⟨_, rfl⟩
    rw [hw2] at st mv
    have H2 := Lib.hid (And.intro ((Mv.of B1.out.1).trans mv) st)
    clear st mv
    go_upto_region 3 with (fail)
    try rw [hw2]
    clear hw2 B1 HS HI c1 fz
    go_wp2_with (fail)
    go_loopg [] l2.length (fun kk wr => ∃ (l1 : List Item), l1.length ≤ kk ∧ Sp e wr mode white l1 ∧ Mv q w wr ∧ comRun l1 = comRun l2)
    case atStart => exact ⟨l2, Nat.le_refl _, H2.out.2, H2.out.1, rfl⟩
    case round =>
      obtain ⟨l1, hk, hs, hm, hln⟩ := hrel
      obtain ⟨j, hj⟩ : ∃ i, e.n - l1.length = i := ⟨_, rfl⟩
      have hib := Sp.ib OK.out hj
      have HI := Lib.hid hj
      have HK := Lib.hid (And.intro hk hln)
      obtain ⟨c1, fz⟩ := hs.cellsq HQ.out hj
      have S := Lib.hid (And.intro hm hs)
      clear hk hs hm hln hj
      by_cases hend : chOf l1 = 42 ∧ chOf l1.tail = 47
      · obtain ⟨c', d', l3, rfl⟩ := two_of hend.1 (by decide) (by rw [hend.2]; decide)
        have b1 : (chOf (c' :: d' :: l3) != 42) = false := by rw [hend.1]; rfl
        have b2 : (chOf (d' :: l3) != 47) = false := by have h2 := hend.2; rw [List.tail_cons] at h2; rw [h2]; rfl
        have HE := Lib.hid hend
        clear hend
        go_wp2_with (first
          | (go_at_call 57; refine (peekq OK.out HQ.out S.out.2 _ (by decide)).mono ?_; (try rw [drop1]); (try rw [drop0]); rintro en wn ⟨rfl, hbn⟩; have hS := And.intro (S.out.1.trans (Mv.of hbn)) (S.out.2.old hbn); clear S hbn; obtain ⟨c1, fz⟩ := hS.2.cellsq HQ.out HI.out; have S := Lib.hid hS; clear hS)
          | fail)
        obtain ⟨st, mv⟩ := S.out.2.step2q OK.out HQ.out HI.out
        go_ret
        refine ⟨true, rfl, fun _ => ?_, ?_, l3, st, fun _ => ?_⟩
        · rw [← HK.out.2, comRun_stop HE.out.1 HE.out.2]
        · rw [HQ.out]; exact S.out.1.trans mv
        · rw [← HK.out.2, comRun_stop HE.out.1 HE.out.2]; rfl
      · have b1 : (chOf l1 != 42) = true ∨ ((chOf l1 != 42) = false ∧ (chOf l1.tail != 47) = true) := by
          by_cases e1 : chOf l1 = 42
          · right; exact ⟨by rw [e1]; rfl, bne_iff_ne.2 (fun e2 => hend ⟨e1, e2⟩)⟩
          · left; exact bne_iff_ne.2 e1
        have HE := Lib.hid hend
        clear hend
        by_cases hneg : chOf l1 < 0
        · rcases b1 with b1 | ⟨b1, b2⟩
          all_goals
            go_wp2_with (first
              | (go_at_call 57; refine (peekq OK.out HQ.out S.out.2 _ (by decide)).mono ?_; (try rw [drop1]); (try rw [drop0]); rintro en wn ⟨rfl, hbn⟩; have hS := And.intro (S.out.1.trans (Mv.of hbn)) (S.out.2.old hbn); clear S hbn; obtain ⟨c1, fz⟩ := hS.2.cellsq HQ.out HI.out; have S := Lib.hid hS; clear hS)
              | fail)
            go_ret
            refine ⟨false, rfl, (fun h => by cases h), ?_, l1, S.out.2, (fun h => by cases h)⟩
            rw [HQ.out]; exact S.out.1
        · have hpos : 0 ≤ chOf l1 := by omega
          have hne : l1 ≠ [] := ne_nil_of_ch hpos
          have hst : comRun l1 = comRun l1.tail := comRun_step hpos (by
            by_cases e1 : chOf l1 = 42
            · right; exact fun e2 => HE.out ⟨e1, e2⟩
            · exact .inl e1)
          cases l1 with
          | nil => exact absurd rfl hne
          | cons c' l3 =>
            rw [List.tail_cons] at b1
            rcases b1 with b1 | ⟨b1, b2⟩
            all_goals
              go_wp2_with (first
                | (go_at_call 57; refine (peekq OK.out HQ.out S.out.2 _ (by decide)).mono ?_; (try rw [drop1]); (try rw [drop0]); rintro en wn ⟨rfl, hbn⟩; have hS := And.intro (S.out.1.trans (Mv.of hbn)) (S.out.2.old hbn); clear S hbn; obtain ⟨c1, fz⟩ := hS.2.cellsq HQ.out HI.out; have S := Lib.hid hS; clear hS)
                | fail)
              obtain ⟨st, mv, hj2⟩ := S.out.2.stepq OK.out HQ.out HI.out
              go_roundg l3.length
              case measure => have := HK.out.1; simp only [List.length_cons] at this; omega
              case rel => exact ⟨l3, Nat.le_refl _, st, S.out.1.trans mv, by rw [← HK.out.2, hst]; rfl⟩
end Go.Proofs.YtmfihkgbfoapaaaDoor
namespace Go.Proofs.YtmfihkgbfoapaaaDoor
set_option linter.unusedVariables false
set_option linter.unusedSimpArgs false
open Go Go.RowKit Go.Lib Go.BigFrame Go.Proofs.YtmfihkgbfoapaaaDoorW.PrintWords
theorem has_esc (c : Int) : hasRune ⟨#[97, 98, 102, 110, 114, 116, 118, 92]⟩ 0 c = (c == 97 || c == 98 || c == 102 || c == 110 || c == 114 || c == 116 || c == 118 || c == 92) := by
  have h : runesFrom ⟨#[97, 98, 102, 110, 114, 116, 118, 92]⟩ 0 = [97, 98, 102, 110, 114, 116, 118, 92] := by kernel_rfl
  unfold hasRune
  rw [h]
  simp [Bool.or_assoc, BEq.comm]
theorem digVal_dg {c : Int} (hc : -1 ≤ c ∧ c ≤ 1114111) : digVal c = dgOf c := by
  unfold digVal
  by_cases h : isDec c = true
  · rw [if_pos h, dgOf_dec h]
  · rw [if_neg h]
    have hd := Bool.not_eq_true _ ▸ h
    by_cases h1 : 97 ≤ c ∧ c ≤ 102
    · have e := (lower_char (k := c) hc (by omega)).2 (.inl rfl)
      rw [e, if_pos h1, dgOf_low h1]; omega
    · by_cases h2 : 65 ≤ c ∧ c ≤ 70
      · have e := (lower_char (k := c + 32) hc (by omega)).2 (.inr (by omega))
        rw [e, if_pos (by omega), dgOf_up h2]; omega
      · rw [dgOf_no hd h1 h2, if_neg]
        intro h3
        have := (lower_char (k := lowerOf c) hc (by omega)).1 rfl
        omega
theorem digitQ (w : World) (c v : Int) (hc : -1 ≤ c ∧ c ≤ 1114111) (h : dgOf c = v) : Calls Tryd.prog 104 #[.int .i32 c] w fun e w' => e = .returned (.int .i64 v) ∧ w' = w := by
  rw [← h]; exact digitOf_spec w c hc
theorem escQ (w : World) (r : Int) (b : Bool) (h : hasRune ⟨#[97, 98, 102, 110, 114, 116, 118, 92]⟩ 0 r = b) : Calls Tryd.prog 84 #[.string ⟨#[97, 98, 102, 110, 114, 116, 118, 92]⟩, .int .i32 r] w fun e w' => e = .returned (.bool b) ∧ Below w.heap.size w w' := by
  rw [← h]; exact has84 w _ r (by show 8 ≤ 70368744177664; omega)
def EscAt (e : SpE) (w : World) (mode white : Int) (r : List Item × Nat) (M B T : Int) (wr : World) : Prop :=
  ∃ (m : Nat) (l3 : List Item), M = m ∧ ((B = 8 ∧ M = 3) ∨ (B = 16 ∧ (M = 2 ∨ M = 4 ∨ M = 8))) ∧ Mv e.q w wr ∧ Sp e wr mode white l3 ∧ r = digRun B m l3
set_option maxRecDepth 100000 in
set_option maxHeartbeats 3200000 in
theorem escape_sp (e : SpE) (ok : SpOk e) (w : World) (mode white : Int) (l : List Item) (h : Sp e w mode white l) (h0 : chOf l = 92) (qt : Int) (hqt : qt = 34 ∨ qt = 39) :
    Calls Tryd.prog 88 #[.pointer (some ⟨e.q, 0, none⟩), .int .i32 qt] w (SurePost e w mode white ((escRun qt l).2 = 0) (escRun qt l).1) := by
  have hne : l ≠ [] := by rintro rfl; cases h0
  cases l with
  | nil => exact absurd rfl hne
  | cons c0 l1 =>
  obtain ⟨q, hq⟩ : ∃ q, e.q = q := ⟨_, rfl⟩
  rw [hq]
  obtain ⟨i, hi⟩ : ∃ i, e.n - (c0 :: l1).length = i := ⟨_, rfl⟩
  have hib := Sp.ib ok hi
  obtain ⟨c1, fz⟩ := h.cellsq hq hi
  obtain ⟨st, mv, hi2⟩ := h.stepq ok hq hi
  have hib2 := Sp.ib ok hi2
  have hr := st.range
  have HQ := Lib.hid hq
  have OK := Lib.hid ok
  obtain ⟨r, hre⟩ : ∃ r, chOf l1 = r := ⟨_, rfl⟩
  rw [hre] at hr
  have HR := Lib.hid hre
  have HS := Lib.hid (And.intro st (And.intro mv hi2))
  clear h ok hq hi hne h0 st mv hre hi2
  go_enter Tryd.func88, Tryd.ntmps88
  go_upto_region 2 with (fail)
  obtain ⟨w2, hw2⟩ : ∃ w2, w.setCell ⟨q, 1, none⟩ (.int .i64 ((i : Int) + 1)) = w2 := ⟨_, rfl⟩
  have hS := HS.out
  rw [hw2] at hS
  try rw [hw2]
  clear hw2 HS c1 fz hib
  have S := Lib.hid hS
  have HI := Lib.hid hS.2.2
  clear hS
  go_upto_block 0 with (go_at_call 57; refine (peekq OK.out HQ.out S.out.1 _ (by decide)).mono ?_; (try rw [drop0]); rw [HR.out]; rintro en wn ⟨rfl, hbn⟩; have hS := And.intro (S.out.2.1.trans (Mv.of hbn)) (S.out.1.old hbn); clear S hbn; obtain ⟨c1, fz⟩ := hS.2.cellsq HQ.out HI.out; have S := Lib.hid hS; clear hS)
  obtain ⟨R, hR⟩ : ∃ R, escRun qt (c0 :: l1) = R := ⟨_, rfl⟩
  rw [hR]
  have hesc : R = if r = 97 ∨ r = 98 ∨ r = 102 ∨ r = 110 ∨ r = 114 ∨ r = 116 ∨ r = 118 ∨ r = 92 ∨ r = qt then (l1.tail, 0) else if 48 ≤ r ∧ r ≤ 55 then digRun 8 3 l1 else if r = 120 then digRun 16 2 l1.tail else if r = 117 then digRun 16 4 l1.tail else if r = 85 then digRun 16 8 l1.tail else (l1, 1) := by
    have e1 := HR.out; subst e1; rw [← hR]; unfold escRun; rfl
  have HE := Lib.hid hesc
  have HRE := Lib.hid hR
  clear hesc hR
  go_cut [6, 7, 8] (fun m b t wr => ∃ M B T : Int, m = .int .i64 M ∧ b = .int .i64 B ∧ t = .int .i64 T ∧ EscAt e w mode white R M B T wr)
  case first =>
    have hcont : (0 ≤ r → l1 ≠ []) := fun h0 hn => by have := HR.out; rw [hn, chOf_nil] at this; omega
    by_cases hone : r = 97 ∨ r = 98 ∨ r = 102 ∨ r = 110 ∨ r = 114 ∨ r = 116 ∨ r = 118 ∨ r = 92 ∨ r = qt
    · have hr0 : 0 ≤ r := by omega
      have hne := hcont hr0
      cases l1 with
      | nil => exact absurd rfl hne
      | cons cx l2 =>
      have hq2 : (r == qt) = true ∨ ((r == qt) = false ∧ hasRune ⟨#[97, 98, 102, 110, 114, 116, 118, 92]⟩ 0 r = true) := by
        by_cases e1 : r = qt
        · left; rw [e1]; simp
        · right
          refine ⟨beq_eq_false_iff_ne.2 e1, ?_⟩
          rw [has_esc]
          have h8 : r = 97 ∨ r = 98 ∨ r = 102 ∨ r = 110 ∨ r = 114 ∨ r = 116 ∨ r = 118 ∨ r = 92 := by omega
          rcases h8 with h | h | h | h | h | h | h | h <;> rw [h] <;> rfl
      have hR2 := HE.out
      rw [if_pos hone, List.tail_cons] at hR2
      have HR2 := Lib.hid hR2
      clear hone hR2 hcont hne HE
      rcases hq2 with hq2 | ⟨hq2, hh⟩
      · go_wp2_with (fail)
        obtain ⟨st, mv, -⟩ := S.out.2.stepq OK.out HQ.out HI.out
        go_ret
        refine ⟨true, rfl, fun _ => by rw [HR2.out], ?_, l2, st, fun _ => by rw [HR2.out]⟩
        rw [HQ.out]; exact S.out.1.trans mv
      · have HH := Lib.hid hh
        clear hh
        go_wp2_with (first
          | (go_at_call 84; refine (escQ _ _ _ HH.out).mono ?_; rintro en wn2 ⟨rfl, hbn⟩; have hS := And.intro (S.out.1.trans (Mv.of hbn)) (S.out.2.old hbn); clear S hbn; obtain ⟨c1, fz⟩ := hS.2.cellsq HQ.out HI.out; have S := Lib.hid hS; clear hS))
        obtain ⟨st, mv, -⟩ := S.out.2.stepq OK.out HQ.out HI.out
        go_ret
        refine ⟨true, rfl, fun _ => by rw [HR2.out], ?_, l2, st, fun _ => by rw [HR2.out]⟩
        rw [HQ.out]; exact S.out.1.trans mv
    · have hq2 : (r == qt) = false := beq_eq_false_iff_ne.2 (by omega)
      have hh : hasRune ⟨#[97, 98, 102, 110, 114, 116, 118, 92]⟩ 0 r = false := by
        rw [has_esc]
        simp only [Bool.or_eq_false_iff, beq_eq_false_iff_ne]
        omega
      have hR2 := HE.out
      rw [if_neg hone] at hR2
      have HH := Lib.hid hh
      clear hone hh HE
      by_cases hneg : r < 0
      · have hm : r = -1 := by omega
        subst hm
        rw [if_neg (by decide), if_neg (by decide), if_neg (by decide), if_neg (by decide)] at hR2
        have HR2 := Lib.hid hR2
        clear hR2 hcont
        go_wp2_with (fail)
        go_ret
        refine ⟨false, rfl, (fun h => by cases h), ?_, l1, S.out.2, (fun h => by cases h)⟩
        rw [HQ.out]; exact S.out.1
      have hr0 : 0 ≤ r := by omega
      have hne := hcont hr0
      clear hcont hneg
      by_cases hoct : 48 ≤ r ∧ r ≤ 55
      · rw [if_pos hoct] at hR2
        have HR2 := Lib.hid hR2
        clear hR2
        obtain ⟨ho1, ho2⟩ := hoct
        go_wp2_with (first
          | (go_at_call 84; refine (escQ _ _ _ HH.out).mono ?_; rintro en wn2 ⟨rfl, hbn⟩; have hS := And.intro (S.out.1.trans (Mv.of hbn)) (S.out.2.old hbn); clear S hbn; obtain ⟨c1, fz⟩ := hS.2.cellsq HQ.out HI.out; have S := Lib.hid hS; clear hS))
        go_meet
        exact ⟨3, 8, 255, rfl, rfl, rfl, 3, l1, rfl, .inl ⟨rfl, rfl⟩, by rw [HQ.out]; exact S.out.1, S.out.2, HR2.out⟩
      rw [if_neg hoct] at hR2
      have hocs : ¬ 48 ≤ r ∨ (48 ≤ r ∧ ¬ r ≤ 55) := by omega
      by_cases hx : r = 120
      · subst hx
        rw [if_pos rfl] at hR2
        have HR2 := Lib.hid hR2
        clear hR2 hoct
        cases l1 with
        | nil => exact absurd rfl hne
        | cons cx l2 =>
        go_wp2_with (first
          | (go_at_call 84; refine (escQ _ _ _ HH.out).mono ?_; rintro en wn2 ⟨rfl, hbn⟩; have hS := And.intro (S.out.1.trans (Mv.of hbn)) (S.out.2.old hbn); clear S hbn; obtain ⟨c1, fz⟩ := hS.2.cellsq HQ.out HI.out; have S := Lib.hid hS; clear hS))
        obtain ⟨st, mv, -⟩ := S.out.2.stepq OK.out HQ.out HI.out
        go_meet
        exact ⟨2, 16, _, rfl, rfl, rfl, 2, l2, rfl, .inr ⟨rfl, by decide⟩, by rw [HQ.out]; exact S.out.1.trans mv, st, HR2.out⟩
      by_cases hu : r = 117
      · subst hu
        rw [if_neg (by decide), if_pos rfl] at hR2
        have HR2 := Lib.hid hR2
        clear hR2 hoct
        cases l1 with
        | nil => exact absurd rfl hne
        | cons cx l2 =>
        go_wp2_with (first
          | (go_at_call 84; refine (escQ _ _ _ HH.out).mono ?_; rintro en wn2 ⟨rfl, hbn⟩; have hS := And.intro (S.out.1.trans (Mv.of hbn)) (S.out.2.old hbn); clear S hbn; obtain ⟨c1, fz⟩ := hS.2.cellsq HQ.out HI.out; have S := Lib.hid hS; clear hS))
        obtain ⟨st, mv, -⟩ := S.out.2.stepq OK.out HQ.out HI.out
        go_meet
        exact ⟨4, 16, _, rfl, rfl, rfl, 4, l2, rfl, .inr ⟨rfl, by decide⟩, by rw [HQ.out]; exact S.out.1.trans mv, st, HR2.out⟩
      by_cases hU : r = 85
      · subst hU
        rw [if_neg (by decide), if_neg (by decide), if_pos rfl] at hR2
        have HR2 := Lib.hid hR2
        clear hR2 hoct
        cases l1 with
        | nil => exact absurd rfl hne
        | cons cx l2 =>
        go_wp2_with (first
          | (go_at_call 84; refine (escQ _ _ _ HH.out).mono ?_; rintro en wn2 ⟨rfl, hbn⟩; have hS := And.intro (S.out.1.trans (Mv.of hbn)) (S.out.2.old hbn); clear S hbn; obtain ⟨c1, fz⟩ := hS.2.cellsq HQ.out HI.out; have S := Lib.hid hS; clear hS))
        obtain ⟨st, mv, -⟩ := S.out.2.stepq OK.out HQ.out HI.out
        go_meet
        exact ⟨8, 16, _, rfl, rfl, rfl, 8, l2, rfl, .inr ⟨rfl, by decide⟩, by rw [HQ.out]; exact S.out.1.trans mv, st, HR2.out⟩
      rw [if_neg hx, if_neg hu, if_neg hU] at hR2
      have b1 : (r == 120) = false := beq_eq_false_iff_ne.2 hx
      have b2 : (r == 117) = false := beq_eq_false_iff_ne.2 hu
      have b3 : (r == 85) = false := beq_eq_false_iff_ne.2 hU
      have HR2 := Lib.hid hR2
      clear hR2 hoct hx hu hU hne
      rcases hocs with ho | ⟨ho, ho2⟩
      all_goals
        go_upto_region 8 with (first
          | (go_at_call 84; refine (escQ _ _ _ HH.out).mono ?_; rintro en wn2 ⟨rfl, hbn⟩; have hS := And.intro (S.out.1.trans (Mv.of hbn)) (S.out.2.old hbn); clear S hbn; obtain ⟨c1, fz⟩ := hS.2.cellsq HQ.out HI.out; have S := Lib.hid hS; clear hS))
        (try (have h2 : ¬ r ≤ 55 := (by omega); clear ho2))
        (try (have h3 : ¬ 48 ≤ r := (by omega); clear ho))
        go_upto_region 10 with (fail)
        (try clear ho)
        (try clear h2)
        (try clear h3)
        go_upto_region 16 with (fail)
        go_upto_region 4 with (fail)
        go_wp2_with (fail)
        go_ret
        refine ⟨false, rfl, (fun h => by cases h), ?_, l1, S.out.2, (fun h => by cases h)⟩
        rw [HQ.out]; exact S.out.1
  case rest =>
    obtain ⟨M, B, T, rfl, rfl, rfl, m, l3, rfl, hMB, hm, hs, hR⟩ := hcut
    have hib3 : (m : Int) ≤ 8 := by omega
    have HM := Lib.hid hMB
    have HR3 := Lib.hid (And.intro hm (And.intro hs hR))
    clear hm hs hR hMB HE S HI HR c1 fz
    go_wp2_with (fail)
    go_loopg [9, 77] m (fun kk v t wr => ∃ (j : Nat) (z : Int) (l4 : List Item), j + kk = m ∧ v = .int .i64 z ∧ t = .int .i64 (j : Nat) ∧ 0 ≤ z ∧ z < 16 ^ j ∧ Mv q w wr ∧ Sp e wr mode white l4 ∧ R = digRun B kk l4)
    case atStart => exact ⟨0, 0, l3, by omega, rfl, rfl, by omega, by decide, by rw [← HQ.out]; exact HR3.out.1, HR3.out.2.1, HR3.out.2.2⟩
    case round =>
      obtain ⟨j, z, l4, hj, rfl, rfl, hz0, hz1, hm, hs, hR⟩ := hrel
      obtain ⟨i4, hi4⟩ : ∃ i, e.n - l4.length = i := ⟨_, rfl⟩
      have hib4 := Sp.ib OK.out hi4
      obtain ⟨c1, fz⟩ := hs.cellsq HQ.out hi4
      have HI := Lib.hid hi4
      have S := Lib.hid (And.intro hm hs)
      have HRR := Lib.hid hR
      have hrg := hs.range
      obtain ⟨v, hv⟩ : ∃ v, dgOf (chOf l4) = v := ⟨_, rfl⟩
      have HV := Lib.hid (And.intro hv hrg)
      have hv16 := dgOf_le (chOf l4)
      rw [hv] at hv16
      clear hm hs hR hi4 hv hrg
      by_cases hjm : j < m
      · obtain ⟨kk', hkk⟩ : ∃ kk', gk = kk' + 1 := ⟨gk - 1, by omega⟩
        subst hkk
        have hz7 : (16 : Int) ^ j ≤ 268435456 := by
          have : (16 : Nat) ^ j ≤ 16 ^ 7 := Nat.pow_le_pow_right (by decide) (by omega)
          have e2 : ((16 ^ j : Nat) : Int) = (16 : Int) ^ j := by simp
          rw [← e2]
          have e3 : (16 : Nat) ^ 7 = 268435456 := by decide
          omega
        have hB16 : B = 8 ∨ B = 16 := by have := HM.out; omega
        have hrr := HRR.out
        rw [digRun, digVal_dg HV.out.2, HV.out.1] at hrr
        have hzb : z ≤ 268435455 := by omega
        have HZ := Lib.hid hz1
        clear hz1 hz7
        by_cases hvb : v < B
        · rw [if_pos hvb] at hrr
          have hne : l4 ≠ [] := by rintro rfl; have := HV.out.1; rw [chOf_nil, dgOf_end] at this; omega
          have HRR2 := Lib.hid hrr
          have hv0 : 0 ≤ v := by
            have h1 := HV.out.1
            have h2 := dgOf_cases (c := chOf l4) (by omega)
            unfold dgOf at h1
            split at h1
            · rename_i h3; have := isDec_iff.1 h3; omega
            · split at h1
              · omega
              · split at h1 <;> omega
          clear hrr HRR
          cases l4 with
          | nil => exact absurd rfl hne
          | cons cx l5 =>
            clear hne
            rcases hB16 with rfl | rfl
            all_goals
              have hvn := Int.not_le.2 hvb
              have HJ := Lib.hid (And.intro hj (And.intro hvb hjm))
              clear hj hvb
              go_upto_region 23 with (first
                | (go_at_call 57; refine (peekq OK.out HQ.out S.out.2 _ (by decide)).mono ?_; (try rw [drop0]); rintro en wn ⟨rfl, hbn⟩; have hS := And.intro (S.out.1.trans (Mv.of hbn)) (S.out.2.old hbn); clear S hbn; obtain ⟨c1, fz⟩ := hS.2.cellsq HQ.out HI.out; have S := Lib.hid hS; clear hS)
                | (go_at_call 104; refine (digitQ _ _ _ HV.out.2 HV.out.1).mono ?_; rintro en wn2 ⟨rfl, rfl⟩))
              have hvn := Int.not_le.2 HJ.out.2.1
              go_upto_region 25 with (fail)
              go_wp2_with (fail)
              obtain ⟨st, mv, -⟩ := S.out.2.stepq OK.out HQ.out HI.out
              obtain ⟨hj, hvb, hjm⟩ := HJ.out
              go_roundg kk'
              case measure => omega
              case rel =>
                refine ⟨j + 1, _, l5, by omega, rfl, by go_num, by omega, ?_, S.out.1.trans mv, st, HRR2.out⟩
                have := HZ.out
                rw [Int.pow_succ]; omega
        · rw [if_neg hvb] at hrr
          have HRR2 := Lib.hid hrr
          clear hrr HRR
          go_wp2_with (first
            | (go_at_call 57; refine (peekq OK.out HQ.out S.out.2 _ (by decide)).mono ?_; (try rw [drop0]); rintro en wn ⟨rfl, hbn⟩; have hS := And.intro (S.out.1.trans (Mv.of hbn)) (S.out.2.old hbn); clear S hbn; obtain ⟨c1, fz⟩ := hS.2.cellsq HQ.out HI.out; have S := Lib.hid hS; clear hS)
            | (go_at_call 104; refine (digitQ _ _ _ HV.out.2 HV.out.1).mono ?_; rintro en wn2 ⟨rfl, rfl⟩))
          go_ret
          refine ⟨false, rfl, (fun h => by cases h), ?_, l4, S.out.2, (fun h => by cases h)⟩
          rw [HQ.out]; exact S.out.1
      · have hg0 : gk = 0 := by omega
        subst hg0
        have hrr := HRR.out
        rw [digRun] at hrr
        have HRR2 := Lib.hid hrr
        clear hrr HRR hz1 HV hv16 hj
        go_upto_region 28 with (fail)
        clear hqt hib2 hr hib3 hib4 hjm
        have two : ∀ b : Bool, b = true ∨ b = false := fun b => by cases b <;> simp
        rcases two (decide (z ≤ T)) with e1 | e1 <;> rcases two (decide ((m : Int) < 4)) with e2 | e2 <;> rcases two (decide (z < 55296)) with e3 | e3 <;> rcases two (decide (57344 ≤ z)) with e4 | e4
        all_goals
          clear two
          go_wp2_with (fail)
          go_ret
          refine ⟨_, rfl, (fun _ => by rw [HRE.out, HRR2.out]), ?_, l4, S.out.2, (fun _ => by rw [HRE.out, HRR2.out])⟩
          rw [HQ.out]; exact S.out.1
end Go.Proofs.YtmfihkgbfoapaaaDoor
namespace Go.Proofs.YtmfihkgbfoapaaaDoor
set_option linter.unusedVariables false
set_option linter.unusedSimpArgs false
open Go Go.RowKit Go.Lib Go.BigFrame Go.Proofs.YtmfihkgbfoapaaaDoorW.PrintWords
theorem escapeq {e : SpE} (ok : SpOk e) {q : Nat} (hq : e.q = q) {w : World} {mode white : Int} {l : List Item} (h : Sp e w mode white l) (h0 : chOf l = 92) (qt : Int) (hqt : qt = 34 ∨ qt = 39) :
    Calls Tryd.prog 88 #[.pointer (some ⟨q, 0, none⟩), .int .i32 qt] w (SurePost e w mode white ((escRun qt l).2 = 0) (escRun qt l).1) := by
  subst hq; exact escape_sp e ok w mode white l h h0 qt hqt
def QuoteOk (qt : Int) (l : List Item) : Prop := (strRun qt l.tail).2.2 = 0 ∧ (qt = 34 ∨ (strRun qt l.tail).2.1 = 1)
def quoteL (qt : Int) (l : List Item) : List Item := (strRun qt l.tail).1.tail
set_option maxRecDepth 100000 in
set_option maxHeartbeats 1600000 in
theorem quoted_sp (e : SpE) (ok : SpOk e) (w : World) (mode white : Int) (l : List Item) (h : Sp e w mode white l) (qt : Int) (hqt : qt = 34 ∨ qt = 39) (h0 : chOf l = qt) :
    Calls Tryd.prog 63 #[.pointer (some ⟨e.q, 0, none⟩), .int .i32 qt] w (SurePost e w mode white (QuoteOk qt l) (quoteL qt l)) := by
  have hne : l ≠ [] := by rintro rfl; rw [chOf_nil] at h0; omega
  cases l with
  | nil => exact absurd rfl hne
  | cons c0 l1 =>
  obtain ⟨q, hq⟩ : ∃ q, e.q = q := ⟨_, rfl⟩
  rw [hq]
  obtain ⟨i, hi⟩ : ∃ i, e.n - (c0 :: l1).length = i := ⟨_, rfl⟩
  have hib := Sp.ib ok hi
  obtain ⟨c1, fz⟩ := h.cellsq hq hi
  obtain ⟨st, mv, hi2⟩ := h.stepq ok hq hi
  have hln := st.len
  have hnl := ok.n_le
  have HQ := Lib.hid hq
  have OK := Lib.hid ok
  have HS := Lib.hid (And.intro st mv)
  have hl1 : (l1.length : Int) ≤ 10000000000 := by omega
  clear h ok hq hi hne h0 st mv hi2 hln hnl
  go_enter Tryd.func63, Tryd.ntmps63
  go_upto_region 2 with (fail)
  obtain ⟨w2, hw2⟩ : ∃ w2, w.setCell ⟨q, 1, none⟩ (.int .i64 ((i : Int) + 1)) = w2 := ⟨_, rfl⟩
  have hS := HS.out
  rw [hw2] at hS
  try rw [hw2]
  clear hw2 HS c1 fz hib
  have S0 := Lib.hid hS
  clear hS
  go_wp2_with (fail)
  go_loopg [5] l1.length (fun kk v wr => ∃ (l2 : List Item) (n k : Nat), l2.length ≤ kk ∧ n + l2.length ≤ l1.length ∧ v = .int .i64 (n : Nat) ∧ Sp e wr mode white l2 ∧ Mv q w wr ∧ strRun qt l1 = ((strRun qt l2).1, n + (strRun qt l2).2.1, (strRun qt l2).2.2))
  case atStart => exact ⟨l1, 0, 0, Nat.le_refl _, by omega, rfl, S0.out.1, S0.out.2, by simp⟩
  case round =>
    obtain ⟨l2, n, k0, hk, hnl, rfl, hs, hm, hst⟩ := hrel
    obtain ⟨j, hj⟩ : ∃ i, e.n - l2.length = i := ⟨_, rfl⟩
    have hib := Sp.ib OK.out hj
    have HI := Lib.hid hj
    obtain ⟨c1, fz⟩ := hs.cellsq HQ.out hj
    have S := Lib.hid (And.intro hm hs)
    have hn10 : (n : Int) ≤ 10000000000 := by omega
    have HK := Lib.hid (And.intro hk (And.intro hnl hst))
    obtain ⟨r, hr⟩ : ∃ r, chOf l2 = r := ⟨_, rfl⟩
    have hrg := hs.range
    rw [hr] at hrg
    have HR := Lib.hid hr
    clear hk hs hm hst hj hnl hr
    by_cases hq1 : r = qt
    · have b1 : (r != qt) = false := by rw [hq1]; simp
      have hne : l2 ≠ [] := by rintro rfl; have := HR.out; rw [chOf_nil] at this; omega
      cases l2 with
      | nil => exact absurd rfl hne
      | cons cx l3 =>
      have hst := HK.out.2.2
      rw [strRun_stop (l := cx :: l3) (HR.out.trans hq1)] at hst
      have HST := Lib.hid hst
      clear hst hne hrg hn10 hl1
      go_upto_region 13 with (first
        | (go_at_call 57; refine (peekq OK.out HQ.out S.out.2 _ (by decide)).mono ?_; (try rw [drop0]); rw [HR.out]; rintro en wn ⟨rfl, hbn⟩; have hS := And.intro (S.out.1.trans (Mv.of hbn)) (S.out.2.old hbn); clear S hbn; obtain ⟨c1, fz⟩ := hS.2.cellsq HQ.out HI.out; have S := Lib.hid hS; clear hS))
      have hfin : ∀ b : Bool, (b = true → qt = 34 ∨ n = 1) → SurePost e w mode white (QuoteOk qt (c0 :: l1)) (quoteL qt (c0 :: l1)) (.returned (.bool b)) (wn.setCell ⟨q, 1, none⟩ (.int .i64 ((j : Int) + 1))) := fun b hb => by
        obtain ⟨st, mv, -⟩ := S.out.2.stepq OK.out HQ.out HI.out
        refine ⟨b, rfl, fun h => ⟨by show (strRun qt l1).2.2 = 0; rw [HST.out], ?_⟩, ?_, l3, st, fun _ => by show l3 = (strRun qt l1).1.tail; rw [HST.out]; rfl⟩
        · rcases hb h with h1 | h1
          · exact .inl h1
          · right; show (strRun qt l1).2.1 = 1; rw [HST.out]; simp [h1]
        · rw [HQ.out]; exact S.out.1.trans mv
      have HF := Lib.hid hfin
      clear hfin
      rcases hqt with rfl | rfl
      · go_wp2_with (fail)
        go_ret
        exact HF.out true (fun _ => .inl (by trivial))
      · by_cases hn1 : n = 1
        · have bn : ((n : Int) == 1) = true := by rw [hn1]; rfl
          go_wp2_with (fail)
          go_ret
          exact HF.out true (fun _ => .inr hn1)
        · have bn : ((n : Int) == 1) = false := beq_eq_false_iff_ne.2 (by omega)
          go_wp2_with (fail)
          go_ret
          exact HF.out false (fun h => by cases h)
    · have b1 : (r != qt) = true := bne_iff_ne.2 hq1
      have hbad : ∀ wx, Mv q w wx ∧ Sp e wx mode white l2 → SurePost e w mode white (QuoteOk qt (c0 :: l1)) (quoteL qt (c0 :: l1)) (.returned (.bool false)) wx := fun wx hx => by
        refine ⟨false, rfl, (fun h => by cases h), ?_, l2, hx.2, (fun h => by cases h)⟩
        rw [HQ.out]; exact hx.1
      have HBAD := Lib.hid hbad
      clear hbad
      by_cases hend : r = -1
      · subst hend
        clear hrg hn10 hl1
        go_upto_region 5 with (first
          | (go_at_call 57; refine (peekq OK.out HQ.out S.out.2 _ (by decide)).mono ?_; (try rw [drop0]); rw [HR.out]; rintro en wn ⟨rfl, hbn⟩; have hS := And.intro (S.out.1.trans (Mv.of hbn)) (S.out.2.old hbn); clear S hbn; obtain ⟨c1, fz⟩ := hS.2.cellsq HQ.out HI.out; have S := Lib.hid hS; clear hS))
        go_wp2_with (first
          | (go_at_call 57; refine (peekq OK.out HQ.out S.out.2 _ (by decide)).mono ?_; (try rw [drop0]); rw [HR.out]; rintro en wn ⟨rfl, hbn⟩; have hS := And.intro (S.out.1.trans (Mv.of hbn)) (S.out.2.old hbn); clear S hbn; obtain ⟨c1, fz⟩ := hS.2.cellsq HQ.out HI.out; have S := Lib.hid hS; clear hS))
        go_ret
        exact HBAD.out _ S.out
      by_cases h10 : r = 10
      · subst h10
        clear hrg hn10 hl1 hend
        go_upto_region 5 with (first
          | (go_at_call 57; refine (peekq OK.out HQ.out S.out.2 _ (by decide)).mono ?_; (try rw [drop0]); rw [HR.out]; rintro en wn ⟨rfl, hbn⟩; have hS := And.intro (S.out.1.trans (Mv.of hbn)) (S.out.2.old hbn); clear S hbn; obtain ⟨c1, fz⟩ := hS.2.cellsq HQ.out HI.out; have S := Lib.hid hS; clear hS))
        go_wp2_with (first
          | (go_at_call 57; refine (peekq OK.out HQ.out S.out.2 _ (by decide)).mono ?_; (try rw [drop0]); rw [HR.out]; rintro en wn ⟨rfl, hbn⟩; have hS := And.intro (S.out.1.trans (Mv.of hbn)) (S.out.2.old hbn); clear S hbn; obtain ⟨c1, fz⟩ := hS.2.cellsq HQ.out HI.out; have S := Lib.hid hS; clear hS))
        go_ret
        exact HBAD.out _ S.out
      have b2 : (r == -1) = false := beq_eq_false_iff_ne.2 hend
      have b3 : (r == 10) = false := beq_eq_false_iff_ne.2 h10
      have hpos : 0 ≤ r := by omega
      have hne : l2 ≠ [] := by rintro rfl; have := HR.out; rw [chOf_nil] at this; omega
      by_cases h92 : r = 92
      · have hlt := escRun_lt qt l2 hne
        have hst := HK.out.2.2
        rw [strRun_esc (l := l2) (by rw [HR.out]; exact hq1) (by rw [HR.out]; exact h92)] at hst
        have HST := Lib.hid (And.intro hst hlt)
        subst h92
        have HQT := Lib.hid hqt
        clear hst hlt hne hrg hend h10 hpos hq1 hqt
        go_upto_region 5 with (first
          | (go_at_call 57; refine (peekq OK.out HQ.out S.out.2 _ (by decide)).mono ?_; (try rw [drop0]); rw [HR.out]; rintro en wn ⟨rfl, hbn⟩; have hS := And.intro (S.out.1.trans (Mv.of hbn)) (S.out.2.old hbn); clear S hbn; obtain ⟨c1, fz⟩ := hS.2.cellsq HQ.out HI.out; have S := Lib.hid hS; clear hS))
        go_wp2_with (first
          | (go_at_call 57; refine (peekq OK.out HQ.out S.out.2 _ (by decide)).mono ?_; (try rw [drop0]); rw [HR.out]; rintro en wn ⟨rfl, hbn⟩; have hS := And.intro (S.out.1.trans (Mv.of hbn)) (S.out.2.old hbn); clear S hbn; obtain ⟨c1, fz⟩ := hS.2.cellsq HQ.out HI.out; have S := Lib.hid hS; clear hS)
          | (go_at_call 88; refine (escapeq OK.out HQ.out S.out.2 HR.out qt HQT.out).mono ?_; rintro en wx ⟨b, rfl, hgood, hmx, l4, hsx, hl4⟩; have SX := Lib.hid (And.intro (S.out.1.trans (by rw [← HQ.out]; exact hmx)) (And.intro hsx (And.intro hgood hl4))); clear hgood hmx hsx hl4 c1 fz; cases b))
        · go_ret
          refine ⟨false, rfl, (fun h => by cases h), ?_, _, SX.out.2.1, (fun h => by cases h)⟩
          rw [HQ.out]; exact SX.out.1
        · obtain ⟨hk, hnl, -⟩ := HK.out
          obtain ⟨hm, hs, hg, hl⟩ := SX.out
          have e4 := hl (by trivial)
          have eg := hg (by trivial)
          subst e4
          have hlt := HST.out.2
          go_roundg (escRun qt l2).1.length
          case measure => omega
          case rel =>
            refine ⟨(escRun qt l2).1, n + 1, 0, Nat.le_refl _, by omega, by go_num, hs, hm, ?_⟩
            rw [HST.out.1, eg]
            simp only [Prod.mk.injEq, true_and]
            omega
      · have b4 : (r == 92) = false := beq_eq_false_iff_ne.2 h92
        have hst := HK.out.2.2
        rw [strRun_step (l := l2) (by rw [HR.out]; exact hq1) (by rw [HR.out]; exact h10) (by rw [HR.out]; exact hpos) (by rw [HR.out]; exact h92)] at hst
        have HST := Lib.hid hst
        cases l2 with
        | nil => exact absurd rfl hne
        | cons cx l3 =>
        clear hst hne hrg hend h10 hpos hq1 hqt h92
        go_upto_region 5 with (first
          | (go_at_call 57; refine (peekq OK.out HQ.out S.out.2 _ (by decide)).mono ?_; (try rw [drop0]); rw [HR.out]; rintro en wn ⟨rfl, hbn⟩; have hS := And.intro (S.out.1.trans (Mv.of hbn)) (S.out.2.old hbn); clear S hbn; obtain ⟨c1, fz⟩ := hS.2.cellsq HQ.out HI.out; have S := Lib.hid hS; clear hS))
        go_wp2_with (first
          | (go_at_call 57; refine (peekq OK.out HQ.out S.out.2 _ (by decide)).mono ?_; (try rw [drop0]); rw [HR.out]; rintro en wn ⟨rfl, hbn⟩; have hS := And.intro (S.out.1.trans (Mv.of hbn)) (S.out.2.old hbn); clear S hbn; obtain ⟨c1, fz⟩ := hS.2.cellsq HQ.out HI.out; have S := Lib.hid hS; clear hS))
        obtain ⟨hk, hnl, -⟩ := HK.out
        obtain ⟨st, mv, -⟩ := S.out.2.stepq OK.out HQ.out HI.out
        simp only [List.length_cons] at hk hnl
        go_roundg l3.length
        case measure => omega
        case rel =>
          refine ⟨l3, n + 1, 0, Nat.le_refl _, by omega, by go_num, st, S.out.1.trans mv, ?_⟩
          rw [HST.out]
          refine Prod.ext rfl (Prod.ext ?_ rfl)
          show n + ((strRun qt l3).2.1 + 1) = n + 1 + (strRun qt l3).2.1
          omega
end Go.Proofs.YtmfihkgbfoapaaaDoor
