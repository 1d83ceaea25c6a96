/- Own texts X3 of this claim, cut to what the claim uses. -/
import Derived.Test.YtmfihkgbfoapaaaDoorZV0
import Derived.Test.YtmfihkgbfoapaaaDoorZX1
namespace Go.Proofs.YtmfihkgbfoapaaaDoor
set_option linter.unusedVariables false
set_option linter.unusedSimpArgs false
open Go Go.RowKit Go.Lib Go.BigFrame Go.Proofs.YtmfihkgbfoapaaaDoorW.PrintWords
theorem chars_get (src : List UInt8) (l : List Item) (j : Nat) (h : j ≤ l.length) : (charsOf src l)[j]? = some (chr src (l.drop j)) := by
  induction l generalizing j with
  | nil =>
    obtain rfl : j = 0 := by simpa using h
    rfl
  | cons c l ih =>
    cases j with
    | zero => rfl
    | succ j => exact ih j (by simpa using h)
theorem chars_rd (src : List UInt8) (l : List Item) (j : Nat) (h : j ≤ l.length) : K.rd_T90 (charsOf src l) (j : Int) = chr src (l.drop j) := by
  unfold K.rd_T90
  rw [Int.toNat_natCast, List.getD_eq_getElem?_getD, chars_get src l j h]; rfl
structure SpE where
  w0 : World
  q : Nat
  g : Nat
  o : Nat
  c : Nat
  src : List UInt8
  s : Stp
def SpE.n (e : SpE) : Nat := (items e.src).length
structure SpOk (e : SpE) : Prop where
  row : Kd.C K.k90 e.w0 (some ⟨e.g, e.o, none⟩) (charsOf e.src (items e.src)).length (charsOf e.src (items e.src))
  cap : e.n + 1 ≤ e.c
  q : e.w0.heap.size ≤ e.q
  small : e.src.length ≤ 10000000000
  vars : Vars e.w0.heap.size e.w0
theorem SpOk.n_le {e : SpE} (h : SpOk e) : e.n ≤ 10000000000 := Nat.le_trans (items_le e.src) h.small
def spCells (e : SpE) (mode white : Int) (at_ : Nat) : Array Value :=
  #[.slice (some ⟨e.g, e.o, none⟩) (e.n + 1) e.c, .int .i64 (at_ : Nat), .int .i64 mode, .int .u64 white, .bool e.s.d, .int .i64 e.s.m, .int .u64 e.s.wh, .bool e.s.cu, .string e.s.f1, .string e.s.f2]
structure Sp (e : SpE) (w : World) (mode white : Int) (l : List Item) : Prop where
  blk : w.heap[e.q]? = some (.cells (spCells e mode white (e.n - l.length)) 88 (0, 0))
  base : Below e.w0.heap.size e.w0 w
  suf : l <:+ items e.src
theorem Sp.old {e : SpE} {w w1 : World} {mode white : Int} {l : List Item} (h : Sp e w mode white l) (hb : Below w.heap.size w w1) : Sp e w1 mode white l :=
  ⟨(hb.block e.q (lt_of_heap h.blk)).trans h.blk, h.base.trans (hb.mono h.base.size), h.suf⟩
theorem Sp.len {e : SpE} {w : World} {mode white : Int} {l : List Item} (h : Sp e w mode white l) : l.length ≤ e.n := h.suf.length_le
theorem Sp.drop_at {e : SpE} {w : World} {mode white : Int} {l : List Item} (h : Sp e w mode white l) : (items e.src).drop (e.n - l.length) = l := by
  obtain ⟨pre, hp⟩ := h.suf
  unfold SpE.n
  rw [← hp, List.length_append, Nat.add_sub_cancel, List.drop_left]
theorem Sp.next {e : SpE} (ok : SpOk e) {w : World} {mode white : Int} {l : List Item} (h : Sp e w mode white l) (k : Nat) (hk : k ≤ l.length) {z : Int} (hz : z = ((e.n - l.length : Nat) : Int) + k) :
    Sp e (w.setCell ⟨e.q, 1, none⟩ (.int .i64 z)) mode white (l.drop k) ∧ Mv e.q w (w.setCell ⟨e.q, 1, none⟩ (.int .i64 z)) := by
  subst hz
  have hl := h.len
  have hm : Mv e.q w (w.setCell ⟨e.q, 1, none⟩ (.int .i64 (((e.n - l.length : Nat) : Int) + k))) := Mv.set _ _ _ _
  refine ⟨⟨?_, ?_, (List.drop_suffix k l).trans h.suf⟩, hm⟩
  · have := Go.Lib.heap_setCell_same (i := 1) h.blk (.int .i64 (((e.n - l.length : Nat) : Int) + k))
    rw [this]
    have e1 : ((e.n - (l.drop k).length : Nat) : Int) = ((e.n - l.length : Nat) : Int) + k := by rw [List.length_drop]; omega
    unfold spCells
    rw [e1]
    rfl
  · exact h.base.setCell (by exact ok.q) _
theorem Sp.cells {e : SpE} {w : World} {mode white : Int} {l : List Item} (h : Sp e w mode white l) :
    w.cell? ⟨e.q, 0, none⟩ = some (.slice (some ⟨e.g, e.o, none⟩) (e.n + 1) e.c) ∧ w.cell? ⟨e.q, 1, none⟩ = some (.int .i64 ((e.n - l.length : Nat) : Int)) ∧ w.cell? ⟨e.q, 2, none⟩ = some (.int .i64 mode) ∧
    w.cell? ⟨e.q, 3, none⟩ = some (.int .u64 white) ∧ w.frozen? ⟨e.q, 0, none⟩ = false :=
  ⟨(cell_of_heap h.blk 0).trans rfl, (cell_of_heap h.blk 1).trans rfl, (cell_of_heap h.blk 2).trans rfl, (cell_of_heap h.blk 3).trans rfl, frozen_of_heap h.blk 0⟩
theorem Sp.cells2 {e : SpE} {w : World} {mode white : Int} {l : List Item} (h : Sp e w mode white l) :
    w.cell? ⟨e.q, 7, none⟩ = some (.bool e.s.cu) ∧ w.cell? ⟨e.q, 8, none⟩ = some (.string e.s.f1) ∧ w.cell? ⟨e.q, 9, none⟩ = some (.string e.s.f2) :=
  ⟨(cell_of_heap h.blk 7).trans rfl, (cell_of_heap h.blk 8).trans rfl, (cell_of_heap h.blk 9).trans rfl⟩
theorem Sp.at_row {e : SpE} (ok : SpOk e) {w : World} {mode white : Int} {l : List Item} (h : Sp e w mode white l) (j : Nat) (hj : j ≤ e.n) :
    w.cell? ⟨e.g, e.o + j * 5, none⟩ = some (.int .i32 (chOf ((items e.src).drop j))) := by
  have hC := Kd.C_below ok.row h.base
  obtain ⟨ad, e1, x0, -⟩ := K.at_T90 hC (j : Int) (by omega) (by rw [charsOf_len]; unfold SpE.n at hj; omega)
  injection e1 with e1
  subst e1
  rw [chars_rd e.src (items e.src) j hj] at x0
  simp only [Int.toNat_natCast, Addr.add_lit] at x0
  exact x0
set_option maxRecDepth 100000 in
theorem peek_at (e : SpE) (ok : SpOk e) (w : World) (mode white : Int) (l : List Item) (h : Sp e w mode white l) (z : Int) (j : Nat) (hz : ((e.n - l.length : Nat) : Int) + z = j) (hz2 : -1 ≤ z ∧ z ≤ 2) :
    Calls Tryd.prog 57 #[.pointer (some ⟨e.q, 0, none⟩), .int .i64 z] w fun en w' => en = .returned (.int .i32 (chOf ((items e.src).drop j))) ∧ Below w.heap.size w w' := by
  obtain ⟨c0, c1, -, -, fz⟩ := h.cells
  have hn := ok.n_le
  have x0 := h.at_row ok (min j e.n) (Nat.min_le_right _ _)
  have hd : (items e.src).drop (min j e.n) = (items e.src).drop j := by
    rcases Nat.lt_or_ge j e.n with h1 | h1
    · rw [Nat.min_eq_left (by omega)]
    · rw [Nat.min_eq_right h1, List.drop_eq_nil_of_le (show (items e.src).length ≤ j from h1), List.drop_eq_nil_of_le (show (items e.src).length ≤ e.n from Nat.le_refl _)]
  rw [hd] at x0
  obtain ⟨r, hr⟩ : ∃ r, chOf ((items e.src).drop j) = r := ⟨_, rfl⟩
  rw [hr] at x0 ⊢
  obtain ⟨at_, hat⟩ : ∃ a, e.n - l.length = a := ⟨_, rfl⟩
  obtain ⟨N, hN⟩ : ∃ a, e.n = a := ⟨_, rfl⟩
  have hle : at_ ≤ N := by omega
  rw [hat] at c1 hz
  rw [hN] at c0 x0 hn
  obtain ⟨q, hq⟩ : ∃ a, e.q = a := ⟨_, rfl⟩
  rw [hq] at c0 c1 fz ⊢
  obtain ⟨g, hg⟩ : ∃ a, e.g = a := ⟨_, rfl⟩
  obtain ⟨o, ho⟩ : ∃ a, e.o = a := ⟨_, rfl⟩
  obtain ⟨c, hc⟩ : ∃ a, e.c = a := ⟨_, rfl⟩
  rw [hg, ho, hc] at c0
  rw [hg, ho] at x0
  clear h ok hd hr hat hN hq hg ho hc e
  go_enter Tryd.func57, Tryd.ntmps57
  go_wp2_with (fail)
  have hmin : (min (j : Int) (N : Int)).toNat = min j N := by omega
  rw [← hmin] at x0
  clear hmin
  refine wp_region_quiet_lit (by kernel_rfl) (by kernel_rfl) ?_
  repeat (go_big_quiet_step (fail))
  refine wpQuiet_nil ?_
  intro _ hw'
  obtain ⟨nq, hw''⟩ := hw'
  subst hw''
  go_wp2_with (fail)
  go_ret
  exact ⟨rfl, ⟨rfl, rfl, rfl, Nat.le_refl _, fun _ _ => rfl⟩⟩
theorem peek_sp (e : SpE) (ok : SpOk e) (w : World) (mode white : Int) (l : List Item) (h : Sp e w mode white l) (k : Int) (hk : 0 ≤ k ∧ k ≤ 2) :
    Calls Tryd.prog 57 #[.pointer (some ⟨e.q, 0, none⟩), .int .i64 k] w fun en w' => en = .returned (.int .i32 (chOf (l.drop k.toNat))) ∧ Below w.heap.size w w' := by
  have := peek_at e ok w mode white l h k (e.n - l.length + k.toNat) (by omega) (by omega)
  rw [← List.drop_drop, h.drop_at] at this
  exact this
def sBit (mode b : Int) : Bool := bits .and .i64 mode b != 0
set_option maxRecDepth 100000 in
theorem is_sp (e : SpE) (w : World) (mode white : Int) (l : List Item) (h : Sp e w mode white l) (b : Int) :
    Calls Tryd.prog 59 #[.pointer (some ⟨e.q, 0, none⟩), .int .i64 b] w fun en w' => en = .returned (.bool (sBit mode b)) ∧ w' = w := by
  obtain ⟨c0, c1, c2, c3, fz⟩ := h.cells
  obtain ⟨q, hq⟩ : ∃ a, e.q = a := ⟨_, rfl⟩
  rw [hq] at c2 ⊢
  clear h c0 c1 c3 fz hq
  go_enter Tryd.func59, Tryd.ntmps59
  go_wp2_with (fail)
  all_goals go_ret
  exact ⟨rfl, rfl⟩
theorem white_bit {W c : Int} (hw : 0 ≤ W ∧ W ≤ 8589934590) (hc : 0 ≤ c ∧ c ≤ 32) : (bits .and .u64 (W / 2 ^ c.toNat) 1 == 1) = isWh W c := by
  obtain ⟨n, rfl⟩ : ∃ n : Nat, W = n := ⟨W.toNat, by omega⟩
  obtain ⟨k, rfl⟩ : ∃ k : Nat, c = k := ⟨c.toNat, by omega⟩
  unfold isWh
  rw [decide_eq_true hc.1, Bool.true_and, Int.toNat_natCast, Int.toNat_natCast]
  have e1 : ((n : Int) / 2 ^ k) = ((n / 2 ^ k : Nat) : Int) := by simp
  have hl : n / 2 ^ k ≤ n := Nat.div_le_self _ _
  have h2 := (bits_nat .u64 64 (by decide) (fun m h0 h1 => by obtain ⟨x, rfl⟩ := Int.eq_ofNat_of_zero_le h0; exact u64_small (by exact_mod_cast h1)) (n / 2 ^ k) 1 (by omega) (by decide)).1
  rw [e1]
  rw [show ((1 : Nat) : Int) = 1 from rfl] at h2
  rw [h2, Nat.and_one_is_mod, Nat.testBit_eq_decide_div_mod_eq]
  by_cases h : n / 2 ^ k % 2 = 1
  · rw [h]; simp
  · have : n / 2 ^ k % 2 = 0 := by omega
    rw [this]; simp
theorem white_high {W c : Int} (hw : 0 ≤ W ∧ W ≤ 8589934590) (hc : 32 < c) : isWh W c = false := by
  obtain ⟨n, rfl⟩ : ∃ n : Nat, W = n := ⟨W.toNat, by omega⟩
  obtain ⟨k, rfl⟩ : ∃ k : Nat, c = k := ⟨c.toNat, by omega⟩
  unfold isWh
  rw [decide_eq_true (by omega), Bool.true_and, Int.toNat_natCast, Int.toNat_natCast]
  apply Nat.testBit_lt_two_pow
  have : 2 ^ 33 ≤ 2 ^ k := Nat.pow_le_pow_right (by decide) (by omega)
  omega
set_option maxRecDepth 100000 in
theorem isWhite_sp (e : SpE) (w : World) (mode white : Int) (l : List Item) (h : Sp e w mode white l) (hw : 0 ≤ white ∧ white ≤ 8589934590) (c : Int) (hc : -1 ≤ c ∧ c ≤ 1114111) :
    Calls Tryd.prog 58 #[.pointer (some ⟨e.q, 0, none⟩), .int .i32 c] w fun en w' => en = .returned (.bool (isWh white c)) ∧ w' = w := by
  obtain ⟨c0, c1, c2, c3, fz⟩ := h.cells
  obtain ⟨q, hq⟩ : ∃ a, e.q = a := ⟨_, rfl⟩
  rw [hq] at c3 ⊢
  clear h c0 c1 c2 fz hq
  by_cases h0 : 0 ≤ c
  · by_cases h32 : c ≤ 32
    · go_enter Tryd.func58, Tryd.ntmps58
      go_wp2_with (fail)
      go_ret
      exact ⟨by rw [← white_bit hw ⟨h0, h32⟩]; rfl, rfl⟩
    · rw [white_high hw (by omega)]
      go_enter Tryd.func58, Tryd.ntmps58
      go_wp2_with (fail)
      go_ret
      exact ⟨rfl, rfl⟩
  · rw [show isWh white c = false by unfold isWh; rw [decide_eq_false h0]; rfl]
    go_enter Tryd.func58, Tryd.ntmps58
    go_wp2_with (fail)
    go_ret
    exact ⟨rfl, rfl⟩
structure FitOk (s : Stp) : Prop where
  ok : s.Ok
  def_ : s.d = true → s.cu = false
  n1 : s.f1.size ≤ 70368744177664
  n2 : s.f2.size ≤ 70368744177664
theorem SpOk.uni {e : SpE} (ok : SpOk e) {w : World} {mode white : Int} {l : List Item} (h : Sp e w mode white l) : Uni w.heap.size w := ((ok.vars.move h.base).mono h.base.size).uni
set_option maxRecDepth 100000 in
set_option maxHeartbeats 800000 in
theorem inIdent_sp (e : SpE) (ok : SpOk e) (fo : FitOk e.s) (w : World) (mode white : Int) (l : List Item) (h : Sp e w mode white l) (c i : Int) (hc : -1 ≤ c ∧ c ≤ 1114111) (hi : 0 ≤ i ∧ i ≤ 140737488355328) :
    Calls Tryd.prog 61 #[.pointer (some ⟨e.q, 0, none⟩), .int .i32 c, .int .i64 i] w fun en w' => en = .returned (.bool (e.s.cfg.I.at i c)) ∧ Below w.heap.size w w' := by
  obtain ⟨c7, c8, c9⟩ := h.cells2
  have hU := ok.uni h
  have hI : e.s.cfg.I = if e.s.cu = true then idCustom e.s.f1 e.s.f2 else idGo := by
    unfold Stp.cfg
    simp only
    cases hd : e.s.d with
    | true => rw [fo.def_ hd]; simp
    | false => simp
  rw [hI]
  have hn1 := fo.n1
  have hn2 := fo.n2
  obtain ⟨q, hq⟩ : ∃ a, e.q = a := ⟨_, rfl⟩
  obtain ⟨f1, hf1⟩ : ∃ a, e.s.f1 = a := ⟨_, rfl⟩
  obtain ⟨f2, hf2⟩ : ∃ a, e.s.f2 = a := ⟨_, rfl⟩
  obtain ⟨cu, hcu⟩ : ∃ a, e.s.cu = a := ⟨_, rfl⟩
  rw [hq] at c7 c8 c9 ⊢
  rw [hf1] at c8 hn1 ⊢
  rw [hf2] at c9 hn2 ⊢
  rw [hcu] at c7 ⊢
  clear h hq hf1 hf2 hcu hI ok fo
  have HU := Lib.hid hU
  clear hU
  by_cases h0 : c < 0
  · have hm : c = -1 := by omega
    subst hm
    have e1 : (if cu = true then idCustom f1 f2 else idGo).at i (-1) = false := by
      unfold Idr.at
      split
      · exact (if cu = true then idCustom f1 f2 else idGo).e0
      · exact (if cu = true then idCustom f1 f2 else idGo).e1
    rw [e1]
    go_enter Tryd.func61, Tryd.ntmps61
    go_wp2_with (fail)
    go_ret
    exact ⟨rfl, Below.refl _ _⟩
  cases cu with
  | true =>
    rw [if_pos rfl, idCustom_at]
    by_cases hz : i = 0
    · subst hz
      rw [if_pos rfl]
      have H1 := Lib.hid (has84 w f1 c hn1)
      go_enter Tryd.func61, Tryd.ntmps61
      go_wp2_with (go_at_call 84; refine (H1.out).mono ?_; rintro en w1 ⟨rfl, hb1⟩)
      go_ret
      exact ⟨rfl, hb1⟩
    · rw [if_neg hz]
      have H1 := Lib.hid (has84 w f2 c hn2)
      have hz' : (i == 0) = false := beq_eq_false_iff_ne.2 hz
      go_enter Tryd.func61, Tryd.ntmps61
      go_wp2_with (go_at_call 84; refine (H1.out).mono ?_; rintro en w1 ⟨rfl, hb1⟩)
      go_ret
      exact ⟨rfl, hb1⟩
  | false =>
    rw [if_neg (by decide), idGo_at]
    have h1 : (c == 95 || isLetterU c) = isLet c := by
      unfold isLet
      by_cases hz : 0 < c
      · rw [decide_eq_true hz]; rfl
      · have : c = 0 := by omega
        subst this
        rfl
    rw [h1]
    have hlt : decide (0 < i) = decide (i ≠ 0) := decide_eq_decide.2 ⟨fun h => by omega, fun h => by omega⟩
    rw [← hlt]
    have HL := Lib.hid (isLet_spec w c hc HU.out)
    have HD := Lib.hid (fun (w1 : World) (h : Below w.heap.size w w1) => Tryd.unicode_IsDigit_all c w1 (by omega) (by omega) (HU.out.digit w1 h))
    obtain ⟨bl, hbl⟩ : ∃ b, isLet c = b := ⟨_, rfl⟩
    obtain ⟨bd, hbd⟩ : ∃ b, isDigitU c = b := ⟨_, rfl⟩
    rw [hbl, hbd]
    rw [hbl] at HL
    rw [hbd] at HD
    clear hbl hbd hlt h1
    by_cases hz : 0 < i
    · rw [decide_eq_true hz]
      have hgt : decide (i > 0) = true := decide_eq_true hz
      cases bl <;> cases bd <;>
      · go_enter Tryd.func61, Tryd.ntmps61
        go_wp2_with (first
          | (go_at_call 85; refine (HL.out).mono ?_; rintro en w1 ⟨rfl, hb1⟩)
          | (go_at_call 86; refine (HD.out _ hb1).mono ?_; rintro en w2 ⟨rfl, hb2⟩))
        go_ret
        first
          | exact ⟨rfl, hb1⟩
          | exact ⟨rfl, hb1.trans (hb2.mono hb1.size)⟩
    · rw [decide_eq_false hz]
      have hz0 : i = 0 := by omega
      subst hz0
      cases bl <;>
      · go_enter Tryd.func61, Tryd.ntmps61
        go_wp2_with (first
          | (go_at_call 85; refine (HL.out).mono ?_; rintro en w1 ⟨rfl, hb1⟩))
        go_ret
        exact ⟨by simp, hb1⟩
end Go.Proofs.YtmfihkgbfoapaaaDoor
