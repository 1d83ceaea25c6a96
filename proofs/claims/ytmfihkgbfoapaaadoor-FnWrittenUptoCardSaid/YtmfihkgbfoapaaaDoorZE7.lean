/- Own texts E7 E9 of this claim, cut to what the claim uses. -/
import Derived.Test.YtmfihkgbfoapaaaDoorZE5
import Derived.Test.YtmfihkgbfoapaaaDoorZShelf
import Derived.Laws.EntriesVeiled
import Derived.Laws.RangeString
import Derived.Laws.RangeAny
import Derived.LoopTactic
import Derived.Test.YtmfihkgbfoapaaaDoorZK1
namespace Go.Proofs.YtmfihkgbfoapaaaDoor
open Go Go.RowKit Go.Lib Go.BigFrame
structure Uni (B : Nat) (w0 : World) : Prop where
  props : ∀ w, Below B w0 w → Lib.TabIs Tryd.prog w "unicode.properties" .u8 Lib.propertiesTab
  letter : ∀ w, Below B w0 w → RVar 5 letterT w
  digit : ∀ w, Below B w0 w → RVar 1 digitT w
theorem letter_end : isLetterU (-1) = false := by kernel_rfl
theorem digit_end : isDigitU (-1) = false := by kernel_rfl
def idGo : Idr where
  p0 c := c == 95 || isLetterU c
  p1 c := c == 95 || isLetterU c || isDigitU c
  e0 := by rw [letter_end]; rfl
  e1 := by rw [letter_end, digit_end]; rfl
theorem idGo_at (i c : Int) : idGo.at i c = (c == 95 || isLetterU c || (isDigitU c && decide (i ≠ 0))) := by
  unfold Idr.at idGo
  by_cases h : i = 0
  · simp [h]
  · simp [h]
theorem neq_ident (w : World) : (binOp .neq 107 .nilFunc .nilFunc).run Tryd.prog w = .ok (.bool false) w := by kernel_rfl
set_option maxRecDepth 100000 in
set_option maxHeartbeats 800000 in
theorem ident_go (E : Env) (hE : E.ident = .nilFunc) (U : Uni E.B E.w0) : IdOk E idGo := by
  intro w r c i hR hc hi
  have c1 := hR.c_ident
  rw [hE] at c1
  have hf := hR.frozen
  have hn := neq_ident
  have hB := hR.fr.1
  have u1 := Lib.hid (U.props w hB)
  have u2 := Lib.hid (U.letter w hB)
  have u3 := Lib.hid (fun w' (h : Below w.heap.size w w') => U.digit w' (hB.trans (h.mono hR.Bsize)))
  clear hR hB U
  rw [idGo_at]
  obtain ⟨bl, hbl⟩ : ∃ b, isLetterU c = b := ⟨_, rfl⟩
  obtain ⟨bd, hbd⟩ : ∃ b, isDigitU c = b := ⟨_, rfl⟩
  rw [hbl, hbd]
  have HL := Lib.hid hbl
  have HD := Lib.hid hbd
  clear hbl hbd
  obtain ⟨b95, h95⟩ : ∃ b, (c == 95) = b := ⟨_, rfl⟩
  rw [h95]
  have h0 : decide (0 < i) = decide (i ≠ 0) := decide_eq_decide.2 ⟨fun h => by omega, fun h => by omega⟩
  go_enter Tryd.func69, Tryd.ntmps69
  cases b95 with
  | true =>
    go_wp2_with (fail)
    go_ret
    exact ⟨rfl, Below.refl _ _⟩
  | false =>
    cases bl with
    | true =>
      go_wp2_with (first
        | (go_at_call 92; refine (Tryd.unicode_IsLetter_all c w (by omega) (by omega) u1.out u2.out).mono ?_; rw [HL.out]; rintro e w1 ⟨rfl, hb1⟩))
      go_ret
      exact ⟨rfl, hb1⟩
    | false =>
      cases bd with
      | true =>
        go_wp2_with (first
          | (go_at_call 92; refine (Tryd.unicode_IsLetter_all c w (by omega) (by omega) u1.out u2.out).mono ?_; rw [HL.out]; rintro e w1 ⟨rfl, hb1⟩)
          | (go_at_call 86; refine (Tryd.unicode_IsDigit_all c _ (by omega) (by omega) (u3.out _ hb1)).mono ?_; rw [HD.out]; rintro e w2 ⟨rfl, hb2⟩))
        go_ret
        refine ⟨?_, hb1.trans (hb2.mono hb1.size)⟩
        show Ending.returned (.bool (!decide (i = 0))) = _
        simp
      | false =>
        go_wp2_with (first
          | (go_at_call 92; refine (Tryd.unicode_IsLetter_all c w (by omega) (by omega) u1.out u2.out).mono ?_; rw [HL.out]; rintro e w1 ⟨rfl, hb1⟩)
          | (go_at_call 86; refine (Tryd.unicode_IsDigit_all c _ (by omega) (by omega) (u3.out _ hb1)).mono ?_; rw [HD.out]; rintro e w2 ⟨rfl, hb2⟩))
        go_ret
        exact ⟨rfl, hb1.trans (hb2.mono hb1.size)⟩
end Go.Proofs.YtmfihkgbfoapaaaDoor
namespace Go.Proofs.YtmfihkgbfoapaaaDoor
open Go Go.RowKit Go.Lib Go.BigFrame
theorem width_pos (s : ByteArray) (pos : Nat) (h : pos < s.size) : 1 ≤ (Utf8.decode s pos).2 := by
  by_cases ha : (s[pos]'h).toNat < 128
  · rw [decode_ascii s pos h ha]
    exact Nat.le_refl _
  · exact (decode_high s pos h (by omega)).2
def runesFrom (s : ByteArray) (pos : Nat) : List Nat :=
  if _h : pos < s.size then (Utf8.decode s pos).1 :: runesFrom s (pos + (Utf8.decode s pos).2) else []
termination_by s.size - pos
decreasing_by have := width_pos s pos _h; omega
def hasRune (s : ByteArray) (pos : Nat) (r : Int) : Bool := (runesFrom s pos).any fun c => (c : Int) == r
theorem hasRune_end {s : ByteArray} {pos : Nat} (h : ¬ pos < s.size) (r : Int) : hasRune s pos r = false := by
  unfold hasRune; rw [runesFrom, dif_neg h]; rfl
theorem hasRune_step {s : ByteArray} {pos : Nat} (h : pos < s.size) (r : Int) : hasRune s pos r = ((((Utf8.decode s pos).1 : Nat) : Int) == r || hasRune s (pos + (Utf8.decode s pos).2) r) := by
  unfold hasRune; rw [runesFrom, dif_pos h]; rfl
set_option maxRecDepth 100000 in
theorem has_spec (w : World) (s : ByteArray) (r : Int) :
    Calls Tryd.prog 66 #[.string s, .int .i32 r] w fun e w' => e = .returned (.bool (hasRune s 0 r)) ∧ Below w.heap.size w w' := by
  go_enter Tryd.func66, Tryd.ntmps66
  go_wp2
  go_loopw [] (fun w' => ∃ (pos : Nat), w' = w.iter s pos ∧ hasRune s pos r = hasRune s 0 r) (fun (w1 : World) => s.size - w1.iterPos w.heap.size)
  case atStart => exact ⟨0, rfl, rfl⟩
  case round =>
    obtain ⟨pos, rfl, hc⟩ := hrel
    have hB : Below w.heap.size w (w.iter s pos) := (Below.refl _ w).alloc (Nat.le_refl _) _
    by_cases hp : pos < s.size
    · have hnx : ∀ ty, (Instr.next (.pointer (some ⟨w.heap.size, 0, none⟩)) true ty).run Tryd.prog (w.iter s pos) = _ := fun ty => run_next_any w s pos ty hp
      have hst := hasRune_step hp r
      have HS := Lib.hid (And.intro hc hst)
      clear hc hst
      go_wp2
      · go_ret
        rw [← HS.out.1, HS.out.2, show (((Utf8.decode s pos).1 : Nat) == r) = true by with_reducible assumption]
        exact ⟨rfl, (Below.refl _ w).alloc (Nat.le_refl _) _⟩
      · refine ⟨⟨_, rfl, ?_⟩, ?_⟩
        · rw [← HS.out.1, HS.out.2, show (((Utf8.decode s pos).1 : Nat) == r) = false by with_reducible assumption, Bool.false_or]
        · have := width_pos s pos hp
          simp only [World.iterPos_iter]
          omega
    · have hnx : ∀ ty, (Instr.next (.pointer (some ⟨w.heap.size, 0, none⟩)) true ty).run Tryd.prog (w.iter s pos) = _ := fun ty => run_next_end w s pos ty hp
      go_wp2
      go_ret
      rw [← hc, hasRune_end hp]
      exact ⟨rfl, hB⟩
theorem custom_spec (w : World) (g : Nat) (d : Bool) (m wh : Int) (cu : Bool) (f1 f2 : ByteArray) (c i : Int) (hi : 0 ≤ i) (hg : w.heap[g]? = some (.cells (setCells d m wh cu f1 f2) 25 (0, 0))) :
    Calls Tryd.prog 65 #[.int .i32 c, .int .i64 i, .pointer (some ⟨g, 0, none⟩)] w fun e w' => e = .returned (.bool (if i = 0 then hasRune f1 0 c else hasRune f2 0 c)) ∧ Below w.heap.size w w' := by
  have c4 : w.cell? ⟨g, 4, none⟩ = some (.string f1) := (cell_of_heap hg 4).trans rfl
  have c5 : w.cell? ⟨g, 5, none⟩ = some (.string f2) := (cell_of_heap hg 5).trans rfl
  go_enter Tryd.func65, Tryd.ntmps65
  by_cases h0 : i = 0
  · subst h0
    rw [if_pos rfl]
    generalize hb : hasRune f1 0 c = bb
    have HB := Lib.hid hb
    clear hb
    cases bb <;>
    · go_wp2_with (first
        | (go_at_call 66; refine (has_spec w f1 c).mono ?_; rw [HB.out]; rintro e w1 ⟨rfl, hb1⟩))
      go_ret
      exact ⟨rfl, hb1⟩
  · rw [if_neg h0]
    have h1 : (i == 0) = false := beq_eq_false_iff_ne.2 h0
    have h2 : decide (0 < i) = true := decide_eq_true (by omega)
    generalize hb : hasRune f2 0 c = bb
    have HB := Lib.hid hb
    clear hb
    cases bb <;>
    · go_wp2_with (first
        | (go_at_call 66; refine (has_spec w f2 c).mono ?_; rw [HB.out]; rintro e w1 ⟨rfl, hb1⟩))
      go_ret
      exact ⟨rfl, hb1⟩
theorem hasRune_neg (s : ByteArray) (pos : Nat) {r : Int} (h : r < 0) : hasRune s pos r = false := by
  unfold hasRune
  rw [List.any_eq_false]
  intro c _
  simp only [beq_iff_eq]
  omega
def idCustom (f1 f2 : ByteArray) : Idr where
  p0 c := hasRune f1 0 c
  p1 c := hasRune f2 0 c
  e0 := hasRune_neg _ _ (by decide)
  e1 := hasRune_neg _ _ (by decide)
theorem idCustom_at (f1 f2 : ByteArray) (i c : Int) : (idCustom f1 f2).at i c = if i = 0 then hasRune f1 0 c else hasRune f2 0 c := rfl
theorem neq_custom (w : World) (a : Array Value) : (binOp .neq 107 (.func (.func 65) #[] a) .nilFunc).run Tryd.prog w = .ok (.bool true) w := by kernel_rfl
set_option maxRecDepth 100000 in
set_option maxHeartbeats 800000 in
theorem ident_custom (E : Env) (g : Nat) (d : Bool) (m wh : Int) (cu : Bool) (f1 f2 : ByteArray) (hE : E.ident = .func (.func 65) #[] #[.pointer (some ⟨g, 0, none⟩)])
    (hg : E.w0.heap[g]? = some (.cells (setCells d m wh cu f1 f2) 25 (0, 0))) (g1 : g ≠ E.b) (g2 : g ≠ E.bR) (g3 : g ≠ E.bC) : IdOk E (idCustom f1 f2) := by
  intro w r c i hR hc hi
  have c1 := hR.c_ident
  rw [hE] at c1
  have hf := hR.frozen
  have hn := neq_custom
  have hgw := hR.fr.2 g _ hg g1 g2 g3 (fun c fz h => by cases h)
  have HG := Lib.hid hgw
  clear hR hgw hg
  rw [idCustom_at]
  obtain ⟨bb, hbb⟩ : ∃ b, (c != -1) = b := ⟨_, rfl⟩
  go_enter Tryd.func69, Tryd.ntmps69
  cases bb with
  | true =>
    generalize hb : (if i = 0 then hasRune f1 0 c else hasRune f2 0 c) = bv
    have HB := Lib.hid hb
    clear hb
    go_wp2_with (first
      | (go_at_call 65; refine (custom_spec w g d m wh cu f1 f2 c i hi.1 HG.out).mono ?_; rw [HB.out]; rintro e w1 ⟨rfl, hb1⟩))
    all_goals go_ret
    all_goals exact ⟨rfl, hb1⟩
  | false =>
    have h1 : c = -1 := bne_eq_false_iff_eq.1 hbb
    rw [show (if i = 0 then hasRune f1 0 c else hasRune f2 0 c) = false by rw [h1, hasRune_neg _ _ (by decide), hasRune_neg _ _ (by decide)]; simp]
    clear h1
    go_wp2_with (fail)
    go_ret
    exact ⟨rfl, Below.refl _ _⟩
end Go.Proofs.YtmfihkgbfoapaaaDoor
namespace Go.Proofs.YtmfihkgbfoapaaaDoor
open Go Go.RowKit Go.Lib Go.BigFrame Go.Proofs.YtmfihkgbfoapaaaDoorW.PrintWords
theorem kind_ge (k : Nat) (c : Int) (h : 0 ≤ c ∧ c ≤ 1114111) (j : Nat) (hj : j ≤ 8) (hk : 8 - j < k) : K.impl_kind.l0 k c [(-1), (-2), (-3), (-4), (-5), (-6), (-7), (-8)] 8 j = some c := by
  induction k generalizing j with
  | zero => omega
  | succ k ih =>
    unfold K.impl_kind.l0
    by_cases h8 : j = 8
    · subst h8
      rw [if_neg (by decide)]
      congr 1; unfold wrap64; omega
    · have hj8 : j = 0 ∨ j = 1 ∨ j = 2 ∨ j = 3 ∨ j = 4 ∨ j = 5 ∨ j = 6 ∨ j = 7 := by omega
      rw [if_pos (by omega), if_pos (by omega), if_pos (by simp only [List.length_cons, List.length_nil]; omega)]
      have hw : wrap64 ((j : Int) + 1) = ((j + 1 : Nat) : Int) := by unfold wrap64; omega
      rw [hw, ih (j + 1) (by omega) (by omega), if_neg]
      rcases hj8 with rfl | rfl | rfl | rfl | rfl | rfl | rfl | rfl <;> (intro hh; exact absurd h.1 (by rw [hh]; decide))
theorem kind_m1 : K.impl_kind.f 20 (-1) = some (-1) := by kernel_rfl
theorem kind_m2 : K.impl_kind.f 20 (-2) = some (-2) := by kernel_rfl
theorem kind_m3 : K.impl_kind.f 20 (-3) = some (-3) := by kernel_rfl
theorem kind_m4 : K.impl_kind.f 20 (-4) = some (-4) := by kernel_rfl
theorem kind_m5 : K.impl_kind.f 20 (-5) = some (-5) := by kernel_rfl
theorem kind_m6 : K.impl_kind.f 20 (-6) = some (-6) := by kernel_rfl
theorem kind_m7 : K.impl_kind.f 20 (-7) = some (-7) := by kernel_rfl
theorem kind_m8 : K.impl_kind.f 20 (-8) = some (-8) := by kernel_rfl
theorem kind_val (c : Int) (h : -8 ≤ c ∧ c ≤ 1114111) : K.impl_kind.f 20 c = some c := by
  by_cases h0 : 0 ≤ c
  · exact kind_ge 20 c ⟨h0, h.2⟩ 0 (by omega) (by omega)
  · have : c = -1 ∨ c = -2 ∨ c = -3 ∨ c = -4 ∨ c = -5 ∨ c = -6 ∨ c = -7 ∨ c = -8 := by omega
    clear h h0
    rcases this with h | h | h | h | h | h | h | h
    · rw [h]; exact kind_m1
    · rw [h]; exact kind_m2
    · rw [h]; exact kind_m3
    · rw [h]; exact kind_m4
    · rw [h]; exact kind_m5
    · rw [h]; exact kind_m6
    · rw [h]; exact kind_m7
    · rw [h]; exact kind_m8
theorem kind_spec (w : World) (c : Int) (h : -8 ≤ c ∧ c ≤ 1114111) : Calls Tryd.prog 44 #[.int .i32 c] w fun e w' => e = .returned (.int .i64 c) ∧ Below w.heap.size w w' :=
  K.impl_kind.calls 20 c c w (kind_val c h)
theorem place_spec (w : World) (f : ByteArray) (a b c : Int) : Calls Tryd.prog 47 #[.agg #[.string f, .int .i64 a, .int .i64 b, .int .i64 c]] w fun e w' => e = .returned (.agg #[.int .i64 a, .int .i64 b, .int .i64 c]) ∧ Below w.heap.size w w' :=
  K.impl_place.calls f a b c a b c w rfl
theorem R_keep {w w1 : World} {base : Nat} {ok : Nat → Prop} {v : Value} {xs : List K.S37} (h : Kd.R K.k37 37 w base ok v xs) (hk : ∀ (g : Nat) (cs : Array Value), v.ownBlock = some g → w.heap[g]? = some (Obj.cells cs 37 (0, 0)) → w1.heap[g]? = some (Obj.cells cs 37 (0, 0))) : Kd.R K.k37 37 w1 base ok v xs := by
  obtain ⟨h0, inner, ⟨hl, ho⟩, hr⟩ := h
  refine ⟨h0, inner, ⟨hl, ?_⟩, ⟨hr.1, fun j p hp => ?_⟩⟩
  · rcases ho with ho | ⟨g, cap, cur, e1, e2, e3, e4⟩
    · exact .inl ho
    · exact .inr ⟨g, cap, cur, e1, e2, hk _ _ (by rw [e1]; rfl) e3, e4⟩
  · have := hr.2 j p hp
    rw [K.k37_openM this]
    exact K.k37_mkM _ _ _ _
theorem Fr.row37 {E : Env} {w w1 : World} {r : Regs} (hR : Raw E w r) (h : Fr (E.at w) w1) (g : Nat) (cs : Array Value) (hg : w.heap[g]? = some (.cells cs 37 (0, 0))) : w1.heap[g]? = some (.cells cs 37 (0, 0)) := by
  refine h.2 g _ hg ?_ ?_ ?_ (fun c fz h => by cases h)
  · intro e; obtain ⟨cs', hb⟩ := hR.tagb; have e' : g = E.b := e; rw [e', hb] at hg; cases hg
  · intro e; obtain ⟨a, c, hr, _⟩ := hR.rd; have e' : g = E.bR := e; rw [e', hr] at hg; cases hg
  · intro e; have hr := hR.cnt; have e' : g = E.bC := e; rw [e', hr] at hg; cases hg
theorem R_block {w : World} {base : Nat} {ok : Nat → Prop} {v : Value} {xs : List K.S37} (h : Kd.R K.k37 37 w base ok v xs) {g : Nat} (hg : v.ownBlock = some g) : g < w.heap.size ∧ ∃ cs, w.heap[g]? = some (Obj.cells cs 37 (0, 0)) := by
  obtain ⟨h0, inner, ho, hr⟩ := h
  obtain ⟨cs, hc⟩ := own_typed ho g hg
  exact ⟨lt_of_heap hc, cs, hc⟩
theorem St.old {E : Env} {src : List UInt8} {w w1 : World} {l : List Item} {x : Sx} (h : St E src w l x) (hb : Below w.heap.size w w1) : St E src w1 l x := by
  obtain ⟨pre, r, h, h1⟩ := h; exact ⟨pre, r, h.old hb, h1⟩
theorem St.rebase {E : Env} {src : List UInt8} {w : World} {l : List Item} {x : Sx} (h : St E src w l x) : St (E.at w) src w l x := by
  obtain ⟨pre, r, h, h1⟩ := h; exact ⟨pre, r, h.rebase, h1⟩
theorem Raw.moved {E : Env} {w w1 : World} {r : Regs} (h : Raw E w r) (hlow : ∀ k, k < E.B → w1.heap[k]? = w.heap[k]?) (hk : ∀ (k : Nat) (cs : Array Value) (t : TypeId) (fr : Nat × Nat), t ≠ 37 → w.heap[k]? = some (Obj.cells cs t fr) → w1.heap[k]? = some (Obj.cells cs t fr)) : Raw (E.at w1) w1 r := by
  obtain ⟨hB, v, lr, ⟨cs, c1, c2⟩, ⟨hl, ho⟩, hne⟩ := h.buf
  refine ⟨⟨hB, v, lr, ⟨cs, hk _ _ _ _ (by decide) c1, c2⟩, ⟨hl, ?_⟩, hne⟩, h.blen, ?_, hk _ _ _ _ (by decide) h.cnt, hk _ _ _ _ (by decide) h.cap, h.BR, h.BC, h.szs.of hlow, Fr.refl _⟩
  · rcases ho with ho | ⟨g, cap, cur, e1, e2, e3, e4⟩
    · exact .inl ho
    · exact .inr ⟨g, cap, cur, e1, e2, hk _ _ _ _ (by decide) e3, e4⟩
  · have hrd := h.rd
    obtain ⟨a, c, hb, _⟩ := hrd
    exact h.rd.of (E := E) ((hk _ _ _ _ (by decide) hb).trans hb.symm) hlow rfl rfl
theorem St.moved {E : Env} {src : List UInt8} {w w1 : World} {l : List Item} {x : Sx} (h : St E src w l x) (hlow : ∀ k, k < E.B → w1.heap[k]? = w.heap[k]?) (hk : ∀ (k : Nat) (cs : Array Value) (t : TypeId) (fr : Nat × Nat), t ≠ 37 → w.heap[k]? = some (Obj.cells cs t fr) → w1.heap[k]? = some (Obj.cells cs t fr)) : St (E.at w1) src w1 l x := by
  obtain ⟨pre, r, h, h1⟩ := h; exact ⟨pre, r, h.moved hlow hk, h1⟩
def IdAt (E : Env) (I : Idr) : Prop :=
  (E.ident = .nilFunc ∧ I = idGo) ∨ ∃ g d m wh cu f1 f2, E.ident = .func (.func 65) #[] #[.pointer (some ⟨g, 0, none⟩)] ∧ E.w0.heap[g]? = some (.cells (setCells d m wh cu f1 f2) 25 (0, 0)) ∧ g ≠ E.b ∧ g ≠ E.bR ∧ g ≠ E.bC ∧ I = idCustom f1 f2
theorem IdAt.ok {E : Env} {I : Idr} (h : IdAt E I) (U : Uni E.B E.w0) : IdOk E I := by
  rcases h with ⟨h1, rfl⟩ | ⟨g, d, m, wh, cu, f1, f2, h1, h2, h3, h4, h5, rfl⟩
  · exact ident_go E h1 U
  · exact ident_custom E g d m wh cu f1 f2 h1 h2 h3 h4 h5
theorem IdAt.move {E : Env} {I : Idr} {w : World} (h : IdAt E I) (f : Fr E w) : IdAt (E.at w) I := by
  rcases h with h | ⟨g, d, m, wh, cu, f1, f2, h1, h2, h3, h4, h5, h6⟩
  · exact .inl h
  · exact .inr ⟨g, d, m, wh, cu, f1, f2, h1, f.2 g _ h2 h3 h4 h5 (fun c fz h => by cases h), h3, h4, h5, h6⟩
theorem Uni.move {B : Nat} {w0 w : World} (h : Uni B w0) (f : Below B w0 w) : Uni B w :=
  ⟨fun w' hb => h.props w' (f.trans hb), fun w' hb => h.letter w' (f.trans hb), fun w' hb => h.digit w' (f.trans hb)⟩
end Go.Proofs.YtmfihkgbfoapaaaDoor
