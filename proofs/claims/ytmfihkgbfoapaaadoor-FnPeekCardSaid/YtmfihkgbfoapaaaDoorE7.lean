/- Which characters an identifier may have: the scanner's isIdentRune. Which characters an identifier may have, where the setup says it. -/
import Derived.Test.YtmfihkgbfoapaaaDoorE5
import Derived.Test.YtmfihkgbfoapaaaDoorShelf
import Derived.Laws.EntriesVeiled
import Derived.Laws.RangeString
import Derived.Laws.RangeAny
import Derived.LoopTactic
namespace Go.Proofs.YtmfihkgbfoapaaaDoor
open Go Go.RowKit Go.Lib Go.BigFrame

/-- The tables of package unicode, as they lie in memory below block B. -/
structure Uni (B : Nat) (w0 : World) : Prop where
  props : ∀ w, Below B w0 w → Lib.TabIs Tryd.prog w "unicode.properties" .u8 Lib.propertiesTab
  letter : ∀ w, Below B w0 w → RVar 5 letterT w
  digit : ∀ w, Below B w0 w → RVar 1 digitT w
theorem letter_end : isLetterU (-1) = false := by kernel_rfl
theorem digit_end : isDigitU (-1) = false := by kernel_rfl
/-- Go's own identifiers. -/
def idGo : Idr where
  p0 c := c == 95 || isLetterU c
  p1 c := c == 95 || isLetterU c || isDigitU c
  e0 := by rw [letter_end]; rfl
  e1 := by rw [letter_end, digit_end]; rfl
theorem idGo_at (i c : Int) : idGo.at i c = (c == 95 || isLetterU c || (isDigitU c && decide (i ≠ 0))) := by
  unfold Idr.at idGo
  by_cases h : i = 0
  · simp [h]
  · simp [h]
theorem neq_ident (w : World) : (binOp .neq 107 .nilFunc .nilFunc).run Tryd.prog w = .ok (.bool false) w := by kernel_rfl

set_option maxRecDepth 100000 in
set_option maxHeartbeats 800000 in
theorem ident_go (E : Env) (hE : E.ident = .nilFunc) (U : Uni E.B E.w0) : IdOk E idGo := by
  intro w r c i hR hc hi
  have c1 := hR.c_ident
  rw [hE] at c1
  have hf := hR.frozen
  have hn := neq_ident
  have hB := hR.fr.1
  have u1 := Lib.hid (U.props w hB)
  have u2 := Lib.hid (U.letter w hB)
  have u3 := Lib.hid (fun w' (h : Below w.heap.size w w') => U.digit w' (hB.trans (h.mono hR.Bsize)))
  clear hR hB U
  rw [idGo_at]
  obtain ⟨bl, hbl⟩ : ∃ b, isLetterU c = b := ⟨_, rfl⟩
  obtain ⟨bd, hbd⟩ : ∃ b, isDigitU c = b := ⟨_, rfl⟩
  rw [hbl, hbd]
  have HL := Lib.hid hbl
  have HD := Lib.hid hbd
  clear hbl hbd
  obtain ⟨b95, h95⟩ : ∃ b, (c == 95) = b := ⟨_, rfl⟩
  rw [h95]
  have h0 : decide (0 < i) = decide (i ≠ 0) := decide_eq_decide.2 ⟨fun h => by omega, fun h => by omega⟩
  go_enter Tryd.func69, Tryd.ntmps69
  cases b95 with
  | true =>
    go_wp2_with (fail)
    go_ret
    exact ⟨rfl, Below.refl _ _⟩
  | false =>
    cases bl with
    | true =>
      go_wp2_with (first
        | (go_at_call 92; refine (Tryd.unicode_IsLetter_all c w (by omega) (by omega) u1.out u2.out).mono ?_; rw [HL.out]; rintro e w1 ⟨rfl, hb1⟩))
      go_ret
      exact ⟨rfl, hb1⟩
    | false =>
      cases bd with
      | true =>
        go_wp2_with (first
          | (go_at_call 92; refine (Tryd.unicode_IsLetter_all c w (by omega) (by omega) u1.out u2.out).mono ?_; rw [HL.out]; rintro e w1 ⟨rfl, hb1⟩)
          | (go_at_call 86; refine (Tryd.unicode_IsDigit_all c _ (by omega) (by omega) (u3.out _ hb1)).mono ?_; rw [HD.out]; rintro e w2 ⟨rfl, hb2⟩))
        go_ret
        refine ⟨?_, hb1.trans (hb2.mono hb1.size)⟩
        show Ending.returned (.bool (!decide (i = 0))) = _
        simp
      | false =>
        go_wp2_with (first
          | (go_at_call 92; refine (Tryd.unicode_IsLetter_all c w (by omega) (by omega) u1.out u2.out).mono ?_; rw [HL.out]; rintro e w1 ⟨rfl, hb1⟩)
          | (go_at_call 86; refine (Tryd.unicode_IsDigit_all c _ (by omega) (by omega) (u3.out _ hb1)).mono ?_; rw [HD.out]; rintro e w2 ⟨rfl, hb2⟩))
        go_ret
        exact ⟨rfl, hb1.trans (hb2.mono hb1.size)⟩
end Go.Proofs.YtmfihkgbfoapaaaDoor
namespace Go.Proofs.YtmfihkgbfoapaaaDoor
open Go Go.RowKit Go.Lib Go.BigFrame

theorem width_pos (s : ByteArray) (pos : Nat) (h : pos < s.size) : 1 ≤ (Utf8.decode s pos).2 := by
  by_cases ha : (s[pos]'h).toNat < 128
  · rw [decode_ascii s pos h ha]
    exact Nat.le_refl _
  · exact (decode_high s pos h (by omega)).2
/-- The characters of a string. -/
def runesFrom (s : ByteArray) (pos : Nat) : List Nat :=
  if _h : pos < s.size then (Utf8.decode s pos).1 :: runesFrom s (pos + (Utf8.decode s pos).2) else []
termination_by s.size - pos
decreasing_by have := width_pos s pos _h; omega
def hasRune (s : ByteArray) (pos : Nat) (r : Int) : Bool := (runesFrom s pos).any fun c => (c : Int) == r
theorem hasRune_end {s : ByteArray} {pos : Nat} (h : ¬ pos < s.size) (r : Int) : hasRune s pos r = false := by
  unfold hasRune; rw [runesFrom, dif_neg h]; rfl
theorem hasRune_step {s : ByteArray} {pos : Nat} (h : pos < s.size) (r : Int) : hasRune s pos r = ((((Utf8.decode s pos).1 : Nat) : Int) == r || hasRune s (pos + (Utf8.decode s pos).2) r) := by
  unfold hasRune; rw [runesFrom, dif_pos h]; rfl

set_option maxRecDepth 100000 in
theorem has_spec (w : World) (s : ByteArray) (r : Int) :
    Calls Tryd.prog 66 #[.string s, .int .i32 r] w fun e w' => e = .returned (.bool (hasRune s 0 r)) ∧ Below w.heap.size w w' := by
  go_enter Tryd.func66, Tryd.ntmps66
  go_wp2
  go_loopw [] (fun w' => ∃ (pos : Nat), w' = w.iter s pos ∧ hasRune s pos r = hasRune s 0 r) (fun (w1 : World) => s.size - w1.iterPos w.heap.size)
  case atStart => exact ⟨0, rfl, rfl⟩
  case round =>
    obtain ⟨pos, rfl, hc⟩ := hrel
    have hB : Below w.heap.size w (w.iter s pos) := (Below.refl _ w).alloc (Nat.le_refl _) _
    by_cases hp : pos < s.size
    · have hnx : ∀ ty, (Instr.next (.pointer (some ⟨w.heap.size, 0, none⟩)) true ty).run Tryd.prog (w.iter s pos) = _ := fun ty => run_next_any w s pos ty hp
      have hst := hasRune_step hp r
      have HS := Lib.hid (And.intro hc hst)
      clear hc hst
      go_wp2
      · go_ret
        rw [← HS.out.1, HS.out.2, show (((Utf8.decode s pos).1 : Nat) == r) = true by with_reducible assumption]
        exact ⟨rfl, (Below.refl _ w).alloc (Nat.le_refl _) _⟩
      · refine ⟨⟨_, rfl, ?_⟩, ?_⟩
        · rw [← HS.out.1, HS.out.2, show (((Utf8.decode s pos).1 : Nat) == r) = false by with_reducible assumption, Bool.false_or]
        · have := width_pos s pos hp
          simp only [World.iterPos_iter]
          omega
    · have hnx : ∀ ty, (Instr.next (.pointer (some ⟨w.heap.size, 0, none⟩)) true ty).run Tryd.prog (w.iter s pos) = _ := fun ty => run_next_end w s pos ty hp
      go_wp2
      go_ret
      rw [← hc, hasRune_end hp]
      exact ⟨rfl, hB⟩

/-- The closure that a setup's own identifiers are asked by. -/
theorem custom_spec (w : World) (g : Nat) (d : Bool) (m wh : Int) (cu : Bool) (f1 f2 : ByteArray) (c i : Int) (hi : 0 ≤ i) (hg : w.heap[g]? = some (.cells (setCells d m wh cu f1 f2) 25 (0, 0))) :
    Calls Tryd.prog 65 #[.int .i32 c, .int .i64 i, .pointer (some ⟨g, 0, none⟩)] w fun e w' => e = .returned (.bool (if i = 0 then hasRune f1 0 c else hasRune f2 0 c)) ∧ Below w.heap.size w w' := by
  have c4 : w.cell? ⟨g, 4, none⟩ = some (.string f1) := (cell_of_heap hg 4).trans rfl
  have c5 : w.cell? ⟨g, 5, none⟩ = some (.string f2) := (cell_of_heap hg 5).trans rfl
  go_enter Tryd.func65, Tryd.ntmps65
  by_cases h0 : i = 0
  · subst h0
    rw [if_pos rfl]
    generalize hb : hasRune f1 0 c = bb
    have HB := Lib.hid hb
    clear hb
    cases bb <;>
    · go_wp2_with (first
        | (go_at_call 66; refine (has_spec w f1 c).mono ?_; rw [HB.out]; rintro e w1 ⟨rfl, hb1⟩))
      go_ret
      exact ⟨rfl, hb1⟩
  · rw [if_neg h0]
    have h1 : (i == 0) = false := beq_eq_false_iff_ne.2 h0
    have h2 : decide (0 < i) = true := decide_eq_true (by omega)
    generalize hb : hasRune f2 0 c = bb
    have HB := Lib.hid hb
    clear hb
    cases bb <;>
    · go_wp2_with (first
        | (go_at_call 66; refine (has_spec w f2 c).mono ?_; rw [HB.out]; rintro e w1 ⟨rfl, hb1⟩))
      go_ret
      exact ⟨rfl, hb1⟩

theorem hasRune_neg (s : ByteArray) (pos : Nat) {r : Int} (h : r < 0) : hasRune s pos r = false := by
  unfold hasRune
  rw [List.any_eq_false]
  intro c _
  simp only [beq_iff_eq]
  omega
def idCustom (f1 f2 : ByteArray) : Idr where
  p0 c := hasRune f1 0 c
  p1 c := hasRune f2 0 c
  e0 := hasRune_neg _ _ (by decide)
  e1 := hasRune_neg _ _ (by decide)
theorem idCustom_at (f1 f2 : ByteArray) (i c : Int) : (idCustom f1 f2).at i c = if i = 0 then hasRune f1 0 c else hasRune f2 0 c := rfl
theorem neq_custom (w : World) (a : Array Value) : (binOp .neq 107 (.func (.func 65) #[] a) .nilFunc).run Tryd.prog w = .ok (.bool true) w := by kernel_rfl

set_option maxRecDepth 100000 in
set_option maxHeartbeats 800000 in
theorem ident_custom (E : Env) (g : Nat) (d : Bool) (m wh : Int) (cu : Bool) (f1 f2 : ByteArray) (hE : E.ident = .func (.func 65) #[] #[.pointer (some ⟨g, 0, none⟩)])
    (hg : E.w0.heap[g]? = some (.cells (setCells d m wh cu f1 f2) 25 (0, 0))) (g1 : g ≠ E.b) (g2 : g ≠ E.bR) (g3 : g ≠ E.bC) : IdOk E (idCustom f1 f2) := by
  intro w r c i hR hc hi
  have c1 := hR.c_ident
  rw [hE] at c1
  have hf := hR.frozen
  have hn := neq_custom
  have hgw := hR.fr.2 g _ hg g1 g2 g3 (fun c fz h => by cases h)
  have HG := Lib.hid hgw
  clear hR hgw hg
  rw [idCustom_at]
  obtain ⟨bb, hbb⟩ : ∃ b, (c != -1) = b := ⟨_, rfl⟩
  go_enter Tryd.func69, Tryd.ntmps69
  cases bb with
  | true =>
    generalize hb : (if i = 0 then hasRune f1 0 c else hasRune f2 0 c) = bv
    have HB := Lib.hid hb
    clear hb
    go_wp2_with (first
      | (go_at_call 65; refine (custom_spec w g d m wh cu f1 f2 c i hi.1 HG.out).mono ?_; rw [HB.out]; rintro e w1 ⟨rfl, hb1⟩))
    all_goals go_ret
    all_goals exact ⟨rfl, hb1⟩
  | false =>
    have h1 : c = -1 := bne_eq_false_iff_eq.1 hbb
    rw [show (if i = 0 then hasRune f1 0 c else hasRune f2 0 c) = false by rw [h1, hasRune_neg _ _ (by decide), hasRune_neg _ _ (by decide)]; simp]
    clear h1
    go_wp2_with (fail)
    go_ret
    exact ⟨rfl, Below.refl _ _⟩
end Go.Proofs.YtmfihkgbfoapaaaDoor
