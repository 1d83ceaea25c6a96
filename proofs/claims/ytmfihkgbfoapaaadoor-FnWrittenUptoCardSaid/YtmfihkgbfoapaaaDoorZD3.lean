/- Own texts D3 of this claim, cut to what the claim uses. -/
import Derived.Test.YtmfihkgbfoapaaaDoorZD2
namespace Go.Proofs.YtmfihkgbfoapaaaDoor
open Go Go.RowKit Go.Lib Go.BigFrame
theorem chOf_nil : chOf [] = -1 := rfl
theorem ne_nil_of_ch {l : List Item} (h : 0 ≤ chOf l) : l ≠ [] := by rintro rfl; rw [chOf_nil] at h; omega
theorem tail_lt {l : List Item} (h : l ≠ []) : l.tail.length < l.length := by
  have h0 : 0 < l.length := List.length_pos_iff.2 h
  rw [List.length_tail]; omega
def strRun (q : Int) (l : List Item) : List Item × Nat × Nat :=
  if chOf l = q then (l, 0, 0)
  else if h : chOf l = 10 ∨ chOf l < 0 then (l, 0, 1)
  else if chOf l = 92 then
    let e := escRun q l
    let r := strRun q e.1
    (r.1, r.2.1 + 1, e.2 + r.2.2)
  else
    let r := strRun q l.tail
    (r.1, r.2.1 + 1, r.2.2)
termination_by l.length
decreasing_by
  · exact escRun_lt q l (ne_nil_of_ch (by omega))
  · exact tail_lt (ne_nil_of_ch (by omega))
theorem strRun_stop {q : Int} {l : List Item} (h : chOf l = q) : strRun q l = (l, 0, 0) := by rw [strRun, if_pos h]
theorem strRun_bad {q : Int} {l : List Item} (h : chOf l ≠ q) (h1 : chOf l = 10 ∨ chOf l < 0) : strRun q l = (l, 0, 1) := by rw [strRun, if_neg h, dif_pos h1]
theorem strRun_esc {q : Int} {l : List Item} (h : chOf l ≠ q) (h1 : chOf l = 92) : strRun q l = ((strRun q (escRun q l).1).1, (strRun q (escRun q l).1).2.1 + 1, (escRun q l).2 + (strRun q (escRun q l).1).2.2) := by
  rw [strRun, if_neg h, dif_neg (by omega), if_pos h1]
theorem strRun_step {q : Int} {l : List Item} (h : chOf l ≠ q) (h1 : chOf l ≠ 10) (h2 : 0 ≤ chOf l) (h3 : chOf l ≠ 92) : strRun q l = ((strRun q l.tail).1, (strRun q l.tail).2.1 + 1, (strRun q l.tail).2.2) := by
  rw [strRun, if_neg h, dif_neg (by omega), if_neg h3]
set_option maxRecDepth 100000 in
set_option maxHeartbeats 800000 in
theorem scanString_sl (E : Env) (src : List UInt8) (w : World) (l : List Item) (x : Sx) (q : Int) (h : Sl E src w l x) (gl : Glob E) (hlen : Fits src) :
    Calls Tryd.prog 73 #[.pointer (some ⟨E.b, 0, none⟩), .int .i32 q] w fun e w' => e = .returned (.int .i64 ((strRun q l.tail).2.1 : Nat)) ∧ Sl E src w' (strRun q l.tail).1 (x.errs (strRun q l.tail).2.2) ∧ (strRun q l.tail).2.1 ≤ src.length := by
  have H := Lib.hid h
  clear h
  go_enter Tryd.func73, Tryd.ntmps73
  go_wp2_with (first
    | (go_at_call 67; refine (next_sl E src _ _ _ H.out gl hlen).mono ?_; clear H; rintro e w' ⟨rfl, h'⟩; have H := Lib.hid h'; clear h'))
  go_loopg [4, 5] l.tail.length (fun k n ch wr => ∃ (l1 : List Item) (n1 k1 : Nat), l1.length ≤ k ∧ n = .int .i64 n1 ∧ ch = .int .i32 (chOf l1) ∧ n1 + l1.length ≤ src.length ∧ Sl E src wr l1 (x.errs k1) ∧
    strRun q l.tail = ((strRun q l1).1, n1 + (strRun q l1).2.1, k1 + (strRun q l1).2.2))
  case atStart => exact ⟨l.tail, 0, 0, Nat.le_refl _, rfl, rfl, by have := H.out.len; omega, by rw [Sx.errs_zero]; exact H.out, by simp⟩
  case round =>
    obtain ⟨l1, n1, k1, hk, rfl, rfl, hn, hs, hm⟩ := hrel
    clear H
    have HM := Lib.hid hm
    have HK := Lib.hid (And.intro hk hn)
    have hn1 : n1 ≤ 70368744177664 := by unfold Fits at hlen; omega
    have H := Lib.hid hs
    clear hm hs hk hn
    go_wp2_with (first
      | (go_at_call 67; refine (next_sl E src _ _ _ H.out gl hlen).mono ?_; clear H; rintro e w' ⟨rfl, h'⟩; have H := Lib.hid h'; clear h')
      | (go_at_call 98; refine (scanEscape_sl E src _ _ _ _ H.out gl hlen).mono ?_; clear H; rintro e w' ⟨rfl, h'⟩; have H := Lib.hid h'; clear h')
      | (go_at_call 90; refine (error_sl E src _ _ _ _ H.out).mono ?_; clear H; rintro e w' ⟨rfl, h'⟩; have H := Lib.hid h'; clear h'))
    · have hm := HM.out
      have hk := HK.out
      have hb : chOf l1 ≠ q := by simpa using ‹(chOf l1 != q) = true›
      rw [strRun_bad hb (.inl (by assumption))] at hm
      go_ret
      rw [hm]
      exact ⟨rfl, by rw [← Sx.errs_errs, ← Sx.err_eq]; exact H.out, by simp only; omega⟩
    · have hm := HM.out
      have hk := HK.out
      have hb : chOf l1 ≠ q := by simpa using ‹(chOf l1 != q) = true›
      have h5 : (chOf l1 == 10) = true ∨ chOf l1 < 0 := by assumption
      rw [beq_iff_eq] at h5
      rw [strRun_bad hb h5] at hm
      go_ret
      rw [hm]
      exact ⟨rfl, by rw [← Sx.errs_errs, ← Sx.err_eq]; exact H.out, by simp only; omega⟩
    · have hm := HM.out
      have hk := HK.out
      have hb : chOf l1 ≠ q := by simpa using ‹(chOf l1 != q) = true›
      have h5 : (chOf l1 == 10) = false ∧ 0 ≤ chOf l1 := by assumption
      have h6 : chOf l1 = 92 := by simpa using ‹(chOf l1 == 92) = true›
      have h7 := escRun_lt q l1 (ne_nil_of_ch h5.2)
      rw [strRun_esc hb h6] at hm
      have hh := H.out
      rw [Sx.errs_errs] at hh
      go_roundg (gk - 1)
      case measure => omega
      case rel => exact ⟨(escRun q l1).1, n1 + 1, _, by omega, by congr 1, rfl, by omega, hh, by rw [hm]; simp only [Prod.mk.injEq, true_and]; omega⟩
    · have hm := HM.out
      have hk := HK.out
      have hb : chOf l1 ≠ q := by simpa using ‹(chOf l1 != q) = true›
      have h5 : (chOf l1 == 10) = false ∧ 0 ≤ chOf l1 := by assumption
      have h6 : chOf l1 ≠ 92 := by simpa using ‹(chOf l1 == 92) = false›
      have h7 := tail_lt (ne_nil_of_ch h5.2)
      have h8 : chOf l1 ≠ 10 := by simpa using h5.1
      rw [strRun_step hb h8 h5.2 h6] at hm
      have hh := H.out
      go_roundg (gk - 1)
      case measure => omega
      case rel => exact ⟨l1.tail, n1 + 1, _, by omega, by congr 1, rfl, by omega, hh, by rw [hm]; simp only [Prod.mk.injEq, true_and, and_true]; omega⟩
    · have hm := HM.out
      have hk := HK.out
      have hb : chOf l1 = q := by simpa using ‹(chOf l1 != q) = false›
      rw [strRun_stop hb] at hm
      go_ret
      rw [hm]
      exact ⟨rfl, H.out, by simp only; omega⟩
def chrErr (n : Nat) : Nat := if n = 1 then 0 else 1
set_option maxHeartbeats 400000 in
theorem scanChar_sl (E : Env) (src : List UInt8) (w : World) (l : List Item) (x : Sx) (h : Sl E src w l x) (gl : Glob E) (hlen : Fits src) :
    Calls Tryd.prog 74 #[.pointer (some ⟨E.b, 0, none⟩)] w fun e w' => e = .returned (.tuple #[]) ∧
      Sl E src w' (strRun 39 l.tail).1 (x.errs ((strRun 39 l.tail).2.2 + chrErr (strRun 39 l.tail).2.1)) := by
  have H := Lib.hid h
  clear h
  go_enter Tryd.func74, Tryd.ntmps74
  go_wp2_with (first
    | (go_at_call 73; refine (scanString_sl E src _ _ _ _ H.out gl hlen).mono ?_; clear H; rintro e w' ⟨rfl, h', hb⟩; have H := Lib.hid h'; clear h')
    | (go_at_call 90; refine (error_sl E src _ _ _ _ H.out).mono ?_; clear H; rintro e w' ⟨rfl, h'⟩; have H := Lib.hid h'; clear h'))
  all_goals go_end0
  all_goals simp only [bne_iff_ne, ne_eq, bne_eq_false_iff_eq] at *
  · exact ⟨trivial, by rw [show chrErr (strRun 39 l.tail).2.1 = 1 from if_neg (by omega), ← Sx.errs_errs]; exact H.out⟩
  · exact ⟨trivial, by rw [show chrErr (strRun 39 l.tail).2.1 = 0 from if_pos (by omega)]; exact H.out⟩
def rawRun (l : List Item) : List Item := l.dropWhile fun c => decide ((c.r : Int) ≠ 96)
theorem rawRun_stop {l : List Item} (h : chOf l = 96) : rawRun l = l := by
  cases l with
  | nil => rfl
  | cons c l => unfold rawRun; rw [List.dropWhile_cons_of_neg]; rw [show ((c.r : Int)) = 96 from h]; decide
theorem rawRun_step {l : List Item} (h : chOf l ≠ 96) : rawRun l = rawRun l.tail := by
  cases l with
  | nil => rfl
  | cons c l => unfold rawRun; rw [List.dropWhile_cons_of_pos]; rfl; exact decide_eq_true h
def rawErr (l : List Item) : Nat := if l = [] then 1 else 0
set_option maxHeartbeats 400000 in
theorem scanRawString_sl (E : Env) (src : List UInt8) (w : World) (l : List Item) (x : Sx) (h : Sl E src w l x) (gl : Glob E) (hlen : Fits src) :
    Calls Tryd.prog 76 #[.pointer (some ⟨E.b, 0, none⟩)] w fun e w' => e = .returned (.tuple #[]) ∧ Sl E src w' (rawRun l.tail) (x.errs (rawErr (rawRun l.tail))) := by
  have H := Lib.hid h
  clear h
  go_enter Tryd.func76, Tryd.ntmps76
  go_wp2_with (first
    | (go_at_call 67; refine (next_sl E src _ _ _ H.out gl hlen).mono ?_; clear H; rintro e w' ⟨rfl, h'⟩; have H := Lib.hid h'; clear h'))
  go_loopg [2] l.tail.length (fun k ch wr => ∃ (l1 : List Item), l1.length ≤ k ∧ ch = .int .i32 (chOf l1) ∧ Sl E src wr l1 x ∧ rawRun l1 = rawRun l.tail)
  case atStart => exact ⟨l.tail, Nat.le_refl _, rfl, H.out, rfl⟩
  case round =>
    obtain ⟨l1, hk, rfl, hs, hm⟩ := hrel
    clear H
    have HM := Lib.hid hm
    have HK := Lib.hid hk
    have H := Lib.hid hs
    clear hm hs hk
    go_wp2_with (first
      | (go_at_call 67; refine (next_sl E src _ _ _ H.out gl hlen).mono ?_; clear H; rintro e w' ⟨rfl, h'⟩; have H := Lib.hid h'; clear h')
      | (go_at_call 90; refine (error_sl E src _ _ _ _ H.out).mono ?_; clear H; rintro e w' ⟨rfl, h'⟩; have H := Lib.hid h'; clear h'))
    · have hm := HM.out
      have h2 : l1 = [] := by
        cases l1 with
        | nil => rfl
        | cons c l1 => have : chOf (c :: l1) < 0 := by assumption
                       unfold chOf at this; simp only at this; omega
      have hh := H.out
      subst h2
      refine bodyPost_ret (results_none rfl _ _ _) rfl ?_
      rw [← hm]
      exact ⟨rfl, hh⟩
    · have hm := HM.out
      have hk := HK.out
      have h2 : 0 ≤ chOf l1 := by omega
      have h3 : chOf l1 ≠ 96 := by simpa using ‹(chOf l1 != 96) = true›
      have h7 := tail_lt (ne_nil_of_ch h2)
      have hh := H.out
      rw [rawRun_step h3] at hm
      go_roundg (gk - 1)
      case measure => omega
      case rel => exact ⟨l1.tail, by omega, rfl, hh, hm⟩
    · have hm := HM.out
      have h3 : chOf l1 = 96 := by simpa using ‹(chOf l1 != 96) = false›
      rw [rawRun_stop h3] at hm
      go_end0
      have h4 : rawErr l1 = 0 := if_neg (by rintro rfl; rw [chOf_nil] at h3; omega)
      rw [← hm, h4]
      exact ⟨rfl, by rw [Sx.errs_zero]; exact H.out⟩
def lineRun (l : List Item) : List Item := l.dropWhile fun c => decide ((c.r : Int) ≠ 10)
theorem lineRun_stop {l : List Item} (h : chOf l = 10 ∨ chOf l < 0) : lineRun l = l := by
  cases l with
  | nil => rfl
  | cons c l =>
    have h1 : chOf (c :: l) = (c.r : Int) := rfl
    unfold lineRun; rw [List.dropWhile_cons_of_neg]; rw [show ((c.r : Int)) = 10 by omega]; decide
theorem lineRun_step {l : List Item} (h : chOf l ≠ 10) (h0 : 0 ≤ chOf l) : lineRun l = lineRun l.tail := by
  cases l with
  | nil => rfl
  | cons c l => unfold lineRun; rw [List.dropWhile_cons_of_pos]; rfl; exact decide_eq_true h
def comRun : List Item → List Item × Nat
  | [] => ([], 1)
  | c :: l => if (c.r : Int) = 42 ∧ chOf l = 47 then (l.tail, 0) else comRun l
theorem comRun_nil {l : List Item} (h : chOf l < 0) : l = [] := by
  cases l with
  | nil => rfl
  | cons c l => unfold chOf at h; simp only at h; omega
theorem comRun_stop {l : List Item} (h : chOf l = 42) (h1 : chOf l.tail = 47) : comRun l = (l.tail.tail, 0) := by
  cases l with
  | nil => rw [chOf_nil] at h; omega
  | cons c l => unfold comRun; rw [if_pos ⟨h, h1⟩]; rfl
theorem comRun_step {l : List Item} (h : 0 ≤ chOf l) (h1 : chOf l ≠ 42 ∨ chOf l.tail ≠ 47) : comRun l = comRun l.tail := by
  cases l with
  | nil => rw [chOf_nil] at h; omega
  | cons c l =>
    rw [comRun, if_neg]; rfl
    rintro ⟨h2, h3⟩
    rcases h1 with h1 | h1
    · exact h1 h2
    · exact h1 h3
def comment (l : List Item) : List Item × Nat := if chOf l = 47 then (lineRun l.tail, 0) else comRun l.tail
set_option maxHeartbeats 400000 in
theorem scanComment_sl (E : Env) (src : List UInt8) (w : World) (l : List Item) (x : Sx) (h : Sl E src w l x) (gl : Glob E) (hlen : Fits src) :
    Calls Tryd.prog 75 #[.pointer (some ⟨E.b, 0, none⟩), .int .i32 (chOf l)] w fun e w' => e = .returned (.int .i32 (chOf (comment l).1)) ∧ Sl E src w' (comment l).1 (x.errs (comment l).2) := by
  have H := Lib.hid h
  clear h
  by_cases h47 : chOf l = 47
  · have hc : comment l = (lineRun l.tail, 0) := by unfold comment; rw [if_pos h47]
    have h47b : (chOf l == 47) = true := beq_iff_eq.2 h47
    rw [hc]
    clear hc h47
    go_enter Tryd.func75, Tryd.ntmps75
    go_wp2_with (first
      | (go_at_call 67; refine (next_sl E src _ _ _ H.out gl hlen).mono ?_; clear H; rintro e w' ⟨rfl, h'⟩; have H := Lib.hid h'; clear h'))
    go_loopg [1] l.tail.length (fun k ch wr => ∃ (l1 : List Item), l1.length ≤ k ∧ ch = .int .i32 (chOf l1) ∧ Sl E src wr l1 x ∧ lineRun l1 = lineRun l.tail)
    case atStart => exact ⟨l.tail, Nat.le_refl _, rfl, H.out, rfl⟩
    case round =>
      obtain ⟨l1, hk, rfl, hs, hm⟩ := hrel
      clear H
      have HM := Lib.hid hm
      have HK := Lib.hid hk
      have H := Lib.hid hs
      clear hm hs hk h47b
      go_wp2_with (first
        | (go_at_call 67; refine (next_sl E src _ _ _ H.out gl hlen).mono ?_; clear H; rintro e w' ⟨rfl, h'⟩; have H := Lib.hid h'; clear h'))
      · have hm := HM.out
        have h10 : chOf l1 = 10 := by assumption
        rw [lineRun_stop (.inl h10)] at hm
        go_ret
        rw [← hm]
        exact ⟨by rw [h10]; rfl, by rw [Sx.errs_zero]; exact H.out⟩
      · have hm := HM.out
        have hk := HK.out
        have h5 : (chOf l1 != 10) = true ∧ 0 ≤ chOf l1 := by assumption
        have h7 := tail_lt (ne_nil_of_ch h5.2)
        have hh := H.out
        rw [lineRun_step (by simpa using h5.1) h5.2] at hm
        go_roundg (gk - 1)
        case measure => omega
        case rel => exact ⟨l1.tail, by omega, rfl, hh, hm⟩
      · have hm := HM.out
        have h5 : (chOf l1 != 10) = false ∨ chOf l1 < 0 := by assumption
        rw [lineRun_stop (h5.imp_left (by simp))] at hm
        go_ret
        rw [← hm]
        exact ⟨rfl, by rw [Sx.errs_zero]; exact H.out⟩
  · have hc : comment l = comRun l.tail := by unfold comment; rw [if_neg h47]
    have h47b : (chOf l == 47) = false := beq_eq_false_iff_ne.2 h47
    rw [hc]
    clear hc h47
    go_enter Tryd.func75, Tryd.ntmps75
    go_wp2_with (first
      | (go_at_call 67; refine (next_sl E src _ _ _ H.out gl hlen).mono ?_; clear H; rintro e w' ⟨rfl, h'⟩; have H := Lib.hid h'; clear h'))
    go_loopg [1] l.tail.length (fun k ch wr => ∃ (l1 : List Item), l1.length ≤ k ∧ ch = .int .i32 (chOf l1) ∧ Sl E src wr l1 x ∧ comRun l1 = comRun l.tail)
    case atStart => exact ⟨l.tail, Nat.le_refl _, rfl, H.out, rfl⟩
    case round =>
      obtain ⟨l1, hk, rfl, hs, hm⟩ := hrel
      clear H
      have HM := Lib.hid hm
      have HK := Lib.hid hk
      have H := Lib.hid hs
      clear hm hs hk h47b
      go_wp2_with (first
        | (go_at_call 67; refine (next_sl E src _ _ _ H.out gl hlen).mono ?_; clear H; rintro e w' ⟨rfl, h'⟩; have H := Lib.hid h'; clear h')
        | (go_at_call 90; refine (error_sl E src _ _ _ _ H.out).mono ?_; clear H; rintro e w' ⟨rfl, h'⟩; have H := Lib.hid h'; clear h'))
      · have hm := HM.out
        have h2 := comRun_nil (l := l1) (by assumption)
        have hh := H.out
        subst h2
        go_ret
        rw [← hm]
        exact ⟨rfl, hh⟩
      · have hm := HM.out
        rw [comRun_stop (by assumption) (by simpa using ‹(chOf l1.tail == 47) = true›)] at hm
        go_ret
        rw [← hm]
        exact ⟨rfl, by rw [Sx.errs_zero]; exact H.out⟩
      · have hm := HM.out
        have hk := HK.out
        have h5 : 0 ≤ chOf l1 := by assumption
        have h7 := tail_lt (ne_nil_of_ch h5)
        have hh := H.out
        rw [comRun_step h5 (.inr (by simpa using ‹(chOf l1.tail == 47) = false›))] at hm
        go_roundg (gk - 1)
        case measure => omega
        case rel => exact ⟨l1.tail, by omega, rfl, hh, hm⟩
      · have hm := HM.out
        have hk := HK.out
        have h5 : 0 ≤ chOf l1 := by assumption
        have h7 := tail_lt (ne_nil_of_ch h5)
        have hh := H.out
        rw [comRun_step h5 (.inl (by assumption))] at hm
        go_roundg (gk - 1)
        case measure => omega
        case rel => exact ⟨l1.tail, by omega, rfl, hh, hm⟩
end Go.Proofs.YtmfihkgbfoapaaaDoor
