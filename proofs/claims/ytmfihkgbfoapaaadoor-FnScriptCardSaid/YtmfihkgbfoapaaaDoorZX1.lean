/- Own texts X1 of this claim, cut to what the claim uses. -/
import Derived.Test.YtmfihkgbfoapaaaDoorZX0
import Derived.Test.YtmfihkgbfoapaaaDoorZS2
namespace Go.Proofs.YtmfihkgbfoapaaaDoor
set_option linter.unusedVariables false
set_option linter.unusedSimpArgs false
open Go Go.RowKit Go.Lib Go.BigFrame Go.Proofs.YtmfihkgbfoapaaaDoorW.PrintWords
theorem conv_runes (s : ByteArray) : ∀ (bound i : Nat) (acc : Array Value), s.size ≤ i + bound → Conv.runesFrom s bound i acc = acc ++ ((runesFrom s i).map fun c => Value.int .i32 (c : Nat)).toArray
  | 0, i, acc, h => by
    rw [runesFrom, dif_neg (by omega)]
    simp [Conv.runesFrom]
  | bound + 1, i, acc, h => by
    unfold Conv.runesFrom
    by_cases hp : i < s.size
    · rw [if_pos hp, runesFrom, dif_pos hp]
      have hw := width_pos s i hp
      show Conv.runesFrom s bound (i + (Utf8.decode s i).2) (acc.push (.int .i32 (Int.ofNat (Utf8.decode s i).1))) = _
      rw [conv_runes s bound _ _ (by omega)]
      simp
    · rw [if_neg hp, runesFrom, dif_neg hp]; simp
theorem runes_le (s : ByteArray) : ∀ (k i : Nat), s.size - i ≤ k → (runesFrom s i).length ≤ k
  | 0, i, h => by rw [runesFrom, dif_neg (by omega)]; simp
  | k + 1, i, h => by
    rw [runesFrom]
    by_cases hp : i < s.size
    · rw [dif_pos hp]
      have hw := width_pos s i hp
      have := runes_le s k (i + (Utf8.decode s i).2) (by omega)
      simp only [List.length_cons]; omega
    · rw [dif_neg hp]; simp
theorem runes_conv (s : ByteArray) : Conv.runesFrom s s.size 0 #[] = ((runesFrom s 0).map fun c => Value.int .i32 (c : Nat)).toArray := by
  rw [conv_runes s s.size 0 #[] (by omega)]; simp
theorem runes_max (s : ByteArray) : ∀ i, ∀ c ∈ runesFrom s i, c ≤ 1114111 := by
  intro i
  induction hn : s.size - i using Nat.strongRecOn generalizing i with
  | _ n ih =>
    rw [runesFrom]
    by_cases hp : i < s.size
    · rw [dif_pos hp]
      have hw := width_pos s i hp
      intro c hc
      rcases List.mem_cons.1 hc with rfl | hc
      · rw [Lib.decode_at]
        exact decodeN_rune _ _ _ _ _
      · exact ih (s.size - (i + (Utf8.decode s i).2)) (by omega) _ rfl c hc
    · rw [dif_neg hp]; intro c hc; cases hc
set_option maxRecDepth 100000 in
theorem has84 (w : World) (s : ByteArray) (r : Int) (hs : s.size ≤ 70368744177664) :
    Calls Tryd.prog 84 #[.string s, .int .i32 r] w fun e w' => e = .returned (.bool (hasRune s 0 r)) ∧ Below w.heap.size w w' := by
  have hl := runes_le s s.size 0 (by omega)
  have hmax := runes_max s 0
  have hcv := run_runes_of_string (P := Tryd.prog) w 9 130 21 s Tryd.underlying9 Tryd.underlying130 Tryd.underlying21 (by rw [runes_conv]; simp; omega)
  rw [runes_conv] at hcv
  obtain ⟨L, hL⟩ : ∃ L, runesFrom s 0 = L := ⟨_, rfl⟩
  have hr : hasRune s 0 r = L.any fun c => (c : Int) == r := by unfold hasRune; rw [hL]
  rw [hr]
  rw [hL] at hl hcv hmax
  simp only [List.size_toArray, List.length_map] at hcv
  obtain ⟨cap, hcap⟩ : ∃ c, grownCap w L.length 0 21 = c := ⟨_, rfl⟩
  rw [hcap] at hcv
  obtain ⟨W, hW⟩ : ∃ W, (w.drew.alloc (.cells ((L.map fun c => Value.int .i32 (c : Nat)).toArray ++ Array.replicate (cap - L.length) (.int .i32 0)) 21)) = W := ⟨_, rfl⟩
  rw [hW] at hcv
  have hb : Below w.heap.size w W := by rw [← hW]; exact (Below.refl _ w).drew.alloc (Nat.le_refl _) _
  have hbk : W.heap[w.heap.size]? = some (.cells ((L.map fun c => Value.int .i32 (c : Nat)).toArray ++ Array.replicate (cap - L.length) (.int .i32 0)) 21 (0, 0)) := by rw [← hW]; exact heap_alloc_new w.drew _
  have hcell : ∀ (j : Nat) (h : j < L.length), W.cell? ⟨w.heap.size, j, none⟩ = some (.int .i32 (L[j] : Nat)) := by
    intro j h
    rw [cell_of_heap hbk j, Array.getElem?_append_left (by simpa using h)]
    simp [h]
  obtain ⟨q, hq⟩ : ∃ q, w.heap.size = q := ⟨_, rfl⟩
  rw [hq] at hcv hcell
  have HB := Lib.hid (And.intro hb (And.intro hq (And.intro hcell (And.intro hmax hL))))
  clear hr hW hbk hcell hb hmax hcap hq hL
  go_enter Tryd.func84, Tryd.ntmps84
  go_wp2_with (fail)
  go_loopg [10] L.length (fun kk i wr => ∃ j : Nat, j + kk = L.length ∧ i = .int .i64 (j : Nat) ∧ wr = W ∧ (L.drop j).any (fun c => (c : Int) == r) = L.any fun c => (c : Int) == r)
  case atStart => exact ⟨0, by omega, rfl, rfl, rfl⟩
  case round =>
    obtain ⟨j, hj, rfl, rfl, ha⟩ := hrel
    by_cases hlt : j < L.length
    · have c0 := HB.out.2.2.1 j hlt
      have hd : L.drop j = L[j] :: L.drop (j + 1) := List.drop_eq_getElem_cons hlt
      have hm := HB.out.2.2.2.1 _ (List.getElem_mem hlt)
      rw [hd, List.any_cons] at ha
      obtain ⟨x, hx⟩ : ∃ x, L[j] = x := ⟨_, rfl⟩
      rw [hx] at c0 ha hm
      have HA := Lib.hid ha
      clear ha hd hx hcv
      go_wp2_with (fail)
      · go_ret
        have h1 : ((x : Int) == r) = true := by with_reducible assumption
        refine ⟨?_, HB.out.1⟩
        rw [← HA.out, h1]; rfl
      · go_roundg (L.length - (j + 1))
        case measure => omega
        case rel =>
          have h1 : ((x : Int) == r) = false := by with_reducible assumption
          exact ⟨j + 1, by omega, by go_num, rfl, by rw [← HA.out, h1]; rfl⟩
    · have hje : L.drop j = [] := List.drop_eq_nil_of_le (by omega)
      rw [hje] at ha
      clear hcv
      go_wp2_with (fail)
      go_ret
      exact ⟨by rw [← ha]; rfl, HB.out.1⟩
theorem dgOf_low {c : Int} (h : 97 ≤ c ∧ c ≤ 102) : dgOf c = c - 97 + 10 := by
  unfold dgOf; rw [if_neg (by rw [isDec_iff]; omega), if_pos h]; omega
theorem dgOf_up {c : Int} (h : 65 ≤ c ∧ c ≤ 70) : dgOf c = c - 65 + 10 := by
  unfold dgOf; rw [if_neg (by rw [isDec_iff]; omega), if_neg (by omega), if_pos h]; omega
theorem dgOf_no {c : Int} (hd : isDec c = false) (h : ¬ (97 ≤ c ∧ c ≤ 102)) (h2 : ¬ (65 ≤ c ∧ c ≤ 70)) : dgOf c = 16 := by
  unfold dgOf; rw [hd, if_neg (by decide), if_neg h, if_neg h2]
set_option maxRecDepth 100000 in
theorem digitOf_spec (w : World) (c : Int) (hc : -1 ≤ c ∧ c ≤ 1114111) : Calls Tryd.prog 104 #[.int .i32 c] w fun e w' => e = .returned (.int .i64 (dgOf c)) ∧ w' = w := by
  go_enter Tryd.func104, Tryd.ntmps104
  cases hd : isDec c with
  | true =>
    have h1 := isDec_iff.1 hd
    go_wp2_with (go_at_call 38; refine (digit_spec w c).mono ?_; rw [hd]; rintro e w1 ⟨rfl, rfl⟩)
    go_ret
    exact ⟨by rw [dgOf_dec hd]; rfl, rfl⟩
  | false =>
    go_wp2_with (go_at_call 38; refine (digit_spec w c).mono ?_; rw [hd]; rintro e w1 ⟨rfl, rfl⟩)
    all_goals go_ret
    all_goals refine ⟨?_, rfl⟩
    all_goals first
      | (rw [dgOf_low (by omega)]; rfl)
      | (rw [dgOf_up (by omega)]; rfl)
      | (rw [dgOf_no hd (by omega) (by omega)]; rfl)
set_option maxRecDepth 100000 in
theorem isLet_spec (w : World) (c : Int) (hc : -1 ≤ c ∧ c ≤ 1114111) (U : Uni w.heap.size w) : Calls Tryd.prog 85 #[.int .i32 c] w fun e w' => e = .returned (.bool (isLet c)) ∧ Below w.heap.size w w' := by
  have u1 := Lib.hid (U.props w (Below.refl _ _))
  have u2 := Lib.hid (U.letter w (Below.refl _ _))
  clear U
  obtain ⟨b1, h1⟩ : ∃ b, (c == 95) = b := ⟨_, rfl⟩
  obtain ⟨b2, h2⟩ : ∃ b, isLetterU c = b := ⟨_, rfl⟩
  obtain ⟨b3, h3⟩ : ∃ b, decide (0 < c) = b := ⟨_, rfl⟩
  unfold isLet
  rw [h1, h2, h3]
  have H2 := Lib.hid h2
  clear h2
  go_enter Tryd.func85, Tryd.ntmps85
  cases b1 <;> cases b3 <;> cases b2 <;>
  · go_wp2_with (go_at_call 92; refine (Tryd.unicode_IsLetter_all c w (by omega) (by omega) u1.out u2.out).mono ?_; rw [H2.out]; rintro e w1 ⟨rfl, hb1⟩)
    go_ret
    first
      | exact ⟨rfl, Below.refl _ _⟩
      | exact ⟨rfl, hb1⟩
structure Mv (q : Nat) (w w1 : World) : Prop where
  os : w1.os = w.os
  tape : w1.tape = w.tape
  output : w1.output = w.output
  size : w.heap.size ≤ w1.heap.size
  block : ∀ k, k < w.heap.size → k ≠ q → w1.heap[k]? = w.heap[k]?
theorem Mv.refl (q : Nat) (w : World) : Mv q w w := ⟨rfl, rfl, rfl, Nat.le_refl _, fun _ _ _ => rfl⟩
theorem Mv.trans {q : Nat} {w w1 w2 : World} (h : Mv q w w1) (h2 : Mv q w1 w2) : Mv q w w2 :=
  ⟨h2.os.trans h.os, h2.tape.trans h.tape, h2.output.trans h.output, Nat.le_trans h.size h2.size, fun k hk hq => (h2.block k (Nat.lt_of_lt_of_le hk h.size) hq).trans (h.block k hk hq)⟩
theorem Mv.of {q : Nat} {w w1 : World} (h : Below w.heap.size w w1) : Mv q w w1 := ⟨h.os, h.tape, h.output, h.size, fun k hk _ => h.block k hk⟩
theorem Mv.below {q n : Nat} {w w1 : World} (h : Mv q w w1) (hn : n ≤ q) (hw : n ≤ w.heap.size) : Below n w w1 := ⟨h.os, h.tape, h.output, h.size, fun k hk => h.block k (by omega) (by omega)⟩
theorem Mv.set (q i : Nat) (w : World) (v : Value) : Mv q w (w.setCell ⟨q, i, none⟩ v) :=
  ⟨rfl, rfl, rfl, by rw [World.size_setCell]; exact Nat.le_refl _, fun k _ hk => Below.heap_setCell _ _ _ _ (by exact hk)⟩
end Go.Proofs.YtmfihkgbfoapaaaDoor
