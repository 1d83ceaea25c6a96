/- Own texts F4 of this claim, cut to what the claim uses. -/
import Derived.Test.YtmfihkgbfoapaaaDoorZF3
import Derived.Laws.Bits64b
namespace Go.Proofs.YtmfihkgbfoapaaaDoor
set_option linter.unusedVariables false
set_option linter.unusedSimpArgs false
open Go Go.RowKit Go.Lib Go.BigFrame Go.Proofs.YtmfihkgbfoapaaaDoorW.PrintWords
def kindIx (k : Int) : Nat := (k % 7).toNat
theorem kindIx_lt (k : Int) : kindIx k < 7 := by unfold kindIx; omega
theorem tmod7 (k : Int) : k.tmod 7 = k % 7 ∨ (k.tmod 7 = k % 7 - 7 ∧ 0 < k % 7) := by
  rw [Int.tmod_eq_emod]
  by_cases h : 0 ≤ k ∨ (7 : Int) ∣ k
  · rw [if_pos h]; left; omega
  · rw [if_neg h]; right
    refine ⟨rfl, ?_⟩
    have h2 : ¬ (7 : Int) ∣ k := fun e => h (Or.inr e)
    omega
theorem alloc_below (w : World) (o : Obj) : Below w.heap.size w (w.alloc o) := (Below.refl _ w).alloc (Nat.le_refl _) o
set_option maxRecDepth 100000 in
theorem pkind_spec (w : World) (k n : Int) (s : ByteArray) :
    Calls Tryd.prog 51 #[.agg #[.int .i64 k, .int .u64 n, .string s]] w fun e w' => e = .returned (.int .i64 (-2 - (kindIx k : Int))) ∧ Below w.heap.size w w' := by
  go_enter Tryd.func51, Tryd.ntmps51
  have h0 := tmod7 k
  have h1 : -7 < k.tmod 7 ∧ k.tmod 7 < 7 := by omega
  have h2 : (k.tmod 7 + 7) % 7 = (kindIx k : Int) := by unfold kindIx; omega
  have h3 : 0 ≤ k.tmod 7 + 7 ∧ k.tmod 7 + 7 ≤ 14 := by omega
  clear h0
  go_wp2_with (fail)
  go_ret
  exact ⟨rfl, alloc_below _ _⟩
theorem base_len2 (b : Nat) (mark : Bool) : ∀ (f n : Nat), (baseF b mark f n).length ≤ 2 * f
  | 0, _ => by simp [baseF]
  | f + 1, n => by
    unfold baseF
    have := base_len2 b mark f (n / b)
    split
    · simp; omega
    · cases mark <;> simp only [List.length_append, List.length_cons, List.length_nil, if_true, Bool.false_eq_true, if_false] <;> omega
theorem heap_lt {w : World} {b : Nat} {o : Obj} (h : w.heap[b]? = some o) : b < w.heap.size := (Array.getElem?_eq_some_iff.1 h).1
theorem box_get {w w' : World} {o : Obj} (h : Below (w.alloc o).heap.size (w.alloc o) w') : w'.heap[w.heap.size]? = some o := by
  have e : (w.alloc o).heap[w.heap.size]? = some o := by show (w.heap.push o)[w.heap.size]? = some o; simp
  have l : w.heap.size < (w.alloc o).heap.size := by
    rcases Nat.lt_or_ge w.heap.size (w.alloc o).heap.size with h | h
    · exact h
    · rw [Array.getElem?_eq_none h] at e; cases e
  rw [h.block _ l, e]
theorem ret_str {a : ByteArray} {L : List UInt8} (h : a.data.toList = L) : Ending.returned (.string a) = .returned (.string ⟨L.toArray⟩) := by rw [← h]
theorem and_8 (n : Nat) : n &&& 8 = if n.testBit 3 = true then 8 else 0 := by
  apply Nat.eq_of_testBit_eq
  intro i
  rw [Nat.testBit_and, show (8 : Nat) = 2 ^ 3 by decide, Nat.testBit_two_pow]
  by_cases h : 3 = i
  · subst h
    cases n.testBit 3
    · simp
    · rw [if_pos rfl, Nat.testBit_two_pow]; simp
  · rw [decide_eq_false h, Bool.and_false]
    split
    · rw [Nat.testBit_two_pow, decide_eq_false h]
    · simp
theorem and8 (n : Nat) (h : n < 18446744073709551616) : (bits .and .u64 (n : Int) 8 != 0) = n.testBit 3 := by
  have h1 : bits .and .u64 (n : Int) 8 = ((n &&& 8 : Nat) : Int) := bits_and_u64_nat n 8 h (by decide)
  rw [h1]
  rw [and_8]
  cases n.testBit 3 <;> rfl
theorem and3 (n : Nat) (h : n < 18446744073709551616) : bits .and .u64 (n : Int) 3 = ((n % 4 : Nat) : Int) := by
  have h1 : bits .and .u64 (n : Int) 3 = ((n &&& 3 : Nat) : Int) := bits_and_u64_nat n 3 h (by decide)
  rw [h1, show (3 : Nat) = 2 ^ 2 - 1 by decide, Nat.and_two_pow_sub_one_eq_mod]
theorem and1 (n : Nat) (h : n < 18446744073709551616) : bits .and .u64 (n : Int) 1 = ((n % 2 : Nat) : Int) := by
  have h1 : bits .and .u64 (n : Int) 1 = ((n &&& 1 : Nat) : Int) := bits_and_u64_nat n 1 h (by decide)
  rw [h1, show (1 : Nat) = 2 ^ 1 - 1 by decide, Nat.and_two_pow_sub_one_eq_mod]
set_option maxRecDepth 100000 in
set_option maxHeartbeats 1600000 in
theorem pwrite_spec (w : World) (k x : Int) (n : Nat) (s : ByteArray) (hx : x = (n : Int)) (hn : n < 2 ^ 64) (hs : s.size ≤ 100000000000) (U : Uni w.heap.size w) :
    Calls Tryd.prog 52 #[.agg #[.int .i64 k, .int .u64 x, .string s]] w fun e w' => e = .returned (.string ⟨(bytesOf (pieceI (kindIx k) n s.data.toList)).toArray⟩) ∧ (bytesOf (pieceI (kindIx k) n s.data.toList)).length ≤ 10 * s.size + 300 ∧ Below w.heap.size w w' := by
  obtain ⟨j, hj⟩ : ∃ j, kindIx k = j := ⟨_, rfl⟩
  have hj7 : j < 7 := by rw [← hj]; exact kindIx_lt k
  obtain ⟨mark, hmk⟩ : ∃ b, n.testBit 3 = b := ⟨_, rfl⟩
  have hn' : n < 18446744073709551616 := hn
  have h8 : (bits .and .u64 x 8 != 0) = mark := by rw [hx, and8 n hn', hmk]
  rw [hj]
  have hkind := fun W => pkind_spec W k x s
  rw [hj] at hkind
  obtain ⟨L, hL⟩ : ∃ L, bytesOf (pieceI j n s.data.toList) = L := ⟨_, rfl⟩
  rw [hL]
  have HX := Lib.hid (And.intro hx (And.intro hn (And.intro hj (And.intro hmk hL))))
  have HU := Lib.hid U
  have HKD := Lib.hid hkind
  clear hx hn hj hmk hL U hkind
  go_enter Tryd.func52, Tryd.ntmps52
  go_upto_region 3 with (go_at_call 51; refine (HKD.out _).mono ?_; rintro e w1 ⟨rfl, hb1⟩; have HB := Lib.hid (And.intro ((alloc_below _ _).trans (hb1.mono (alloc_below _ _).size)) (box_get hb1)); clear hb1)
  obtain ⟨N, hN⟩ : ∃ N, w.heap.size = N := ⟨_, rfl⟩
  rw [hN]
  have c0 : w1.cell? ⟨N, 0, none⟩ = some (.int .i64 k) := by rw [← hN]; exact (cell_of_heap HB.out.2 0).trans rfl
  have c1 : w1.cell? ⟨N, 1, none⟩ = some (.int .u64 x) := by rw [← hN]; exact (cell_of_heap HB.out.2 1).trans rfl
  have c2 : w1.cell? ⟨N, 2, none⟩ = some (.string s) := by rw [← hN]; exact (cell_of_heap HB.out.2 2).trans rfl
  have HN := Lib.hid hN
  clear hN
  have hx2 : 0 ≤ x ∧ x ≤ 18446744073709551615 := by have := HX.out.1; have := HX.out.2.1; omega
  rcases (show j = 0 ∨ j = 1 ∨ j = 2 ∨ j = 3 ∨ j = 4 ∨ j = 5 ∨ j = 6 by omega) with rfl | rfl | rfl | rfl | rfl | rfl | rfl
  · go_wp2_with (go_at_call 83; refine (letters_spec _ _ (HU.out.at_ HB.out.1 HB.out.1.size) (by omega)).mono ?_; rintro e w2 ⟨rfl, hl2, hb2⟩; have HC := Lib.hid (And.intro hl2 hb2); clear hl2 hb2)
    go_ret
    have hL := HX.out.2.2.2.2
    have hP : pieceI 0 n s.data.toList = letters s.data.toList := rfl
    rw [hP] at hL
    refine ⟨by rw [← hL]; rfl, by rw [← hL]; have := HC.out.1; omega, HB.out.1.trans (HC.out.2.mono HB.out.1.size)⟩
  · obtain ⟨m, hm⟩ : ∃ m, n % 4 = m := ⟨_, rfl⟩
    have h3 : bits .and .u64 x 3 = (m : Int) := by rw [HX.out.1, and3 n HX.out.2.1, hm]
    have hm4 : m < 4 := by omega
    have HM := Lib.hid hm
    clear hm
    rcases (show m = 0 ∨ m = 1 ∨ m = 2 ∨ m = 3 by omega) with rfl | rfl | rfl | rfl
    · obtain ⟨B, hB⟩ : ∃ B : ByteArray, (⟨(baseL 16 mark n).toArray⟩ : ByteArray) = B := ⟨_, rfl⟩
      have sB : B.size ≤ 128 := by rw [← hB]; exact base_len2 16 mark 64 n
      have HB1 := Lib.hid hB
      clear hB
      go_wp2_with (go_at_call 80; refine (base_spec _ x 16 n 16 mark HX.out.1 HX.out.2.1 rfl (by decide)).mono ?_; rw [HB1.out]; rintro e w2 ⟨rfl, hb2⟩; have HC := Lib.hid hb2; clear hb2)
      go_ret
      have hL := HX.out.2.2.2.2
      rw [show pieceI 1 n s.data.toList = ascI (numT (n % 4) n (n.testBit 3)) from rfl, ascI_bytes, HM.out, HX.out.2.2.2.1] at hL
      have hT : ((⟨#[48, 120]⟩ : ByteArray) ++ B).data.toList = L := by rw [← hL]; rw [append_list, ← HB1.out]; rfl
      exact ⟨ret_str hT, by rw [← hT, data_length]; rw [ByteArray.size_append]; first | (show 2 + _ ≤ _; omega) | (show 1 + _ ≤ _; omega), HB.out.1.trans (HC.out.mono HB.out.1.size)⟩
    · obtain ⟨B, hB⟩ : ∃ B : ByteArray, (⟨(baseL 2 mark n).toArray⟩ : ByteArray) = B := ⟨_, rfl⟩
      have sB : B.size ≤ 128 := by rw [← hB]; exact base_len2 2 mark 64 n
      have HB1 := Lib.hid hB
      clear hB
      go_wp2_with (go_at_call 80; refine (base_spec _ x 2 n 2 mark HX.out.1 HX.out.2.1 rfl (by decide)).mono ?_; rw [HB1.out]; rintro e w2 ⟨rfl, hb2⟩; have HC := Lib.hid hb2; clear hb2)
      go_ret
      have hL := HX.out.2.2.2.2
      rw [show pieceI 1 n s.data.toList = ascI (numT (n % 4) n (n.testBit 3)) from rfl, ascI_bytes, HM.out, HX.out.2.2.2.1] at hL
      have hT : ((⟨#[48, 66]⟩ : ByteArray) ++ B).data.toList = L := by rw [← hL]; rw [append_list, ← HB1.out]; rfl
      exact ⟨ret_str hT, by rw [← hT, data_length]; rw [ByteArray.size_append]; first | (show 2 + _ ≤ _; omega) | (show 1 + _ ≤ _; omega), HB.out.1.trans (HC.out.mono HB.out.1.size)⟩
    · obtain ⟨B, hB⟩ : ∃ B : ByteArray, (⟨(baseL 8 mark n).toArray⟩ : ByteArray) = B := ⟨_, rfl⟩
      have sB : B.size ≤ 128 := by rw [← hB]; exact base_len2 8 mark 64 n
      have HB1 := Lib.hid hB
      clear hB
      go_wp2_with (go_at_call 80; refine (base_spec _ x 8 n 8 mark HX.out.1 HX.out.2.1 rfl (by decide)).mono ?_; rw [HB1.out]; rintro e w2 ⟨rfl, hb2⟩; have HC := Lib.hid hb2; clear hb2)
      go_ret
      have hL := HX.out.2.2.2.2
      rw [show pieceI 1 n s.data.toList = ascI (numT (n % 4) n (n.testBit 3)) from rfl, ascI_bytes, HM.out, HX.out.2.2.2.1] at hL
      have hT : ((⟨#[48]⟩ : ByteArray) ++ B).data.toList = L := by rw [← hL]; rw [append_list, ← HB1.out]; rfl
      exact ⟨ret_str hT, by rw [← hT, data_length]; rw [ByteArray.size_append]; first | (show 2 + _ ≤ _; omega) | (show 1 + _ ≤ _; omega), HB.out.1.trans (HC.out.mono HB.out.1.size)⟩
    · obtain ⟨B, hB⟩ : ∃ B : ByteArray, (⟨(baseL 10 mark n).toArray⟩ : ByteArray) = B := ⟨_, rfl⟩
      have sB : B.size ≤ 128 := by rw [← hB]; exact base_len2 10 mark 64 n
      have HB1 := Lib.hid hB
      clear hB
      go_wp2_with (go_at_call 80; refine (base_spec _ x 10 n 10 mark HX.out.1 HX.out.2.1 rfl (by decide)).mono ?_; rw [HB1.out]; rintro e w2 ⟨rfl, hb2⟩; have HC := Lib.hid hb2; clear hb2)
      go_ret
      have hL := HX.out.2.2.2.2
      rw [show pieceI 1 n s.data.toList = ascI (numT (n % 4) n (n.testBit 3)) from rfl, ascI_bytes, HM.out, HX.out.2.2.2.1] at hL
      have hT : (B).data.toList = L := by rw [← hL]; rw [← HB1.out]; rfl
      exact ⟨ret_str hT, by rw [← hT, data_length]; omega, HB.out.1.trans (HC.out.mono HB.out.1.size)⟩
  · obtain ⟨m, hm⟩ : ∃ m, n % 4 = m := ⟨_, rfl⟩
    have h3 : bits .and .u64 x 3 = (m : Int) := by rw [HX.out.1, and3 n HX.out.2.1, hm]
    have hm4 : m < 4 := by omega
    have HM := Lib.hid hm
    clear hm
    rcases (show m = 0 ∨ m = 1 ∨ m = 2 ∨ m = 3 by omega) with rfl | rfl | rfl | rfl
    · obtain ⟨B, hB⟩ : ∃ B : ByteArray, (⟨(baseL 10 mark n).toArray⟩ : ByteArray) = B := ⟨_, rfl⟩
      have sB : B.size ≤ 128 := by rw [← hB]; exact base_len2 10 mark 64 n
      have HB1 := Lib.hid hB
      clear hB
      go_wp2_with (go_at_call 80; refine (base_spec _ x 10 n 10 mark HX.out.1 HX.out.2.1 rfl (by decide)).mono ?_; rw [HB1.out]; rintro e w2 ⟨rfl, hb2⟩; have HC := Lib.hid hb2; clear hb2)
      go_ret
      have hL := HX.out.2.2.2.2
      rw [show pieceI 2 n s.data.toList = ascI (fltT (n % 4) n (n.testBit 3)) from rfl, ascI_bytes, HM.out, HX.out.2.2.2.1] at hL
      have hT : ((⟨#[46]⟩ : ByteArray) ++ B).data.toList = L := by rw [← hL]; rw [append_list, ← HB1.out]; rfl
      exact ⟨ret_str hT, by rw [← hT, data_length]; rw [ByteArray.size_append]; first | (show 2 + _ ≤ _; omega) | (show 1 + _ ≤ _; omega), HB.out.1.trans (HC.out.mono HB.out.1.size)⟩
    · obtain ⟨B, hB⟩ : ∃ B : ByteArray, (⟨(baseL 10 mark n).toArray⟩ : ByteArray) = B := ⟨_, rfl⟩
      have sB : B.size ≤ 128 := by rw [← hB]; exact base_len2 10 mark 64 n
      have HB1 := Lib.hid hB
      clear hB
      go_wp2_with (go_at_call 80; refine (base_spec _ x 10 n 10 mark HX.out.1 HX.out.2.1 rfl (by decide)).mono ?_; rw [HB1.out]; rintro e w2 ⟨rfl, hb2⟩; have HC := Lib.hid hb2; clear hb2)
      go_ret
      have hL := HX.out.2.2.2.2
      rw [show pieceI 2 n s.data.toList = ascI (fltT (n % 4) n (n.testBit 3)) from rfl, ascI_bytes, HM.out, HX.out.2.2.2.1] at hL
      have hT : (B ++ (⟨#[46]⟩ : ByteArray)).data.toList = L := by rw [← hL]; rw [append_list, ← HB1.out]; rfl
      exact ⟨ret_str hT, by rw [← hT, data_length]; rw [ByteArray.size_append]; show _ + 1 ≤ _; omega, HB.out.1.trans (HC.out.mono HB.out.1.size)⟩
    · obtain ⟨B, hB⟩ : ∃ B : ByteArray, (⟨(baseL 10 mark n).toArray⟩ : ByteArray) = B := ⟨_, rfl⟩
      have sB : B.size ≤ 128 := by rw [← hB]; exact base_len2 10 mark 64 n
      obtain ⟨B2, hB2⟩ : ∃ B : ByteArray, (⟨(baseL 10 false (n / 256)).toArray⟩ : ByteArray) = B := ⟨_, rfl⟩
      have sB2 : B2.size ≤ 128 := by rw [← hB2]; exact base_len2 10 false 64 (n / 256)
      have HB1 := Lib.hid (And.intro hB hB2)
      clear hB hB2
      have hx8 : x / 256 = ((n / 256 : Nat) : Int) := by rw [HX.out.1]; omega
      have hn8 : n / 256 < 2 ^ 64 := by have := HX.out.2.1; omega
      have H8 := Lib.hid (And.intro hx8 hn8)
      clear hx8 hn8
      have C1 := Lib.hid c1
      have hNlt : N < w1.heap.size := by rw [← HN.out]; exact heap_lt HB.out.2
      have HN1 := Lib.hid hNlt
      clear hNlt
      go_upto_region 19 with (fail)
      refine wp_region_class_tail (fun v => Below w1.heap.size w1 v) 10 (by kernel_rfl) (by kernel_rfl) ⟨rfl, rfl, rfl, Nat.le_refl _, fun _ _ => rfl⟩ ?_
      simp only [List.take_succ_cons, List.take_zero, List.drop_succ_cons, List.drop_zero]
      refine wpQuiet_want rfl ?_
      intro Kn hK
      refine ⟨.pointer (some ⟨N, 1, none⟩), fun w' hw' => ?_, hK _ ?_⟩
      · unfold Oper.quietAt
        go_simp
      clear hK Kn
      refine wpQuiet_want rfl ?_
      intro Kn hK
      refine ⟨.int .u64 x, fun w' hw' => ?_, hK _ ?_⟩
      · have c1 : w'.cell? ⟨N, 1, none⟩ = some (.int .u64 x) := by rw [cell_below hw' HN1.out]; exact C1.out
        unfold Oper.quietAt
        go_simp
      clear hK Kn
      refine wpQuiet_want rfl ?_
      intro Kn hK
      refine ⟨.bool mark, fun w' hw' => ?_, hK _ ?_⟩
      · unfold Oper.quietAt
        go_simp
      clear hK Kn
      refine wpQuiet_want rfl ?_
      intro Kn hK
      refine ⟨.string B, fun w' hw' => ?_, hK _ ?_⟩
      · unfold Oper.quietAt
        go_simp
        refine (base_spec w' x 10 n 10 mark HX.out.1 HX.out.2.1 rfl (by decide)).mono fun e w'' h => ⟨by rw [h.1, HB1.out.1], hw'.trans (h.2.mono hw'.size)⟩
      clear hK Kn
      refine wpQuiet_want rfl ?_
      intro Kn hK
      refine ⟨.string (B ++ ⟨#[69, 45]⟩), fun w' hw' => ?_, hK _ ?_⟩
      · unfold Oper.quietAt
        go_simp
        rw [if_neg (by omega)]; exact ⟨rfl, rfl⟩
      clear hK Kn
      refine wpQuiet_want rfl ?_
      intro Kn hK
      refine ⟨.pointer (some ⟨N, 1, none⟩), fun w' hw' => ?_, hK _ ?_⟩
      · unfold Oper.quietAt
        go_simp
      clear hK Kn
      refine wpQuiet_want rfl ?_
      intro Kn hK
      refine ⟨.int .u64 x, fun w' hw' => ?_, hK _ ?_⟩
      · have c1 : w'.cell? ⟨N, 1, none⟩ = some (.int .u64 x) := by rw [cell_below hw' HN1.out]; exact C1.out
        unfold Oper.quietAt
        go_simp
      clear hK Kn
      refine wpQuiet_want rfl ?_
      intro Kn hK
      refine ⟨.int .u64 (x / 256), fun w' hw' => ?_, hK _ ?_⟩
      · unfold Oper.quietAt
        go_simp
      clear hK Kn
      refine wpQuiet_want rfl ?_
      intro Kn hK
      refine ⟨.string B2, fun w' hw' => ?_, hK _ ?_⟩
      · unfold Oper.quietAt
        go_simp
        refine (base_spec w' (x / 256) 10 (n / 256) 10 false H8.out.1 H8.out.2 rfl (by decide)).mono fun e w'' h => ⟨by rw [h.1, HB1.out.2], hw'.trans (h.2.mono hw'.size)⟩
      clear hK Kn
      refine wpQuiet_want rfl ?_
      intro Kn hK
      refine ⟨.string ((B ++ ⟨#[69, 45]⟩) ++ B2), fun w' hw' => ?_, hK _ ?_⟩
      · unfold Oper.quietAt
        go_simp
        rw [if_neg (by omega)]; exact ⟨rfl, rfl⟩
      clear hK Kn
      refine wpQuiet_nil ?_
      intro w2 hw2
      have HC := Lib.hid hw2
      clear hw2
      go_wp2_with (fail)
      go_ret
      have hL := HX.out.2.2.2.2
      rw [show pieceI 2 n s.data.toList = ascI (fltT (n % 4) n (n.testBit 3)) from rfl, ascI_bytes, HM.out, HX.out.2.2.2.1] at hL
      have hT : ((B ++ ⟨#[69, 45]⟩) ++ B2).data.toList = L := by rw [← hL]; rw [append_list, append_list, ← HB1.out.1, ← HB1.out.2, List.append_assoc]; rfl
      refine ⟨ret_str hT, ?_, HB.out.1.trans (HC.out.mono HB.out.1.size)⟩
      rw [← hT, data_length]
      rw [ByteArray.size_append, ByteArray.size_append]; show _ + 2 + _ ≤ _
      omega
    · obtain ⟨B, hB⟩ : ∃ B : ByteArray, (⟨(baseL 16 mark n).toArray⟩ : ByteArray) = B := ⟨_, rfl⟩
      have sB : B.size ≤ 128 := by rw [← hB]; exact base_len2 16 mark 64 n
      obtain ⟨B2, hB2⟩ : ∃ B : ByteArray, (⟨(baseL 10 mark (n / 256)).toArray⟩ : ByteArray) = B := ⟨_, rfl⟩
      have sB2 : B2.size ≤ 128 := by rw [← hB2]; exact base_len2 10 mark 64 (n / 256)
      have HB1 := Lib.hid (And.intro hB hB2)
      clear hB hB2
      have hx8 : x / 256 = ((n / 256 : Nat) : Int) := by rw [HX.out.1]; omega
      have hn8 : n / 256 < 2 ^ 64 := by have := HX.out.2.1; omega
      have H8 := Lib.hid (And.intro hx8 hn8)
      clear hx8 hn8
      have C1 := Lib.hid c1
      have hNlt : N < w1.heap.size := by rw [← HN.out]; exact heap_lt HB.out.2
      have HN1 := Lib.hid hNlt
      clear hNlt
      go_upto_region 20 with (fail)
      refine wp_region_class_tail (fun v => Below w1.heap.size w1 v) 12 (by kernel_rfl) (by kernel_rfl) ⟨rfl, rfl, rfl, Nat.le_refl _, fun _ _ => rfl⟩ ?_
      simp only [List.take_succ_cons, List.take_zero, List.drop_succ_cons, List.drop_zero]
      refine wpQuiet_want rfl ?_
      intro Kn hK
      refine ⟨.pointer (some ⟨N, 1, none⟩), fun w' hw' => ?_, hK _ ?_⟩
      · unfold Oper.quietAt
        go_simp
      clear hK Kn
      refine wpQuiet_want rfl ?_
      intro Kn hK
      refine ⟨.int .u64 x, fun w' hw' => ?_, hK _ ?_⟩
      · have c1 : w'.cell? ⟨N, 1, none⟩ = some (.int .u64 x) := by rw [cell_below hw' HN1.out]; exact C1.out
        unfold Oper.quietAt
        go_simp
      clear hK Kn
      refine wpQuiet_want rfl ?_
      intro Kn hK
      refine ⟨.bool mark, fun w' hw' => ?_, hK _ ?_⟩
      · unfold Oper.quietAt
        go_simp
      clear hK Kn
      refine wpQuiet_want rfl ?_
      intro Kn hK
      refine ⟨.string B, fun w' hw' => ?_, hK _ ?_⟩
      · unfold Oper.quietAt
        go_simp
        refine (base_spec w' x 16 n 16 mark HX.out.1 HX.out.2.1 rfl (by decide)).mono fun e w'' h => ⟨by rw [h.1, HB1.out.1], hw'.trans (h.2.mono hw'.size)⟩
      clear hK Kn
      refine wpQuiet_want rfl ?_
      intro Kn hK
      refine ⟨.string (⟨#[48, 88]⟩ ++ B), fun w' hw' => ?_, hK _ ?_⟩
      · unfold Oper.quietAt
        go_simp
        rw [if_neg (by omega)]; exact ⟨rfl, rfl⟩
      clear hK Kn
      refine wpQuiet_want rfl ?_
      intro Kn hK
      refine ⟨.string (⟨#[48, 88]⟩ ++ B ++ ⟨#[46, 112]⟩), fun w' hw' => ?_, hK _ ?_⟩
      · unfold Oper.quietAt
        go_simp
        rw [if_neg (by omega)]; exact ⟨rfl, rfl⟩
      clear hK Kn
      refine wpQuiet_want rfl ?_
      intro Kn hK
      refine ⟨.pointer (some ⟨N, 1, none⟩), fun w' hw' => ?_, hK _ ?_⟩
      · unfold Oper.quietAt
        go_simp
      clear hK Kn
      refine wpQuiet_want rfl ?_
      intro Kn hK
      refine ⟨.int .u64 x, fun w' hw' => ?_, hK _ ?_⟩
      · have c1 : w'.cell? ⟨N, 1, none⟩ = some (.int .u64 x) := by rw [cell_below hw' HN1.out]; exact C1.out
        unfold Oper.quietAt
        go_simp
      clear hK Kn
      refine wpQuiet_want rfl ?_
      intro Kn hK
      refine ⟨.int .u64 (x / 256), fun w' hw' => ?_, hK _ ?_⟩
      · unfold Oper.quietAt
        go_simp
      clear hK Kn
      refine wpQuiet_want rfl ?_
      intro Kn hK
      refine ⟨.bool mark, fun w' hw' => ?_, hK _ ?_⟩
      · unfold Oper.quietAt
        go_simp
      clear hK Kn
      refine wpQuiet_want rfl ?_
      intro Kn hK
      refine ⟨.string B2, fun w' hw' => ?_, hK _ ?_⟩
      · unfold Oper.quietAt
        go_simp
        refine (base_spec w' (x / 256) 10 (n / 256) 10 mark H8.out.1 H8.out.2 rfl (by decide)).mono fun e w'' h => ⟨by rw [h.1, HB1.out.2], hw'.trans (h.2.mono hw'.size)⟩
      clear hK Kn
      refine wpQuiet_want rfl ?_
      intro Kn hK
      refine ⟨.string ((⟨#[48, 88]⟩ ++ B ++ ⟨#[46, 112]⟩) ++ B2), fun w' hw' => ?_, hK _ ?_⟩
      · unfold Oper.quietAt
        go_simp
        rw [if_neg (by omega)]; exact ⟨rfl, rfl⟩
      clear hK Kn
      refine wpQuiet_nil ?_
      intro w2 hw2
      have HC := Lib.hid hw2
      clear hw2
      go_wp2_with (fail)
      go_ret
      have hL := HX.out.2.2.2.2
      rw [show pieceI 2 n s.data.toList = ascI (fltT (n % 4) n (n.testBit 3)) from rfl, ascI_bytes, HM.out, HX.out.2.2.2.1] at hL
      have hT : ((⟨#[48, 88]⟩ ++ B ++ ⟨#[46, 112]⟩) ++ B2).data.toList = L := by rw [← hL]; rw [append_list, append_list, append_list, ← HB1.out.1, ← HB1.out.2, List.append_assoc, List.append_assoc]; rfl
      refine ⟨ret_str hT, ?_, HB.out.1.trans (HC.out.mono HB.out.1.size)⟩
      rw [← hT, data_length]
      rw [ByteArray.size_append, ByteArray.size_append, ByteArray.size_append]; show 2 + _ + 2 + _ ≤ _
      omega
  · have hse := isE s
    by_cases hse0 : s.data.toList = []
    · rw [decide_eq_true hse0] at hse
      go_wp2_with (fail)
      go_ret
      have hL := HX.out.2.2.2.2
      rw [show pieceI 3 n s.data.toList = (if s.data.toList = [] then ascI [39, 92, 85, 48, 48, 49, 48, 102, 102, 102, 102, 39] else ⟨39, [39]⟩ :: (inner 39 1 s.data.toList ++ [⟨39, [39]⟩])) from rfl, if_pos hse0, ascI_bytes] at hL
      refine ⟨ret_str hL, ?_, HB.out.1⟩
      rw [← hL]; show 12 ≤ _; omega
    · rw [decide_eq_false hse0] at hse
      obtain ⟨B, hB⟩ : ∃ B : ByteArray, (⟨(innB 39 1 s.data.toList).toArray⟩ : ByteArray) = B := ⟨_, rfl⟩
      have hBL : B.data.toList = innB 39 1 s.data.toList := by rw [← hB]
      have HB1 := Lib.hid (And.intro hB hBL)
      clear hB hBL
      go_wp2_with (go_at_call 81; refine (inner_spec _ s 39 1 39 1 rfl (by decide) rfl (by decide) (by omega)).mono ?_; rw [HB1.out.1]; rintro e w2 ⟨rfl, hl2, hb2⟩; rw [← HB1.out.2, data_length] at hl2; have HC := Lib.hid hb2; clear hb2)
      go_ret
      have hL := HX.out.2.2.2.2
      rw [show pieceI 3 n s.data.toList = (if s.data.toList = [] then ascI [39, 92, 85, 48, 48, 49, 48, 102, 102, 102, 102, 39] else ⟨39, [39]⟩ :: (inner 39 1 s.data.toList ++ [⟨39, [39]⟩])) from rfl, if_neg hse0] at hL
      have hT : ((⟨#[39]⟩ : ByteArray) ++ B ++ (⟨#[39]⟩ : ByteArray)).data.toList = L := by rw [← hL]; rw [append_list, append_list, HB1.out.2]; simp [bytesOf_cons, bytesOf_app, innB, filtB, without, bytesOf_nil]
      exact ⟨ret_str hT, by rw [← hT, data_length]; rw [ByteArray.size_append, ByteArray.size_append]; show 1 + _ + 1 ≤ _; omega, HB.out.1.trans (HC.out.mono HB.out.1.size)⟩
  · obtain ⟨B, hB⟩ : ∃ B : ByteArray, (⟨(innB 34 s.size s.data.toList).toArray⟩ : ByteArray) = B := ⟨_, rfl⟩
    have hBL : B.data.toList = innB 34 s.size s.data.toList := by rw [← hB]
    have HB1 := Lib.hid (And.intro hB hBL)
    clear hB hBL
    go_wp2_with (go_at_call 81; refine (inner_spec _ s 34 s.size 34 s.size rfl (by decide) rfl (by omega) (by omega)).mono ?_; rw [HB1.out.1]; rintro e w2 ⟨rfl, hl2, hb2⟩; rw [← HB1.out.2, data_length] at hl2; have HC := Lib.hid hb2; clear hb2)
    go_ret
    have hL := HX.out.2.2.2.2
    rw [show pieceI 4 n s.data.toList = ⟨34, [34]⟩ :: (inner 34 s.data.toList.length s.data.toList ++ [⟨34, [34]⟩]) from rfl, data_length] at hL
    have hT : ((⟨#[34]⟩ : ByteArray) ++ B ++ (⟨#[34]⟩ : ByteArray)).data.toList = L := by rw [← hL]; rw [append_list, append_list, HB1.out.2]; simp [bytesOf_cons, bytesOf_app, innB, filtB, without, bytesOf_nil]
    exact ⟨ret_str hT, by rw [← hT, data_length]; rw [ByteArray.size_append, ByteArray.size_append]; show 1 + _ + 1 ≤ _; omega, HB.out.1.trans (HC.out.mono HB.out.1.size)⟩
  · obtain ⟨B, hB⟩ : ∃ B : ByteArray, (⟨(filtB (woP 96) s.data.toList).toArray⟩ : ByteArray) = B := ⟨_, rfl⟩
    have hBL : B.data.toList = filtB (woP 96) s.data.toList := by rw [← hB]
    have HB1 := Lib.hid (And.intro hB hBL)
    clear hB hBL
    go_wp2_with (go_at_call 82; refine (without_spec _ s 96 96 rfl (by decide) (by omega)).mono ?_; rw [HB1.out.1]; rintro e w2 ⟨rfl, hl2, hb2⟩; rw [← HB1.out.2, data_length] at hl2; have HC := Lib.hid hb2; clear hb2)
    go_ret
    have hL := HX.out.2.2.2.2
    rw [show pieceI 5 n s.data.toList = ⟨96, [96]⟩ :: (without 96 s.data.toList ++ [⟨96, [96]⟩]) from rfl] at hL
    have hT : ((⟨#[96]⟩ : ByteArray) ++ B ++ (⟨#[96]⟩ : ByteArray)).data.toList = L := by rw [← hL]; rw [append_list, append_list, HB1.out.2]; simp [bytesOf_cons, bytesOf_app, innB, filtB, without, bytesOf_nil]
    exact ⟨ret_str hT, by rw [← hT, data_length]; rw [ByteArray.size_append, ByteArray.size_append]; show 1 + _ + 1 ≤ _; omega, HB.out.1.trans (HC.out.mono HB.out.1.size)⟩
  · obtain ⟨m, hm⟩ : ∃ m, n % 2 = m := ⟨_, rfl⟩
    have h3 : bits .and .u64 x 1 = (m : Int) := by rw [HX.out.1, and1 n HX.out.2.1, hm]
    have hm4 : m < 2 := by omega
    have HM := Lib.hid hm
    clear hm
    rcases (show m = 0 ∨ m = 1 by omega) with rfl | rfl
    · obtain ⟨B, hB⟩ : ∃ B : ByteArray, (⟨(filtB (woP 10) s.data.toList).toArray⟩ : ByteArray) = B := ⟨_, rfl⟩
      have hBL : B.data.toList = filtB (woP 10) s.data.toList := by rw [← hB]
      have HB1 := Lib.hid (And.intro hB hBL)
      clear hB hBL
      go_wp2_with (go_at_call 82; refine (without_spec _ s 10 10 rfl (by decide) (by omega)).mono ?_; rw [HB1.out.1]; rintro e w2 ⟨rfl, hl2, hb2⟩; rw [← HB1.out.2, data_length] at hl2; have HC := Lib.hid hb2; clear hb2)
      go_ret
      have hL := HX.out.2.2.2.2
      rw [show pieceI 6 n s.data.toList = (if n % 2 = 0 then ⟨47, [47]⟩ :: ⟨47, [47]⟩ :: without 10 s.data.toList else ⟨47, [47]⟩ :: ⟨42, [42]⟩ :: (without 42 s.data.toList ++ [⟨42, [42]⟩, ⟨47, [47]⟩])) from rfl, if_pos HM.out] at hL
      have hT : ((⟨#[47, 47]⟩ : ByteArray) ++ B).data.toList = L := by rw [← hL]; rw [append_list, HB1.out.2]; simp [bytesOf_cons, bytesOf_app, filtB, without, bytesOf_nil]
      exact ⟨ret_str hT, by rw [← hT, data_length]; rw [ByteArray.size_append]; show 2 + _ ≤ _; omega, HB.out.1.trans (HC.out.mono HB.out.1.size)⟩
    · obtain ⟨B, hB⟩ : ∃ B : ByteArray, (⟨(filtB (woP 42) s.data.toList).toArray⟩ : ByteArray) = B := ⟨_, rfl⟩
      have hBL : B.data.toList = filtB (woP 42) s.data.toList := by rw [← hB]
      have HB1 := Lib.hid (And.intro hB hBL)
      clear hB hBL
      go_wp2_with (go_at_call 82; refine (without_spec _ s 42 42 rfl (by decide) (by omega)).mono ?_; rw [HB1.out.1]; rintro e w2 ⟨rfl, hl2, hb2⟩; rw [← HB1.out.2, data_length] at hl2; have HC := Lib.hid hb2; clear hb2)
      go_ret
      have hL := HX.out.2.2.2.2
      rw [show pieceI 6 n s.data.toList = (if n % 2 = 0 then ⟨47, [47]⟩ :: ⟨47, [47]⟩ :: without 10 s.data.toList else ⟨47, [47]⟩ :: ⟨42, [42]⟩ :: (without 42 s.data.toList ++ [⟨42, [42]⟩, ⟨47, [47]⟩])) from rfl, if_neg (by rw [HM.out]; decide)] at hL
      have hT : ((⟨#[47, 42]⟩ : ByteArray) ++ B ++ (⟨#[42, 47]⟩ : ByteArray)).data.toList = L := by rw [← hL]; rw [append_list, append_list, HB1.out.2]; simp [bytesOf_cons, bytesOf_app, innB, filtB, without, bytesOf_nil]
      exact ⟨ret_str hT, by rw [← hT, data_length]; rw [ByteArray.size_append, ByteArray.size_append]; show 2 + _ + 2 ≤ _; omega, HB.out.1.trans (HC.out.mono HB.out.1.size)⟩
end Go.Proofs.YtmfihkgbfoapaaaDoor
