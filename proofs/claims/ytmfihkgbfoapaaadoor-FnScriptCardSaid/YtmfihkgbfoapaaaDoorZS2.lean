/- Own texts S2 of this claim, cut to what the claim uses. -/
import Derived.Test.YtmfihkgbfoapaaaDoorZA0
import Derived.Test.YtmfihkgbfoapaaaDoorZK3
import Derived.Laws.BitsLemmas
import Derived.Test.YtmfihkgbfoapaaaDoorZD0
import Derived.Lib.ConvBytes
import Derived.LoopTactic
import Derived.Test.YtmfihkgbfoapaaaDoorZE11
namespace Go.Proofs.YtmfihkgbfoapaaaDoor
set_option linter.unusedVariables false
set_option linter.unusedSimpArgs false
open Go Go.RowKit Go.Lib Go.Proofs.YtmfihkgbfoapaaaDoorW.PrintWords
def ints (l : List UInt8) : List Int := l.map fun b => (b.toNat : Int)
theorem ints_length (l : List UInt8) : (ints l).length = l.length := by simp [ints]
theorem rd_ints (l : List UInt8) (j : Nat) : rd (ints l) (j : Int) = gb l j := by
  unfold rd ints gb
  simp only [Int.toNat_natCast, List.getD_eq_getElem?_getD, List.getElem?_map]
  cases l[j]? <;> simp
theorem rd_ints0 (l : List UInt8) : rd (ints l) 0 = gb l 0 := rd_ints l 0
def specDec (l : List UInt8) : Nat × Nat := if (hdItem l).bad = true then (0, 0) else hd l
theorem wrap64_id {x : Int} (h0 : -9223372036854775808 ≤ x) (h1 : x < 9223372036854775808) : wrap64 x = x := by unfold wrap64; omega
theorem wraps_i64 (n : Int) (h₀ : 0 ≤ n) (h₁ : n < 2 ^ 63) : IntKind.i64.wrap n = n := by rw [IntKind.wrap_i64]; omega
theorem i64_or6 {x y : Int} (hx₀ : 0 ≤ x) (hx : x % 64 = 0) (hx₁ : x < 9223372036854775808) (h₀ : 0 ≤ y) (h₁ : y < 64) : bits .or .i64 x y = x + y :=
  bits_join .i64 63 (by decide) wraps_i64 6 x y hx₀ hx hx₁ h₀ h₁ (by omega)
theorem i64_and31 {x : Int} (h₀ : 0 ≤ x) (h₁ : x < 9223372036854775808) : bits .and .i64 x 31 = x % 32 := bits_mask .i64 63 (by decide) wraps_i64 5 (by decide) x h₀ h₁
theorem i64_and15 {x : Int} (h₀ : 0 ≤ x) (h₁ : x < 9223372036854775808) : bits .and .i64 x 15 = x % 16 := bits_mask .i64 63 (by decide) wraps_i64 4 (by decide) x h₀ h₁
theorem i64_and7 {x : Int} (h₀ : 0 ≤ x) (h₁ : x < 9223372036854775808) : bits .and .i64 x 7 = x % 8 := bits_mask .i64 63 (by decide) wraps_i64 3 (by decide) x h₀ h₁
theorem and192B : ((List.range 256).all fun x => decide (bits .and .u8 (x : Int) 192 = 128) == decide (x / 64 = 2)) = true := by kernel_rfl
theorem and192 (x : Nat) (h : x < 256) : (bits .and .u8 (x : Int) 192 = 128) ↔ x / 64 = 2 := by
  have := List.all_eq_true.1 and192B x (List.mem_range.2 h)
  rw [beq_iff_eq, decide_eq_decide] at this
  exact this
def specFin (n v : Nat) : Nat × Nat := if (n = 3 ∧ (v < 2048 ∨ (55296 ≤ v ∧ v < 57344))) ∨ (n = 4 ∧ (v < 65536 ∨ 1114111 < v)) then (0, 0) else (v, n)
theorem l0_fin (k : Nat) (z : List Int) (n v : Nat) (_hn : 2 ≤ n ∧ n ≤ 4) (hv : v < 2147483648) : K.spec_decode.l0 (k + 1) z (n : Int) (v : Int) (n : Int) = some (((specFin n v).1 : Int), ((specFin n v).2 : Int)) := by
  unfold K.spec_decode.l0 specFin
  rw [if_neg (by omega)]
  have hw : wrap32 (v : Int) = v := by unfold wrap32; omega
  rw [hw]
  repeat' split
  all_goals first | rfl | (exfalso; omega)
theorem l0_step (k : Nat) (l : List UInt8) (n v j : Nat) (hj : j < n) (hv : v < 2147483648) (hn : n ≤ 4) :
    K.spec_decode.l0 (k + 1) (ints l) (n : Int) (v : Int) (j : Int) = if j < l.length ∧ gb l j / 64 = 2 then K.spec_decode.l0 k (ints l) (n : Int) ((v * 64 + gb l j % 64 : Nat) : Int) ((j + 1 : Nat) : Int) else some (0, 0) := by
  rw [K.spec_decode.l0]
  have hb := gb_lt l j
  rw [if_pos (by omega), ints_length, rd_ints]
  by_cases h1 : j < l.length
  · rw [if_neg (by omega), if_pos (by omega), if_pos (by omega)]
    by_cases h2 : gb l j / 64 = 2
    · rw [if_pos ((and192 _ hb).2 h2), if_pos ⟨h1, h2⟩]
      have e1 : wrap64 ((v : Int) * 64) = ((v * 64 : Nat) : Int) := by rw [wrap64_id (by omega) (by omega)]; omega
      have e2 : wrap64 (bits .and .u8 (gb l j : Int) 63) = ((gb l j % 64 : Nat) : Int) := by rw [u8_and63 (x := (gb l j : Int)) (by omega) (by omega), wrap64_id (by omega) (by omega)]; omega
      have e3 : wrap64 ((j : Int) + 1) = ((j + 1 : Nat) : Int) := by rw [wrap64_id (by omega) (by omega)]; omega
      rw [e1, e2, e3, i64_or6 (by omega) (by omega) (by omega) (by omega) (by omega)]
      congr 1
    · rw [if_neg (fun h => h2 ((and192 _ hb).1 h)), if_neg (fun h => h2 h.2)]
  · rw [if_pos (by omega), if_neg (fun h => h1 h.1)]
theorem bad_of {l : List UInt8} (hl : 0 < l.length) : (hdItem l).bad = (decide ((hd l).1 = 65533) && decide ((hd l).2 = 1)) := by
  unfold Item.bad
  have := hdItem_n hl
  unfold Item.n at this
  rw [this]
  show ((hd l).1 == 65533 && _) = _
  rfl
def specSlow (n b0 b1 b2 b3 : Nat) : Nat × Nat :=
  if b0 < 128 then (b0, 1) else if b0 < 194 then (0, 0)
  else if b0 < 224 then (if 1 < n ∧ b1 / 64 = 2 then specFin 2 (b0 % 32 * 64 + b1 % 64) else (0, 0))
  else if b0 < 240 then (if 1 < n ∧ b1 / 64 = 2 then (if 2 < n ∧ b2 / 64 = 2 then specFin 3 ((b0 % 16 * 64 + b1 % 64) * 64 + b2 % 64) else (0, 0)) else (0, 0))
  else if b0 < 245 then (if 1 < n ∧ b1 / 64 = 2 then (if 2 < n ∧ b2 / 64 = 2 then (if 3 < n ∧ b3 / 64 = 2 then specFin 4 (((b0 % 8 * 64 + b1 % 64) * 64 + b2 % 64) * 64 + b3 % 64) else (0, 0)) else (0, 0)) else (0, 0))
  else (0, 0)
def badP (p : Nat × Nat) : Nat × Nat := if (decide (p.1 = 65533) && decide (p.2 = 1)) = true then (0, 0) else p
theorem badP_bad : badP (65533, 1) = (0, 0) := rfl
theorem badP_one {b : Nat} (h : b < 128) : badP (b, 1) = (b, 1) := by unfold badP; rw [if_neg (by simp; omega)]
theorem badP_two (v : Nat) : badP (v, 2) = (v, 2) := by unfold badP; rw [if_neg (by simp)]
theorem badP_three (v : Nat) : badP (v, 3) = (v, 3) := by unfold badP; rw [if_neg (by simp)]
theorem badP_four (v : Nat) : badP (v, 4) = (v, 4) := by unfold badP; rw [if_neg (by simp)]
set_option maxHeartbeats 4000000 in
set_option maxRecDepth 100000 in
theorem slow_val (n b0 b1 b2 b3 : Nat) (h0 : b0 < 256) (h1 : b1 < 256) (h2 : b2 < 256) (h3 : b3 < 256) : badP (decodeN n b0 b1 b2 b3) = specSlow n b0 b1 b2 b3 := by
  by_cases hb : b0 < 128
  · have : decodeN n b0 b1 b2 b3 = (b0, 1) := by simp [decodeN, hb]
    rw [this, badP_one hb]
    simp [specSlow, hb]
  · unfold decodeN specSlow specFin
    rw [if_neg hb, if_neg hb, apply_ite badP, apply_ite badP, apply_ite badP, apply_ite badP, apply_ite badP, apply_ite badP]
    simp only [badP_bad, badP_two, badP_three, badP_four]
    repeat' split
    all_goals first | rfl | (exfalso; omega) | (simp only [true_and] at *; first | (exfalso; omega) | (apply Prod.ext <;> simp only <;> omega)) | (apply Prod.ext <;> simp only <;> omega)
theorem cast_pair {p q : Nat × Nat} (h : p = q) : some ((p.1 : Int), (p.2 : Int)) = some ((q.1 : Int), (q.2 : Int)) := by rw [h]
set_option maxHeartbeats 4000000 in
set_option maxRecDepth 100000 in
theorem dec_val (k : Nat) (l : List UInt8) (hl : 0 < l.length) (hk : 12 ≤ k) : K.spec_decode.f k (ints l) = some (((specDec l).1 : Int), ((specDec l).2 : Int)) := by
  obtain ⟨k, rfl⟩ : ∃ m, k = m + 12 := ⟨k - 12, by omega⟩
  have hb := gb_lt l 0
  have hb1 := gb_lt l 1
  have hb2 := gb_lt l 2
  have hb3 := gb_lt l 3
  have key := slow_val l.length (gb l 0) (gb l 1) (gb l 2) (gb l 3) hb hb1 hb2 hb3
  unfold specDec
  rw [bad_of hl]
  refine Eq.trans ?_ (cast_pair key.symm)
  unfold K.spec_decode.f specSlow
  rw [ints_length, if_pos (by omega), rd_ints0, wrap64_id (by omega) (by omega)]
  by_cases h0 : gb l 0 < 128
  · have hw : wrap32 (gb l 0 : Int) = gb l 0 := by unfold wrap32; omega
    rw [if_pos (by omega), hw, if_pos h0]; rfl
  rw [if_neg (by omega), if_neg h0]
  by_cases h1 : gb l 0 < 194
  · rw [if_neg (by omega), if_pos h1]
    simp only [K.spec_decode.j0, K.spec_decode.j1]
    rw [if_neg (by decide), if_neg (by omega), if_neg (by decide), if_neg (by omega)]; rfl
  rw [if_pos (by omega), if_neg h1]
  have st := fun (k n v j : Nat) (hj : j < n) (hn : n ≤ 4) (hv : v < 2147483648) => l0_step k l n v j hj hv hn
  by_cases h2 : gb l 0 < 224
  · rw [if_pos h2, decide_eq_true (by omega)]
    simp only [K.spec_decode.j0, K.spec_decode.j2, if_true]
    have e := i64_and31 (x := (gb l 0 : Int)) (by omega) (by omega)
    rw [e, show ((gb l 0 : Int) % 32) = ((gb l 0 % 32 : Nat) : Int) by omega]
    have := st (k + 9) 2 (gb l 0 % 32) 1 (by decide) (by decide) (by omega)
    refine this.trans ?_
    split
    · exact l0_fin _ _ 2 _ (by decide) (by omega)
    · rfl
  rw [if_neg h2, decide_eq_false (by omega)]
  simp only [K.spec_decode.j0]
  rw [if_neg (by decide), if_pos (by omega)]
  by_cases h3 : gb l 0 < 240
  · rw [if_pos h3, decide_eq_true (by omega)]
    simp only [K.spec_decode.j1, K.spec_decode.j2, if_true]
    have e := i64_and15 (x := (gb l 0 : Int)) (by omega) (by omega)
    rw [e, show ((gb l 0 : Int) % 16) = ((gb l 0 % 16 : Nat) : Int) by omega]
    have := st (k + 8) 3 (gb l 0 % 16) 1 (by decide) (by decide) (by omega)
    refine this.trans ?_
    split
    · refine (st (k + 7) 3 (gb l 0 % 16 * 64 + gb l 1 % 64) 2 (by decide) (by decide) (by omega)).trans ?_
      split
      · exact l0_fin _ _ 3 _ (by decide) (by omega)
      · rfl
    · rfl
  rw [if_neg h3, decide_eq_false (by omega)]
  simp only [K.spec_decode.j1]
  rw [if_neg (by decide), if_pos (by omega)]
  by_cases h4 : gb l 0 < 245
  · rw [if_pos h4, if_pos (by omega)]
    simp only [K.spec_decode.j2]
    have e := i64_and7 (x := (gb l 0 : Int)) (by omega) (by omega)
    rw [e, show ((gb l 0 : Int) % 8) = ((gb l 0 % 8 : Nat) : Int) by omega]
    have := st (k + 8) 4 (gb l 0 % 8) 1 (by decide) (by decide) (by omega)
    refine this.trans ?_
    split
    · refine (st (k + 7) 4 (gb l 0 % 8 * 64 + gb l 1 % 64) 2 (by decide) (by decide) (by omega)).trans ?_
      split
      · refine (st (k + 6) 4 ((gb l 0 % 8 * 64 + gb l 1 % 64) * 64 + gb l 2 % 64) 3 (by decide) (by decide) (by omega)).trans ?_
        split
        · exact l0_fin _ _ 4 _ (by decide) (by omega)
        · rfl
      · rfl
    · rfl
  · rw [if_neg h4, if_neg (by omega)]; rfl
end Go.Proofs.YtmfihkgbfoapaaaDoor
namespace Go.Proofs.YtmfihkgbfoapaaaDoor
set_option linter.unusedVariables false
set_option linter.unusedSimpArgs false
open Go Go.RowKit Go.Lib Go.BigFrame Go.Proofs.YtmfihkgbfoapaaaDoorW.PrintWords
theorem Drawn0.below {w w' : World} (h : Drawn0 w w') (n : Nat) : Below n w w' := by
  obtain ⟨k, rfl⟩ := h.out
  exact pw_below_drewN (Below.refl _ _) _
theorem dec_spec (w : World) (A : Option Addr) (c : Nat) (l : List UInt8) (hr : Kd.C (Kd.int .u8) w A l.length (ints l)) (hc : l.length ≤ c) (h : 0 < l.length) :
    Calls Tryd.prog 37 #[.slice A l.length c] w fun e w' => e = .returned (.tuple #[.int .i32 ((specDec l).1 : Nat), .int .i64 ((specDec l).2 : Nat)]) ∧ Below w.heap.size w w' := by
  have := K.spec_decode.calls 20 A c (ints l) ((specDec l).1 : Nat) ((specDec l).2 : Nat) w (by rw [ints_length]; exact hr) (by rw [ints_length]; exact hc) (dec_val 20 l h (by decide))
  rw [ints_length] at this
  exact this.mono fun e w' ⟨h1, h2⟩ => ⟨h1, Drawn0.below h2 _⟩
theorem bytes_kd (W : World) (s : ByteArray) (hs : s.size ≤ 9223372036854775807) : Kd.C (Kd.int .u8) (bytesWorld W 5 s) (some ⟨W.heap.size, 0, none⟩) s.size (ints s.data.toList) :=
  Kd.C_of_reads (readsInt_of.1 (bytes_reads W 5 s hs))
theorem bytesWorld_below (W : World) (e : TypeId) (s : ByteArray) : Below W.heap.size W (bytesWorld W e s) := bytes_below (Below.refl _ _) (Nat.le_refl _) e s
def keepCh (d : Bool) (r : Int) : Bool := decide (32 < r) && r != 34 && r != 39 && r != 96 && r != 46 && r != 47 && r != 65279 && (d || !isDec r)
def keepI (d : Bool) (c : Item) : Bool := !c.bad && keepCh d c.r
def keepL (d : Bool) (l : List UInt8) : List UInt8 := YtmfihkgbfoapaaaDoor.bytesOf ((items l).filter (keepI d))
theorem keepL_nil (d : Bool) : keepL d [] = [] := by unfold keepL; rw [items_nil]; rfl
theorem keepL_step (d : Bool) {l : List UInt8} (h : 0 < l.length) : keepL d l = (if keepI d (hdItem l) = true then l.take (hd l).2 else []) ++ keepL d (l.drop (hd l).2) := by
  unfold keepL
  rw [items_cons h, List.filter_cons]
  split
  · rw [bytesOf_cons]; rfl
  · rfl
theorem isDec_yes {c : Int} (h : 48 ≤ c ∧ c ≤ 57) : isDec c = true := by unfold isDec; rw [decide_eq_true h.1, decide_eq_true h.2]; rfl
theorem isDec_no {c : Int} (h : ¬ (48 ≤ c ∧ c ≤ 57)) : isDec c = false := by
  unfold isDec; by_cases h1 : 48 ≤ c
  · rw [decide_eq_false (p := c ≤ 57) (by omega)]; simp
  · rw [decide_eq_false h1]; rfl
def keepOk (r : Int) : Prop := 32 < r ∧ r ≠ 34 ∧ r ≠ 39 ∧ r ≠ 96 ∧ r ≠ 46 ∧ r ≠ 47 ∧ r ≠ 65279
theorem keepCh_ok {d : Bool} {r : Int} (h : keepOk r) : keepCh d r = (d || !isDec r) := by
  obtain ⟨h1, h2, h3, h4, h5, h6, h7⟩ := h
  unfold keepCh
  rw [decide_eq_true h1, bne_iff_ne.2 h2, bne_iff_ne.2 h3, bne_iff_ne.2 h4, bne_iff_ne.2 h5, bne_iff_ne.2 h6, bne_iff_ne.2 h7]; rfl
theorem keepCh_bad {d : Bool} {r : Int} (h : ¬ keepOk r) : keepCh d r = false := by
  cases hk : keepCh d r with
  | false => rfl
  | true =>
    unfold keepCh at hk
    simp only [Bool.and_eq_true, decide_eq_true_eq, bne_iff_ne] at hk
    exact absurd ⟨hk.1.1.1.1.1.1.1, hk.1.1.1.1.1.1.2, hk.1.1.1.1.1.2, hk.1.1.1.1.2, hk.1.1.1.2, hk.1.1.2, hk.1.2⟩ h
theorem digit_spec (w : World) (c : Int) : Calls Tryd.prog 38 #[.int .i32 c] w fun e w' => e = .returned (.bool (isDec c)) ∧ w = w' := by
  obtain ⟨b, hb⟩ : ∃ b, isDec c = b := ⟨_, rfl⟩
  have HB := Lib.hid hb
  rw [hb]
  clear hb
  go_enter Tryd.func38, Tryd.ntmps38
  by_cases h1 : 48 ≤ c
  · by_cases h2 : c ≤ 57
    · go_wp2_with (fail)
      go_ret
      exact ⟨by rw [← HB.out, isDec_yes (by omega)]; rfl, rfl⟩
    · go_wp2_with (fail)
      go_ret
      exact ⟨by rw [← HB.out, isDec_no (by omega)]; rfl, rfl⟩
  · go_wp2_with (fail)
    go_ret
    exact ⟨by rw [← HB.out, isDec_no (by omega)]; rfl, rfl⟩
theorem extract_list (s : ByteArray) (a b : Nat) : (s.extract a b).data.toList = (s.data.toList.take b).drop a := by
  simp [ByteArray.data_extract, List.drop_take]
theorem extract_size' (s : ByteArray) (a b : Nat) (h : b ≤ s.size) : (s.extract a b).size = b - a := by
  rw [← data_length, extract_list, List.length_drop, List.length_take, data_length]; omega
theorem append_list (a b : ByteArray) : (a ++ b).data.toList = a.data.toList ++ b.data.toList := by simp
theorem extract_head (s : ByteArray) (n : Nat) : (s.extract 0 n).data.toList = s.data.toList.take n := by rw [extract_list]; rfl
theorem extract_tail (s : ByteArray) (n : Nat) : (s.extract n s.size).data.toList = s.data.toList.drop n := by
  rw [extract_list, List.take_of_length_le (by rw [data_length]; exact Nat.le_refl _)]
theorem keep_no {d : Bool} {tb ub : ByteArray} {K : List UInt8} (h0 : 0 < tb.size) (he : ub.data.toList ++ keepL d tb.data.toList = K) (hk : keepI d (hdItem tb.data.toList) = false) {n : Nat} (hn : (hd tb.data.toList).2 = n) :
    ub.data.toList ++ keepL d (tb.extract n tb.size).data.toList = K := by
  rw [extract_tail, ← he, keepL_step d (l := tb.data.toList) (by rw [data_length]; exact h0), hn, hk]; rfl
theorem keep_yes {d : Bool} {tb ub : ByteArray} {K : List UInt8} (h0 : 0 < tb.size) (he : ub.data.toList ++ keepL d tb.data.toList = K) (hk : keepI d (hdItem tb.data.toList) = true) {n : Nat} (hn : (hd tb.data.toList).2 = n) :
    (ub ++ tb.extract 0 n).data.toList ++ keepL d (tb.extract n tb.size).data.toList = K := by
  rw [append_list, extract_head, extract_tail, ← he, keepL_step d (l := tb.data.toList) (by rw [data_length]; exact h0), hn, hk, if_pos rfl, List.append_assoc]
set_option maxRecDepth 100000 in
set_option maxHeartbeats 1600000 in
theorem keep_spec (w : World) (s : ByteArray) (d : Bool) (hs : s.size ≤ 140737488351232) :
    Calls Tryd.prog 36 #[.string s, .bool d] w fun e w' => e = .returned (.string ⟨(keepL d s.data.toList).toArray⟩) ∧ Below w.heap.size w w' := by
  go_enter Tryd.func36, Tryd.ntmps36
  go_wp2_with (fail)
  go_loopg [0, 5] s.size (fun kk t u wr => ∃ tb ub : ByteArray, tb.size = kk ∧ t = .string tb ∧ u = .string ub ∧ ub.data.toList ++ keepL d tb.data.toList = keepL d s.data.toList ∧ ub.size + tb.size ≤ s.size ∧ Below w.heap.size w wr)
  case atStart => exact ⟨s, ⟨#[]⟩, rfl, rfl, rfl, by simp, by show 0 + s.size ≤ s.size; omega, Below.refl _ _⟩
  case round =>
    obtain ⟨tb, ub, rfl, rfl, rfl, he, hsz, hb⟩ := hrel
    have HH := Lib.hid (And.intro he (And.intro hsz hb))
    clear he hsz hb
    have hlen : tb.data.toList.length = tb.size := data_length tb
    by_cases h0 : 0 < tb.size
    · have kb := fun W => print_bytes (P := Tryd.prog) 9 22 5 Tryd.underlying9 Tryd.underlying22 Tryd.underlying5 tb W
      have hkd := bytes_kd wr tb (by have := HH.out.2.1; omega)
      have hbb := bytesWorld_below wr 5 tb
      have hdec := dec_spec (bytesWorld wr 5 tb) (some ⟨wr.heap.size, 0, none⟩) (grownCap wr tb.size 0 5) tb.data.toList (by rw [hlen]; exact hkd) (by rw [hlen]; exact grownCap_ge _ _ _ _) (by omega)
      rw [hlen] at hdec
      have HD := Lib.hid (And.intro hdec (And.intro hbb hlen))
      clear hkd hbb hdec hlen
      have hl := tb.data.toList
      by_cases hbad : (hdItem tb.data.toList).bad = true
      · have e0 : specDec tb.data.toList = (0, 0) := by unfold specDec; rw [if_pos hbad]
        go_wp2_with (go_at_call 37; refine (HD.out.1).mono ?_; rw [e0]; rintro e w1 ⟨rfl, hb1⟩; have HB := Lib.hid hb1; clear hb1)
        have hB : Below w.heap.size w w1 := HH.out.2.2.trans ((HD.out.2.1.trans (HB.out.mono HD.out.2.1.size)).mono HH.out.2.2.size)
        have hn1 : (hd tb.data.toList).2 = 1 := by
          rw [bad_of (by rw [data_length]; exact h0)] at hbad; simp at hbad; exact hbad.2
        have hk : keepI d (hdItem tb.data.toList) = false := by unfold keepI; rw [hbad]; rfl
        go_roundg (tb.size - 1)
        case measure => omega
        case rel =>
          exact ⟨tb.extract 1 tb.size, ub, extract_size' _ _ _ (Nat.le_refl _), rfl, rfl, keep_no h0 HH.out.1 hk hn1, by rw [extract_size' _ _ _ (Nat.le_refl _)]; have := HH.out.2.1; omega, hB⟩
      · have e0 : specDec tb.data.toList = hd tb.data.toList := by unfold specDec; rw [if_neg hbad]
        have hl1 := HD.out.2.2
        have hn1 := hd_pos tb.data.toList
        have hn2 := hd_le (l := tb.data.toList) (by omega)
        have hr := hd_rune tb.data.toList
        rw [hl1] at hn2
        have hkI : keepI d (hdItem tb.data.toList) = keepCh d (hd tb.data.toList).1 := by
          unfold keepI; rw [Bool.eq_false_iff.2 hbad]; rfl
        have HK := Lib.hid (And.intro hl1 (And.intro hn1 (And.intro hn2 hkI)))
        generalize hp : hd tb.data.toList = p at *
        obtain ⟨r, n⟩ := p
        simp only at *
        have HP := Lib.hid hp
        clear hp hl1 hkI hl
        have HE := Lib.hid e0
        clear e0
        have hub : ub.size + n ≤ 9223372036854775807 := by have := HH.out.2.1; omega
        by_cases hg : keepOk r
        · obtain ⟨g1, g2, g3, g4, g5, g6, g7⟩ := hg
          have HG := Lib.hid (show keepOk r from ⟨g1, g2, g3, g4, g5, g6, g7⟩)
          have b2 := bne_iff_ne.2 g2
          have b3 := bne_iff_ne.2 g3
          have b4 := bne_iff_ne.2 g4
          have b5 := bne_iff_ne.2 g5
          have b6 := bne_iff_ne.2 g6
          have b7 := bne_iff_ne.2 g7
          clear g2 g3 g4 g5 g6 g7
          cases d with
          | true =>
            go_wp2_with (first | (go_at_call 37; refine (HD.out.1).mono ?_; rw [HE.out]; rintro e w1 ⟨rfl, hb1⟩; have HB := Lib.hid hb1; clear hb1))
            go_roundg (tb.size - n)
            case measure => omega
            case rel =>
              have hB : Below w.heap.size w w1 := HH.out.2.2.trans ((HD.out.2.1.trans (HB.out.mono HD.out.2.1.size)).mono HH.out.2.2.size)
              exact ⟨tb.extract n tb.size, ub ++ tb.extract 0 n, extract_size' _ _ _ (Nat.le_refl _), rfl, rfl, keep_yes h0 HH.out.1 (by rw [HK.out.2.2.2, keepCh_ok HG.out]; rfl) (by rw [HP.out]), by rw [extract_size' _ _ _ (Nat.le_refl _), ByteArray.size_append, extract_size' _ _ _ HK.out.2.2.1]; have := HH.out.2.1; have := HK.out.2.2.1; omega, hB⟩
          | false =>
            obtain ⟨bd, hbd⟩ : ∃ b, isDec r = b := ⟨_, rfl⟩
            have HBD := Lib.hid hbd
            clear hbd
            cases bd with
            | true =>
              go_wp2_with (first | (go_at_call 37; refine (HD.out.1).mono ?_; rw [HE.out]; rintro e w1 ⟨rfl, hb1⟩; have HB := Lib.hid hb1; clear hb1) | (go_at_call 38; refine (digit_spec _ _).mono ?_; rw [HBD.out]; rintro e w2 ⟨rfl, rfl⟩))
              go_roundg (tb.size - n)
              case measure => omega
              case rel =>
                have hB : Below w.heap.size w w1 := HH.out.2.2.trans ((HD.out.2.1.trans (HB.out.mono HD.out.2.1.size)).mono HH.out.2.2.size)
                exact ⟨tb.extract n tb.size, ub, extract_size' _ _ _ (Nat.le_refl _), rfl, rfl, keep_no h0 HH.out.1 (by rw [HK.out.2.2.2]; rw [keepCh_ok HG.out, HBD.out]; rfl) (by rw [HP.out]), by rw [extract_size' _ _ _ (Nat.le_refl _)]; have := HH.out.2.1; have := HK.out.2.2.1; omega, hB⟩
            | false =>
              go_wp2_with (first | (go_at_call 37; refine (HD.out.1).mono ?_; rw [HE.out]; rintro e w1 ⟨rfl, hb1⟩; have HB := Lib.hid hb1; clear hb1) | (go_at_call 38; refine (digit_spec _ _).mono ?_; rw [HBD.out]; rintro e w2 ⟨rfl, rfl⟩))
              go_roundg (tb.size - n)
              case measure => omega
              case rel =>
                have hB : Below w.heap.size w w1 := HH.out.2.2.trans ((HD.out.2.1.trans (HB.out.mono HD.out.2.1.size)).mono HH.out.2.2.size)
                exact ⟨tb.extract n tb.size, ub ++ tb.extract 0 n, extract_size' _ _ _ (Nat.le_refl _), rfl, rfl, keep_yes h0 HH.out.1 (by rw [HK.out.2.2.2, keepCh_ok HG.out]; rw [HBD.out]; rfl) (by rw [HP.out]), by rw [extract_size' _ _ _ (Nat.le_refl _), ByteArray.size_append, extract_size' _ _ _ HK.out.2.2.1]; have := HH.out.2.1; have := HK.out.2.2.1; omega, hB⟩
        · go_wp2_with (first | (go_at_call 37; refine (HD.out.1).mono ?_; rw [HE.out]; rintro e w1 ⟨rfl, hb1⟩; have HB := Lib.hid hb1; clear hb1))
          all_goals first
            | exact absurd (show keepOk r from ⟨by omega, by omega, by omega, by omega, by omega, by omega, by omega⟩) hg
            | skip
          all_goals
            go_roundg (tb.size - n)
            case measure => omega
            case rel =>
              have hB : Below w.heap.size w w1 := HH.out.2.2.trans ((HD.out.2.1.trans (HB.out.mono HD.out.2.1.size)).mono HH.out.2.2.size)
              exact ⟨tb.extract n tb.size, ub, extract_size' _ _ _ (Nat.le_refl _), rfl, rfl, keep_no h0 HH.out.1 (by rw [HK.out.2.2.2]; exact keepCh_bad hg) (by rw [HP.out]), by rw [extract_size' _ _ _ (Nat.le_refl _)]; have := HH.out.2.1; have := HK.out.2.2.1; omega, hB⟩
    · go_wp2_with (fail)
      go_ret
      obtain ⟨he, hsz, hb⟩ := HH.out
      have : tb.data.toList = [] := List.eq_nil_of_length_eq_zero (by rw [data_length]; omega)
      rw [this, keepL_nil, List.append_nil] at he
      exact ⟨by show Ending.returned (.string ub) = _; rw [← he], hb⟩
end Go.Proofs.YtmfihkgbfoapaaaDoor
namespace Go.Proofs.YtmfihkgbfoapaaaDoor
set_option linter.unusedVariables false
set_option linter.unusedSimpArgs false
open Go Go.RowKit Go.Lib Go.BigFrame Go.Proofs.YtmfihkgbfoapaaaDoorW.PrintWords
def fitM (m : Int) : Int := bits .and .i64 m 255
def fitW (wh : Int) : Int := bits .and .u64 wh 8589934590
def keepS (d : Bool) (f : ByteArray) : ByteArray := ⟨(keepL d f.data.toList).toArray⟩
theorem results_fit (w : World) (tmps : Array Value) (q : Nat) (b1 b2 : Bool) (m wh : Int) (s1 s2 : ByteArray) {fr : Nat × Nat} (hp : tmps.getD 2 undef = .pointer (some ⟨q, 0, none⟩)) (h : w.heap[q]? = some (.cells #[.bool b1, .int .i64 m, .int .u64 wh, .bool b2, .string s1, .string s2] 25 fr)) :
    (results Tryd.f21 tmps).run Tryd.prog w = .ok (.agg #[.bool b1, .int .i64 m, .int .u64 wh, .bool b2, .string s1, .string s2]) w := by
  have hp' : tmps[2]?.getD undef = .pointer (some ⟨q, 0, none⟩) := by simpa using hp
  have c0 : w.cell? ⟨q, 0, none⟩ = some (.bool b1) := (cell_of_heap h 0).trans rfl
  have c1 : w.cell? ⟨q, 1, none⟩ = some (.int .i64 m) := (cell_of_heap h 1).trans rfl
  have c2 : w.cell? ⟨q, 2, none⟩ = some (.int .u64 wh) := (cell_of_heap h 2).trans rfl
  have c3 : w.cell? ⟨q, 3, none⟩ = some (.bool b2) := (cell_of_heap h 3).trans rfl
  have c4 : w.cell? ⟨q, 4, none⟩ = some (.string s1) := (cell_of_heap h 4).trans rfl
  have c5 : w.cell? ⟨q, 5, none⟩ = some (.string s2) := (cell_of_heap h 5).trans rfl
  simp [results, hp', asAddr]
  go_simp
theorem fit_default (w : World) (m wh : Int) (cu : Bool) (f1 f2 : ByteArray) :
    Calls Tryd.prog 21 #[.agg #[.bool true, .int .i64 m, .int .u64 wh, .bool cu, .string f1, .string f2]] w fun e w' => e = .returned (.agg #[.bool true, .int .i64 0, .int .u64 0, .bool false, .string ⟨#[]⟩, .string ⟨#[]⟩]) ∧ Below w.heap.size w w' := by
  go_enter Tryd.func21, Tryd.ntmps21
  go_wp2_with (fail)
  refine bodyPost_ret (results_fit _ _ (w.heap.size + 1) true false 0 0 ⟨#[]⟩ ⟨#[]⟩ rfl (by rw [← World.size_alloc w]; exact heap_alloc_new _ _)) rfl ⟨rfl, ?_⟩
  exact ((Below.refl _ w).alloc (Nat.le_refl _) _).alloc (by rw [World.size_alloc]; omega) _
theorem fit_plain (w : World) (m wh : Int) (f1 f2 : ByteArray) :
    Calls Tryd.prog 21 #[.agg #[.bool false, .int .i64 m, .int .u64 wh, .bool false, .string f1, .string f2]] w fun e w' => e = .returned (.agg #[.bool false, .int .i64 (fitM m), .int .u64 (fitW wh), .bool false, .string ⟨#[]⟩, .string ⟨#[]⟩]) ∧ Below w.heap.size w w' := by
  obtain ⟨fm, hfm⟩ : ∃ x, bits .and .i64 m 255 = x := ⟨_, rfl⟩
  obtain ⟨fw, hfw⟩ : ∃ x, bits .and .u64 wh 8589934590 = x := ⟨_, rfl⟩
  unfold fitM fitW
  rw [hfm, hfw]
  go_enter Tryd.func21, Tryd.ntmps21
  go_wp2_with (fail)
  obtain ⟨t1, t2, t3, t4, t5⟩ := three_blocks w _ _ _ rfl
  exact bodyPost_ret (results_fit _ _ (w.heap.size + 1) false false fm fw ⟨#[]⟩ ⟨#[]⟩ rfl t2) rfl ⟨rfl, t4⟩
theorem fit_stores {w : World} {q g : Nat} {a0 a1 a2 a3 a4 a5 : Value} (h : w.heap[q]? = some (.cells #[a0, a1, a2, a3, a4, a5] 25 (0, 0))) (hg : q ≠ g) (u1 u2 : Value) (b1 : Bool) (m wh : Int) (b2 : Bool) (s1 s2 : ByteArray) :
    ((((((((w.setCell ⟨g, 4, none⟩ u1).setCell ⟨g, 5, none⟩ u2).setCell ⟨q, 0, none⟩ (.bool b1)).setCell ⟨q, 1, none⟩ (.int .i64 m)).setCell ⟨q, 2, none⟩ (.int .u64 wh)).setCell ⟨q, 3, none⟩ (.bool b2)).setCell ⟨q, 4, none⟩ (.string s1)).setCell ⟨q, 5, none⟩ (.string s2)).heap[q]? =
      some (.cells #[.bool b1, .int .i64 m, .int .u64 wh, .bool b2, .string s1, .string s2] 25 (0, 0)) := by
  have h1 : ((w.setCell ⟨g, 4, none⟩ u1).setCell ⟨g, 5, none⟩ u2).heap[q]? = some (.cells #[a0, a1, a2, a3, a4, a5] 25 (0, 0)) := by
    rw [Below.heap_setCell _ _ _ _ (by exact hg), Below.heap_setCell _ _ _ _ (by exact hg)]; exact h
  have h2 := Go.Lib.heap_setCell_same (i := 0) h1 (.bool b1)
  have h3 := Go.Lib.heap_setCell_same (i := 1) h2 (.int .i64 m)
  have h4 := Go.Lib.heap_setCell_same (i := 2) h3 (.int .u64 wh)
  have h5 := Go.Lib.heap_setCell_same (i := 3) h4 (.bool b2)
  have h6 := Go.Lib.heap_setCell_same (i := 4) h5 (.string s1)
  have h7 := Go.Lib.heap_setCell_same (i := 5) h6 (.string s2)
  exact h7
structure FitCls (n : Nat) (w W : World) (w' : World) : Prop where
  size : W.heap.size = n + 1 + 1 + 1
  below : Below n w W
  up : Below W.heap.size W w'
theorem FitCls.start {n : Nat} {w W : World} (h : W.heap.size = n + 1 + 1 + 1) (hb : Below n w W) : FitCls n w W W.drew := ⟨h, hb, ⟨rfl, rfl, rfl, Nat.le_refl _, fun _ _ => rfl⟩⟩
theorem FitCls.step {n : Nat} {w W w' w'' : World} (h : FitCls n w W w') (hb : Below w'.heap.size w' w'') : FitCls n w W w'' := ⟨h.size, h.below, h.up.trans (hb.mono h.up.size)⟩
theorem FitCls.blk {n : Nat} {w W w' : World} (h : FitCls n w W w') {j : Nat} (hj : j < n + 1 + 1 + 1) {o : Obj} (ho : W.heap[j]? = some o) : w'.heap[j]? = some o := (h.up.block j (by rw [h.size]; exact hj)).trans ho
theorem FitCls.c4 {n : Nat} {w W w' : World} (h : FitCls n w W w') {b1 b2 : Bool} {m wh : Int} {f1 f2 : ByteArray} (ho : W.heap[n]? = some (.cells #[.bool b1, .int .i64 m, .int .u64 wh, .bool b2, .string f1, .string f2] 25 (0, 0))) : w'.cell? ⟨n, 4, none⟩ = some (.string f1) :=
  (cell_of_heap (h.blk (by omega) ho) 4).trans rfl
theorem FitCls.c5 {n : Nat} {w W w' : World} (h : FitCls n w W w') {b1 b2 : Bool} {m wh : Int} {f1 f2 : ByteArray} (ho : W.heap[n]? = some (.cells #[.bool b1, .int .i64 m, .int .u64 wh, .bool b2, .string f1, .string f2] 25 (0, 0))) : w'.cell? ⟨n, 5, none⟩ = some (.string f2) :=
  (cell_of_heap (h.blk (by omega) ho) 5).trans rfl
theorem fit_custom (w : World) (m wh : Int) (f1 f2 : ByteArray) (hs1 : f1.size ≤ 140737488351232) (hs2 : f2.size ≤ 140737488351232) :
    Calls Tryd.prog 21 #[.agg #[.bool false, .int .i64 m, .int .u64 wh, .bool true, .string f1, .string f2]] w fun e w' => e = .returned (.agg #[.bool false, .int .i64 (fitM m), .int .u64 (fitW wh), .bool true, .string (keepS false f1), .string (keepS true f2)]) ∧ Below w.heap.size w w' := by
  obtain ⟨fm, hfm⟩ : ∃ x, bits .and .i64 m 255 = x := ⟨_, rfl⟩
  obtain ⟨fw, hfw⟩ : ∃ x, bits .and .u64 wh 8589934590 = x := ⟨_, rfl⟩
  unfold fitM fitW
  rw [hfm, hfw]
  obtain ⟨k1, hk1⟩ : ∃ x, keepS false f1 = x := ⟨_, rfl⟩
  obtain ⟨k2, hk2⟩ : ∃ x, keepS true f2 = x := ⟨_, rfl⟩
  rw [hk1, hk2]
  have HK := Lib.hid (And.intro hk1 (And.intro hk2 (And.intro hs1 hs2)))
  clear hk1 hk2 hs1 hs2
  go_enter Tryd.func21, Tryd.ntmps21
  go_upto_region 6 with (fail)
  obtain ⟨W, hW⟩ : ∃ W, ((w.alloc (Obj.cells #[Value.bool false, Value.int IntKind.i64 m, Value.int IntKind.u64 wh, Value.bool true, Value.string f1, Value.string f2] 25)).alloc (Obj.cells #[Value.bool false, Value.int IntKind.i64 0, Value.int IntKind.u64 0, Value.bool false, Value.string { data := #[] }, Value.string { data := #[] }] 25)).alloc (Obj.cells #[Value.bool false, Value.int IntKind.i64 fm, Value.int IntKind.u64 fw, Value.bool true, Value.string { data := #[] }, Value.string { data := #[] }] 25) = W := ⟨_, rfl⟩
  rw [hW]
  obtain ⟨t1, t2, t3, t4, t5⟩ := three_blocks _ _ _ _ hW
  clear hW
  obtain ⟨n, hn⟩ : ∃ n, w.heap.size = n := ⟨_, rfl⟩
  rw [hn] at t1 t2 t3 t4 t5 ⊢
  refine wp_region_class_tail (FitCls n w W) 9 (by kernel_rfl) (by kernel_rfl) (FitCls.start t5 t4) ?_
  have HW := Lib.hid (And.intro t1 (And.intro t2 (And.intro t3 (And.intro t4 (And.intro t5 hn)))))
  clear t1 t2 t3 t4 t5 hn
  simp only [List.take_succ_cons, List.take_zero, List.drop_succ_cons, List.drop_zero]
  refine wpQuiet_want rfl ?_
  intro Kn hK
  refine ⟨.func (.func 36) #[] #[], fun w' hw' => ?_, hK _ ?_⟩
  · unfold Oper.quietAt
    go_simp
  clear hK Kn
  refine wpQuiet_want rfl ?_
  intro Kn hK
  refine ⟨.pointer (some ⟨n, 4, none⟩), fun w' hw' => ?_, hK _ ?_⟩
  · unfold Oper.quietAt
    go_simp
  clear hK Kn
  refine wpQuiet_want rfl ?_
  intro Kn hK
  refine ⟨.string f1, fun w' hw' => ?_, hK _ ?_⟩
  · have c := hw'.c4 HW.out.1
    unfold Oper.quietAt
    go_simp
  clear hK Kn
  refine wpQuiet_want rfl ?_
  intro Kn hK
  refine ⟨.string k1, fun w' hw' => ?_, hK _ ?_⟩
  · unfold Oper.quietAt
    go_simp
    refine (keep_spec w' f1 false HK.out.2.2.1).mono fun e w'' h => ⟨by rw [h.1, ← HK.out.1]; rfl, hw'.step h.2⟩
  clear hK Kn
  refine wpQuiet_want rfl ?_
  intro Kn hK
  refine ⟨.func (.func 36) #[] #[], fun w' hw' => ?_, hK _ ?_⟩
  · unfold Oper.quietAt
    go_simp
  clear hK Kn
  refine wpQuiet_want rfl ?_
  intro Kn hK
  refine ⟨.pointer (some ⟨n, 5, none⟩), fun w' hw' => ?_, hK _ ?_⟩
  · unfold Oper.quietAt
    go_simp
  clear hK Kn
  refine wpQuiet_want rfl ?_
  intro Kn hK
  refine ⟨.string f2, fun w' hw' => ?_, hK _ ?_⟩
  · have c := hw'.c5 HW.out.1
    unfold Oper.quietAt
    go_simp
  clear hK Kn
  refine wpQuiet_want rfl ?_
  intro Kn hK
  refine ⟨.string k2, fun w' hw' => ?_, hK _ ?_⟩
  · unfold Oper.quietAt
    go_simp
    refine (keep_spec w' f2 true HK.out.2.2.2).mono fun e w'' h => ⟨by rw [h.1, ← HK.out.2.1]; rfl, hw'.step h.2⟩
  clear hK Kn
  refine wpQuiet_want rfl ?_
  intro Kn hK
  refine ⟨.pointer (some ⟨n + 1 + 1, 4, none⟩), fun w' hw' => ?_, hK _ ?_⟩
  · unfold Oper.quietAt
    go_simp
  clear hK Kn
  refine wpQuiet_nil ?_
  intro w4 hw4
  have h3 := hw4.blk (by omega) HW.out.2.2.1
  have h2 := hw4.blk (by omega) HW.out.2.1
  have d0 : w4.cell? ⟨n + 1 + 1, 0, none⟩ = some (.bool false) := (cell_of_heap h3 0).trans rfl
  have d1 : w4.cell? ⟨n + 1 + 1, 1, none⟩ = some (.int .i64 fm) := (cell_of_heap h3 1).trans rfl
  have d2 : w4.cell? ⟨n + 1 + 1, 2, none⟩ = some (.int .u64 fw) := (cell_of_heap h3 2).trans rfl
  have d3 : w4.cell? ⟨n + 1 + 1, 3, none⟩ = some (.bool true) := (cell_of_heap h3 3).trans rfl
  have d4 : w4.cell? ⟨n + 1 + 1, 4, none⟩ = some (.string ⟨#[]⟩) := (cell_of_heap h3 4).trans rfl
  have d5 : w4.cell? ⟨n + 1 + 1, 5, none⟩ = some (.string ⟨#[]⟩) := (cell_of_heap h3 5).trans rfl
  have f3 := frozen_of_heap h3
  have f2' := frozen_of_heap h2
  have e0 : w4.cell? ⟨n + 1, 0, none⟩ = some (.bool false) := (cell_of_heap h2 0).trans rfl
  have e1 : w4.cell? ⟨n + 1, 1, none⟩ = some (.int .i64 0) := (cell_of_heap h2 1).trans rfl
  have e2 : w4.cell? ⟨n + 1, 2, none⟩ = some (.int .u64 0) := (cell_of_heap h2 2).trans rfl
  have e3 : w4.cell? ⟨n + 1, 3, none⟩ = some (.bool false) := (cell_of_heap h2 3).trans rfl
  have e4 : w4.cell? ⟨n + 1, 4, none⟩ = some (.string ⟨#[]⟩) := (cell_of_heap h2 4).trans rfl
  have e5 : w4.cell? ⟨n + 1, 5, none⟩ = some (.string ⟨#[]⟩) := (cell_of_heap h2 5).trans rfl
  have H4 := Lib.hid (And.intro hw4 h2)
  clear hw4 h2 h3
  go_wp2_with (fail)
  obtain ⟨hw4, h2⟩ := H4.out
  refine bodyPost_ret (results_fit _ _ (n + 1) false true fm fw k1 k2 rfl (fit_stores h2 (g := n + 1 + 1) (by omega) _ _ false fm fw true k1 k2)) rfl ⟨rfl, ?_⟩
  have hb : Below n w w4 := hw4.below.trans (hw4.up.mono (by rw [hw4.size]; omega))
  have hs := fun (v : World) (q i : Nat) (u : Value) (h : Below n w v) (hq : n ≤ q) => h.setCell (p := ⟨q, i, none⟩) hq u
  rw [HW.out.2.2.2.2.2]
  exact hs _ _ _ _ (hs _ _ _ _ (hs _ _ _ _ (hs _ _ _ _ (hs _ _ _ _ (hs _ _ _ _ (hs _ _ _ _ (hs _ _ _ _ hb (by omega)) (by omega)) (by omega)) (by omega)) (by omega)) (by omega)) (by omega)) (by omega)
end Go.Proofs.YtmfihkgbfoapaaaDoor
namespace Go.Proofs.YtmfihkgbfoapaaaDoor
set_option linter.unusedVariables false
set_option linter.unusedSimpArgs false
open Go Go.RowKit Go.Lib Go.BigFrame Go.Proofs.YtmfihkgbfoapaaaDoorW.PrintWords
structure Stp where
  d : Bool
  m : Int
  wh : Int
  cu : Bool
  f1 : ByteArray
  f2 : ByteArray
def Stp.fit (s : Stp) : Stp :=
  if s.d = true then ⟨true, 0, 0, false, ⟨#[]⟩, ⟨#[]⟩⟩ else ⟨false, fitM s.m, fitW s.wh, s.cu, if s.cu = true then keepS false s.f1 else ⟨#[]⟩, if s.cu = true then keepS true s.f2 else ⟨#[]⟩⟩
structure Stp.Ok (s : Stp) : Prop where
  m0 : 0 ≤ s.m
  m1 : s.m ≤ 255
  w0 : 0 ≤ s.wh
  w1 : s.wh ≤ 8589934591
def Stp.cfg (s : Stp) : Cfg := ⟨if s.d = true then 1012 else 4 * s.m, if s.d = true then 4294977024 else s.wh, if s.d = false ∧ s.cu = true then idCustom s.f1 s.f2 else idGo⟩
theorem fitM_range (m : Int) : 0 ≤ fitM m ∧ fitM m ≤ 255 := by
  unfold fitM bits
  have h : ((BitVec.ofInt IntKind.i64.bits m &&& BitVec.ofInt IntKind.i64.bits 255).toNat) ≤ 255 := by
    rw [BitVec.toNat_and]
    exact Nat.le_trans Nat.and_le_right (by decide)
  simp only
  generalize (BitVec.ofInt IntKind.i64.bits m &&& BitVec.ofInt IntKind.i64.bits 255).toNat = a at h
  rw [IntKind.wrap_i64]
  omega
theorem fitW_range (m : Int) : 0 ≤ fitW m ∧ fitW m ≤ 8589934590 := by
  unfold fitW bits
  have h : ((BitVec.ofInt IntKind.u64.bits m &&& BitVec.ofInt IntKind.u64.bits 8589934590).toNat) ≤ 8589934590 := by
    rw [BitVec.toNat_and]
    exact Nat.le_trans Nat.and_le_right (by decide)
  simp only
  generalize (BitVec.ofInt IntKind.u64.bits m &&& BitVec.ofInt IntKind.u64.bits 8589934590).toNat = a at h
  simp only [IntKind.wrap, IntKind.bits, IntKind.signed]
  simp; omega
theorem Stp.fit_ok (s : Stp) : s.fit.Ok := by
  have h1 := fitM_range s.m
  have h2 := fitW_range s.wh
  unfold Stp.fit
  split
  · exact ⟨by decide, by decide, by decide, by decide⟩
  · exact ⟨h1.1, h1.2, h2.1, by have := h2.2; simp only; omega⟩
theorem mode_all : ((List.range 256).all fun m => K.impl_mode.f 20 (m : Int) == some (4 * (m : Int))) = true := by kernel_rfl
theorem mode_val {m : Int} (h0 : 0 ≤ m) (h1 : m ≤ 255) : K.impl_mode.f 20 m = some (4 * m) := by
  have := List.all_eq_true.1 mode_all m.toNat (List.mem_range.2 (by omega))
  rw [show ((m.toNat : Nat) : Int) = m by omega] at this
  exact eq_of_beq this
theorem fit_spec (w : World) (s : Stp) (hs1 : s.f1.size ≤ 140737488351232) (hs2 : s.f2.size ≤ 140737488351232) :
    Calls Tryd.prog 21 #[.agg #[.bool s.d, .int .i64 s.m, .int .u64 s.wh, .bool s.cu, .string s.f1, .string s.f2]] w fun e w' =>
      e = .returned (.agg #[.bool s.fit.d, .int .i64 s.fit.m, .int .u64 s.fit.wh, .bool s.fit.cu, .string s.fit.f1, .string s.fit.f2]) ∧ Below w.heap.size w w' := by
  obtain ⟨d, m, wh, cu, f1, f2⟩ := s
  cases d with
  | true => exact fit_default w m wh cu f1 f2
  | false =>
    cases cu with
    | false => exact fit_plain w m wh f1 f2
    | true => exact fit_custom w m wh f1 f2 hs1 hs2
theorem tokens_fit (w : World) (a1 a2 : Option Addr) (k1 k2 : Nat) (src : List UInt8) (sz : List Int) (s : Stp) (h : s.Ok)
    (hs : SrcAt w.heap.size w a1 k1 src) (hsz : SzAt w.heap.size w a2 sz) (hlen : Fits src) (hl10 : src.length ≤ 10000000000) (hv : Vars w.heap.size w) :
    Calls Tryd.prog 24 #[.slice a1 src.length k1, .slice a2 sz.length k2, .agg #[.bool s.d, .int .i64 s.m, .int .u64 s.wh, .bool s.cu, .string s.f1, .string s.f2]] w fun e w' =>
      ∃ v, e = .returned (.tuple #[v, .int .i64 (wrap64 ((lexErrs (items src) : Nat) + (errsOf (toks s.cfg src (startL src)) : Nat))), .int .i64 (wrap64 ((lexErrs (items src) : Nat) + (errsOf (toks s.cfg src (startL src)) : Nat)))]) ∧
        Kd.R K.k37 37 w' w.heap.size (fun q => w.heap.size ≤ q) v ((toks s.cfg src (startL src)).map (tokOf src)) ∧ Below w.heap.size w w' :=
  tokens_run w a1 a2 k1 k2 src sz s.d s.m s.wh s.cu s.f1 s.f2 20 (4 * s.m) (mode_val h.m0 h.m1) s.cfg hs hsz hlen hl10 hv rfl rfl rfl (by
    unfold Stp.cfg
    have := h.w0
    have := h.w1
    simp only
    split <;> omega)
theorem fits_yes (w : World) (s : Stp) (h1 : s.f1.size ≤ 2147483647) (h2 : s.f2.size ≤ 2147483647) :
    Calls Tryd.prog 20 #[.agg #[.bool s.d, .int .i64 s.m, .int .u64 s.wh, .bool s.cu, .string s.f1, .string s.f2]] w fun e w' => e = .returned (.bool true) ∧ Below w.heap.size w w' :=
  K.laws_zzFits1.calls s.d s.m s.wh s.cu s.f1 s.f2 true w (by unfold K.laws_zzFits1.f; rw [if_neg (by omega), if_neg (by omega)])
theorem fits_no (w : World) (s : Stp) (h : ¬ (s.f1.size ≤ 2147483647 ∧ s.f2.size ≤ 2147483647)) :
    Calls Tryd.prog 20 #[.agg #[.bool s.d, .int .i64 s.m, .int .u64 s.wh, .bool s.cu, .string s.f1, .string s.f2]] w fun e w' => e = .returned (.bool false) ∧ Below w.heap.size w w' :=
  K.laws_zzFits1.calls s.d s.m s.wh s.cu s.f1 s.f2 false w (by
    unfold K.laws_zzFits1.f
    by_cases h1 : s.f1.size ≤ 2147483647
    · rw [if_neg (by omega), if_pos (by omega)]
    · rw [if_pos (by omega)])
theorem set_loads {W : World} {q : Nat} {b1 : Bool} {m wh : Int} {b2 : Bool} {s1 s2 : ByteArray} {fr : Nat × Nat} (h : W.heap[q]? = some (.cells #[.bool b1, .int .i64 m, .int .u64 wh, .bool b2, .string s1, .string s2] 25 fr)) :
    W.cell? ⟨q, 0, none⟩ = some (.bool b1) ∧ W.cell? ⟨q, 1, none⟩ = some (.int .i64 m) ∧ W.cell? ⟨q, 2, none⟩ = some (.int .u64 wh) ∧ W.cell? ⟨q, 3, none⟩ = some (.bool b2) ∧ W.cell? ⟨q, 4, none⟩ = some (.string s1) ∧ W.cell? ⟨q, 5, none⟩ = some (.string s2) :=
  ⟨(cell_of_heap h 0).trans rfl, (cell_of_heap h 1).trans rfl, (cell_of_heap h 2).trans rfl, (cell_of_heap h 3).trans rfl, (cell_of_heap h 4).trans rfl, (cell_of_heap h 5).trans rfl⟩
end Go.Proofs.YtmfihkgbfoapaaaDoor
