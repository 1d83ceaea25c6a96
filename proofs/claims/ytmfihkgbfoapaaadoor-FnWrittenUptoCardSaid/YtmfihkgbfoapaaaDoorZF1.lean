/- Own texts F1 F2 of this claim, cut to what the claim uses. -/
import Derived.Test.YtmfihkgbfoapaaaDoorZQ8
import Derived.Test.YtmfihkgbfoapaaaDoorZS2
import Derived.Test.YtmfihkgbfoapaaaDoorZX1
import Derived.Laws.Closers25
namespace Go.Proofs.YtmfihkgbfoapaaaDoor
set_option linter.unusedVariables false
set_option linter.unusedSimpArgs false
open Go Go.RowKit Go.Lib Go.BigFrame Go.Proofs.YtmfihkgbfoapaaaDoorW.PrintWords
theorem Uni.at_ {B : Nat} {w0 w : World} (U : Uni B w0) (h : Below B w0 w) (hs : B ≤ w.heap.size) : Uni w.heap.size w :=
  ⟨fun w' hb => U.props w' (h.trans (hb.mono hs)), fun w' hb => U.letter w' (h.trans (hb.mono hs)), fun w' hb => U.digit w' (h.trans (hb.mono hs))⟩
def filtB (p : Nat → Bool) (l : List UInt8) : List UInt8 := YtmfihkgbfoapaaaDoor.bytesOf (filt p l)
theorem filtB_nil (p : Nat → Bool) : filtB p [] = [] := by unfold filtB filt; rw [items_nil]; rfl
def filtI (p : Nat → Bool) (c : Item) : Bool := !c.bad && p c.r
theorem filtB_step (p : Nat → Bool) {l : List UInt8} (h : 0 < l.length) : filtB p l = (if filtI p (hdItem l) = true then l.take (hd l).2 else []) ++ filtB p (l.drop (hd l).2) := by
  unfold filtB filt
  rw [items_cons h, List.filter_cons]
  by_cases h1 : filtI p (hdItem l) = true
  · rw [if_pos h1, if_pos (show (!(hdItem l).bad && p (hdItem l).r) = true from h1), bytesOf_cons]; rfl
  · rw [if_neg h1, if_neg (show ¬ (!(hdItem l).bad && p (hdItem l).r) = true from h1)]; rfl
theorem filt_no {p : Nat → Bool} {tb ub : ByteArray} {K : List UInt8} (h0 : 0 < tb.size) (he : ub.data.toList ++ filtB p tb.data.toList = K) (hk : filtI p (hdItem tb.data.toList) = false) {n : Nat} (hn : (hd tb.data.toList).2 = n) :
    ub.data.toList ++ filtB p (tb.extract n tb.size).data.toList = K := by
  rw [extract_tail, ← he, filtB_step p (l := tb.data.toList) (by rw [data_length]; exact h0), hn, hk]; rfl
theorem filt_yes {p : Nat → Bool} {tb ub : ByteArray} {K : List UInt8} (h0 : 0 < tb.size) (he : ub.data.toList ++ filtB p tb.data.toList = K) (hk : filtI p (hdItem tb.data.toList) = true) {n : Nat} (hn : (hd tb.data.toList).2 = n) :
    (ub ++ tb.extract 0 n).data.toList ++ filtB p (tb.extract n tb.size).data.toList = K := by
  rw [append_list, extract_head, extract_tail, ← he, filtB_step p (l := tb.data.toList) (by rw [data_length]; exact h0), hn, hk, if_pos rfl, List.append_assoc]
theorem woP_no {o r : Nat} (h : ¬ (r ≠ 0 ∧ r ≠ 65279 ∧ r ≠ o)) : woP o r = false := by
  cases hk : woP o r with
  | false => rfl
  | true =>
    unfold woP at hk
    simp only [Bool.and_eq_true, bne_iff_ne] at hk
    exact absurd ⟨hk.1.1, hk.1.2, hk.2⟩ h
theorem woP_yes {o r : Nat} (h : r ≠ 0 ∧ r ≠ 65279 ∧ r ≠ o) : woP o r = true := by
  unfold woP
  rw [bne_iff_ne.2 h.1, bne_iff_ne.2 h.2.1, bne_iff_ne.2 h.2.2]; rfl
set_option maxRecDepth 100000 in
set_option maxHeartbeats 1600000 in
theorem without_spec (w : World) (s : ByteArray) (o : Nat) (q : Int) (hq : q = (o : Int)) (hq2 : 0 ≤ q ∧ q ≤ 1114111) (hs : s.size ≤ 140737488351232) :
    Calls Tryd.prog 82 #[.string s, .int .i32 q] w fun e w' => e = .returned (.string ⟨(filtB (woP o) s.data.toList).toArray⟩) ∧ (filtB (woP o) s.data.toList).length ≤ s.size ∧ Below w.heap.size w w' := by
  have HQ := Lib.hid hq
  clear hq
  go_enter Tryd.func82, Tryd.ntmps82
  go_wp2_with (fail)
  go_loopg [0, 5] s.size (fun kk t u wr => ∃ tb ub : ByteArray, tb.size = kk ∧ t = .string tb ∧ u = .string ub ∧ ub.data.toList ++ filtB (woP o) tb.data.toList = filtB (woP o) s.data.toList ∧ ub.size + tb.size ≤ s.size ∧ Below w.heap.size w wr)
  case atStart => exact ⟨s, ⟨#[]⟩, rfl, rfl, rfl, by simp, by show 0 + s.size ≤ s.size; omega, Below.refl _ _⟩
  case round =>
    obtain ⟨tb, ub, rfl, rfl, rfl, he, hsz, hb⟩ := hrel
    have HH := Lib.hid (And.intro he (And.intro hsz hb))
    clear he hsz hb
    have hlen : tb.data.toList.length = tb.size := data_length tb
    by_cases h0 : 0 < tb.size
    · have kb := fun W => print_bytes (P := Tryd.prog) 9 22 5 Tryd.underlying9 Tryd.underlying22 Tryd.underlying5 tb W
      have hkd := bytes_kd wr tb (by have := HH.out.2.1; omega)
      have hbb := bytesWorld_below wr 5 tb
      have hdec := dec_spec (bytesWorld wr 5 tb) (some ⟨wr.heap.size, 0, none⟩) (grownCap wr tb.size 0 5) tb.data.toList (by rw [hlen]; exact hkd) (by rw [hlen]; exact grownCap_ge _ _ _ _) (by omega)
      rw [hlen] at hdec
      have HD := Lib.hid (And.intro hdec (And.intro hbb hlen))
      clear hkd hbb hdec hlen
      have hl := tb.data.toList
      by_cases hbad : (hdItem tb.data.toList).bad = true
      · have e0 : specDec tb.data.toList = (0, 0) := by unfold specDec; rw [if_pos hbad]
        go_wp2_with (go_at_call 37; refine (HD.out.1).mono ?_; rw [e0]; rintro e w1 ⟨rfl, hb1⟩; have HB := Lib.hid hb1; clear hb1)
        have hB : Below w.heap.size w w1 := HH.out.2.2.trans ((HD.out.2.1.trans (HB.out.mono HD.out.2.1.size)).mono HH.out.2.2.size)
        have hn1 : (hd tb.data.toList).2 = 1 := by
          rw [bad_of (by rw [data_length]; exact h0)] at hbad; simp at hbad; exact hbad.2
        have hk : filtI (woP o) (hdItem tb.data.toList) = false := by unfold filtI; rw [hbad]; rfl
        go_roundg (tb.size - 1)
        case measure => omega
        case rel =>
          exact ⟨tb.extract 1 tb.size, ub, extract_size' _ _ _ (Nat.le_refl _), rfl, rfl, filt_no h0 HH.out.1 hk hn1, by rw [extract_size' _ _ _ (Nat.le_refl _)]; have := HH.out.2.1; omega, hB⟩
      · have e0 : specDec tb.data.toList = hd tb.data.toList := by unfold specDec; rw [if_neg hbad]
        have hl1 := HD.out.2.2
        have hn1 := hd_pos tb.data.toList
        have hn2 := hd_le (l := tb.data.toList) (by omega)
        have hr := hd_rune tb.data.toList
        rw [hl1] at hn2
        have hkI : filtI (woP o) (hdItem tb.data.toList) = woP o (hd tb.data.toList).1 := by
          unfold filtI; rw [Bool.eq_false_iff.2 hbad]; rfl
        have HK := Lib.hid (And.intro hl1 (And.intro hn1 (And.intro hn2 hkI)))
        generalize hp : hd tb.data.toList = p at *
        obtain ⟨r, n⟩ := p
        simp only at *
        have HP := Lib.hid hp
        clear hp hl1 hkI hl
        have HE := Lib.hid e0
        clear e0
        have hub : ub.size + n ≤ 9223372036854775807 := by have := HH.out.2.1; omega
        go_wp2_with (first | (go_at_call 37; refine (HD.out.1).mono ?_; rw [HE.out]; rintro e w1 ⟨rfl, hb1⟩; have HB := Lib.hid hb1; clear hb1))
        all_goals
          have hB : Below w.heap.size w w1 := HH.out.2.2.trans ((HD.out.2.1.trans (HB.out.mono HD.out.2.1.size)).mono HH.out.2.2.size)
          go_roundg (tb.size - n)
          case measure => omega
          case rel =>
            have q1 := HH.out.2.1
            have q2 := HK.out.2.2.1
            have q3 := HQ.out
            rename_i hlast
            try simp only [Bool.and_eq_true, Bool.or_eq_true, bne_iff_ne, bne_eq_false_iff_eq, ne_eq] at hlast
            first
              | exact ⟨tb.extract n tb.size, ub, extract_size' _ _ _ (Nat.le_refl _), rfl, rfl, filt_no h0 HH.out.1 (by rw [HK.out.2.2.2]; exact woP_no (by omega)) (by rw [HP.out]), by rw [extract_size' _ _ _ (Nat.le_refl _)]; omega, hB⟩
              | exact ⟨tb.extract n tb.size, ub ++ tb.extract 0 n, extract_size' _ _ _ (Nat.le_refl _), rfl, rfl, filt_yes h0 HH.out.1 (by rw [HK.out.2.2.2]; exact woP_yes (by omega)) (by rw [HP.out]), by rw [extract_size' _ _ _ (Nat.le_refl _), ByteArray.size_append, extract_size' _ _ _ HK.out.2.2.1]; omega, hB⟩
    · go_wp2_with (fail)
      go_ret
      obtain ⟨he, hsz, hb⟩ := HH.out
      have : tb.data.toList = [] := List.eq_nil_of_length_eq_zero (by rw [data_length]; omega)
      rw [this, filtB_nil, List.append_nil] at he
      exact ⟨by show Ending.returned (.string ub) = _; rw [← he], by rw [← he, data_length]; omega, hb⟩
theorem isE (s : ByteArray) : s.toList.isEmpty = decide (s.data.toList = []) := by
  rw [← decide_eq_emptyBytes]
  by_cases h : s = ByteArray.empty
  · rw [decide_eq_true h, decide_eq_true (by rw [h]; rfl)]
  · rw [decide_eq_false h, decide_eq_false]
    intro h1
    apply h
    cases s with
    | mk d =>
      have : d = #[] := by simpa using h1
      rw [this]; rfl
set_option maxRecDepth 100000 in
set_option maxHeartbeats 1600000 in
theorem letters_spec (w : World) (s : ByteArray) (U : Uni w.heap.size w) (hs : s.size ≤ 140737488351232) :
    Calls Tryd.prog 83 #[.string s] w fun e w' => e = .returned (.string ⟨(bytesOf (letters s.data.toList)).toArray⟩) ∧ (bytesOf (letters s.data.toList)).length ≤ s.size + 1 ∧ Below w.heap.size w w' := by
  have HU := Lib.hid U
  clear U
  go_enter Tryd.func83, Tryd.ntmps83
  go_wp2_with (fail)
  go_loopg [0, 3] s.size (fun kk t u wr => ∃ tb ub : ByteArray, tb.size = kk ∧ t = .string tb ∧ u = .string ub ∧ ub.data.toList ++ filtB letP tb.data.toList = filtB letP s.data.toList ∧ ub.size + tb.size ≤ s.size ∧ Below w.heap.size w wr)
  case atStart => exact ⟨s, ⟨#[]⟩, rfl, rfl, rfl, by simp, by show 0 + s.size ≤ s.size; omega, Below.refl _ _⟩
  case round =>
    obtain ⟨tb, ub, rfl, rfl, rfl, he, hsz, hb⟩ := hrel
    have HH := Lib.hid (And.intro he (And.intro hsz hb))
    clear he hsz hb
    have hlen : tb.data.toList.length = tb.size := data_length tb
    by_cases h0 : 0 < tb.size
    · have kb := fun W => print_bytes (P := Tryd.prog) 9 22 5 Tryd.underlying9 Tryd.underlying22 Tryd.underlying5 tb W
      have hkd := bytes_kd wr tb (by have := HH.out.2.1; omega)
      have hbb := bytesWorld_below wr 5 tb
      have hdec := dec_spec (bytesWorld wr 5 tb) (some ⟨wr.heap.size, 0, none⟩) (grownCap wr tb.size 0 5) tb.data.toList (by rw [hlen]; exact hkd) (by rw [hlen]; exact grownCap_ge _ _ _ _) (by omega)
      rw [hlen] at hdec
      have HD := Lib.hid (And.intro hdec (And.intro hbb hlen))
      clear hkd hbb hdec hlen
      have hl := tb.data.toList
      by_cases hbad : (hdItem tb.data.toList).bad = true
      · have e0 : specDec tb.data.toList = (0, 0) := by unfold specDec; rw [if_pos hbad]
        go_wp2_with (go_at_call 37; refine (HD.out.1).mono ?_; rw [e0]; rintro e w1 ⟨rfl, hb1⟩; have HB := Lib.hid hb1; clear hb1)
        have hB : Below w.heap.size w w1 := HH.out.2.2.trans ((HD.out.2.1.trans (HB.out.mono HD.out.2.1.size)).mono HH.out.2.2.size)
        have hn1 : (hd tb.data.toList).2 = 1 := by
          rw [bad_of (by rw [data_length]; exact h0)] at hbad; simp at hbad; exact hbad.2
        have hk : filtI letP (hdItem tb.data.toList) = false := by unfold filtI; rw [hbad]; rfl
        go_roundg (tb.size - 1)
        case measure => omega
        case rel =>
          exact ⟨tb.extract 1 tb.size, ub, extract_size' _ _ _ (Nat.le_refl _), rfl, rfl, filt_no h0 HH.out.1 hk hn1, by rw [extract_size' _ _ _ (Nat.le_refl _)]; have := HH.out.2.1; omega, hB⟩
      · have e0 : specDec tb.data.toList = hd tb.data.toList := by unfold specDec; rw [if_neg hbad]
        have hl1 := HD.out.2.2
        have hn1 := hd_pos tb.data.toList
        have hn2 := hd_le (l := tb.data.toList) (by omega)
        have hr := hd_rune tb.data.toList
        rw [hl1] at hn2
        have hkI : filtI letP (hdItem tb.data.toList) = letP (hd tb.data.toList).1 := by
          unfold filtI; rw [Bool.eq_false_iff.2 hbad]; rfl
        have HK := Lib.hid (And.intro hl1 (And.intro hn1 (And.intro hn2 hkI)))
        generalize hp : hd tb.data.toList = p at *
        obtain ⟨r, n⟩ := p
        simp only at *
        have HP := Lib.hid hp
        clear hp hl1 hkI hl
        have HE := Lib.hid e0
        clear e0
        have hub : ub.size + n ≤ 9223372036854775807 := by have := HH.out.2.1; omega
        have HR := Lib.hid hr
        obtain ⟨bd, hbd⟩ : ∃ b, isLet (r : Int) = b := ⟨_, rfl⟩
        have HBD := Lib.hid hbd
        clear hbd
        cases bd with
        | true =>
          go_wp2_with (first | (go_at_call 37; refine (HD.out.1).mono ?_; rw [HE.out]; rintro e w1 ⟨rfl, hb1⟩; have HB := Lib.hid hb1; clear hb1) | (go_at_call 85; have hB1 : Below w.heap.size w w1 := HH.out.2.2.trans ((HD.out.2.1.trans (HB.out.mono HD.out.2.1.size)).mono HH.out.2.2.size); have HB1 := Lib.hid hB1; clear hB1; refine (isLet_spec _ _ (by have := HR.out; omega) (HU.out.at_ HB1.out HB1.out.size)).mono ?_; rw [HBD.out]; rintro e w2 ⟨rfl, hb2⟩; have HB2 := Lib.hid hb2; clear hb2))
          have hB : Below w.heap.size w w2 := HB1.out.trans (HB2.out.mono HB1.out.size)
          go_roundg (tb.size - n)
          case measure => omega
          case rel =>
            exact ⟨tb.extract n tb.size, ub ++ tb.extract 0 n, extract_size' _ _ _ (Nat.le_refl _), rfl, rfl, filt_yes h0 HH.out.1 (by rw [HK.out.2.2.2]; exact HBD.out) (by rw [HP.out]), by rw [extract_size' _ _ _ (Nat.le_refl _), ByteArray.size_append, extract_size' _ _ _ HK.out.2.2.1]; have := HH.out.2.1; have := HK.out.2.2.1; omega, hB⟩
        | false =>
          go_wp2_with (first | (go_at_call 37; refine (HD.out.1).mono ?_; rw [HE.out]; rintro e w1 ⟨rfl, hb1⟩; have HB := Lib.hid hb1; clear hb1) | (go_at_call 85; have hB1 : Below w.heap.size w w1 := HH.out.2.2.trans ((HD.out.2.1.trans (HB.out.mono HD.out.2.1.size)).mono HH.out.2.2.size); have HB1 := Lib.hid hB1; clear hB1; refine (isLet_spec _ _ (by have := HR.out; omega) (HU.out.at_ HB1.out HB1.out.size)).mono ?_; rw [HBD.out]; rintro e w2 ⟨rfl, hb2⟩; have HB2 := Lib.hid hb2; clear hb2))
          have hB : Below w.heap.size w w2 := HB1.out.trans (HB2.out.mono HB1.out.size)
          go_roundg (tb.size - n)
          case measure => omega
          case rel =>
            exact ⟨tb.extract n tb.size, ub, extract_size' _ _ _ (Nat.le_refl _), rfl, rfl, filt_no h0 HH.out.1 (by rw [HK.out.2.2.2]; exact HBD.out) (by rw [HP.out]), by rw [extract_size' _ _ _ (Nat.le_refl _)]; have := HH.out.2.1; have := HK.out.2.2.1; omega, hB⟩
    · obtain ⟨he, hsz, hb⟩ := HH.out
      have h1 : tb.data.toList = [] := List.eq_nil_of_length_eq_zero (by rw [data_length]; omega)
      rw [h1, filtB_nil, List.append_nil] at he
      have HF := Lib.hid (And.intro he (And.intro (show ub.size ≤ s.size by omega) hb))
      clear he hb HH
      have hE := isE ub
      by_cases hu : ub.data.toList = []
      · rw [decide_eq_true hu] at hE
        go_wp2_with (fail)
        go_ret
        have h2 : filt letP s.data.toList = [] := by
          have h3 : filtB letP s.data.toList = [] := HF.out.1.symm.trans hu
          unfold filtB at h3
          cases h4 : filt letP s.data.toList with
          | nil => rfl
          | cons c cs =>
            rw [h4, bytesOf_cons] at h3
            have hm : c ∈ filt letP s.data.toList := by rw [h4]; exact List.mem_cons_self
            unfold filt at hm
            obtain ⟨l', h0', hc⟩ := items_mem c (List.mem_filter.1 hm).1
            have h5 : c.bs = [] := (List.append_eq_nil_iff.1 h3).1
            have h6 := hd_pos l'
            have h7 := hdItem_n h0'
            rw [← hc] at h7
            unfold Item.n at h7
            rw [h5] at h7
            simp only [List.length_nil] at h7
            omega
        refine ⟨?_, ?_, HF.out.2.2⟩
        all_goals unfold letters
        · rw [if_pos h2]; rfl
        · rw [if_pos h2]; show 1 ≤ _; omega
      · rw [decide_eq_false hu] at hE
        go_wp2_with (fail)
        go_ret
        have h2 : ¬ filt letP s.data.toList = [] := fun h3 => hu (by
          have h4 : ub.data.toList = filtB letP s.data.toList := HF.out.1
          unfold filtB at h4
          rw [h3] at h4
          exact h4)
        refine ⟨?_, ?_, HF.out.2.2⟩
        all_goals unfold letters
        all_goals rw [if_neg h2]
        · show Ending.returned (.string ub) = _
          rw [show bytesOf (filt letP s.data.toList) = ub.data.toList from HF.out.1.symm]
        · rw [show bytesOf (filt letP s.data.toList) = ub.data.toList from HF.out.1.symm, data_length]
          have := HF.out.2.1; omega
end Go.Proofs.YtmfihkgbfoapaaaDoor
namespace Go.Proofs.YtmfihkgbfoapaaaDoor
set_option linter.unusedVariables false
set_option linter.unusedSimpArgs false
open Go Go.RowKit Go.Lib Go.BigFrame Go.Proofs.YtmfihkgbfoapaaaDoorW.PrintWords
def hexS : ByteArray := ⟨#[48, 49, 50, 51, 52, 53, 54, 55, 56, 57, 97, 98, 99, 100, 101, 102]⟩
theorem hex_tab : ((List.range 16).all fun i => (hexS.extract i (i + 1)).data.toList == [dgB i]) = true := by kernel_rfl
theorem hex_at {i : Nat} (h : i < 16) : (hexS.extract i (i + 1)).data.toList = [dgB i] := by
  have := List.all_eq_true.1 hex_tab i (List.mem_range.2 h)
  simpa using this
theorem base_lt {b m k : Nat} (hb : 2 ≤ b) (h : m < 2 ^ (k + 1)) : m / b < 2 ^ k := by
  rw [Nat.div_lt_iff_lt_mul (by omega)]
  have : 2 ^ (k + 1) = 2 ^ k * 2 := Nat.pow_succ ..
  have h2 : 2 ^ k * 2 ≤ 2 ^ k * b := Nat.mul_le_mul_left _ hb
  omega
theorem base_pos {b m k : Nat} (h : ¬ m / b = 0) (hlt : m / b < 2 ^ k) : 0 < k := by
  cases k with
  | zero => exact absurd (by simpa using hlt) h
  | succ k => omega
theorem baseF_succ (b : Nat) (mark : Bool) (f n : Nat) : baseF b mark (f + 1) n = if n / b = 0 then [dgB (n % b)] else baseF b mark f (n / b) ++ ((if mark = true then [95] else []) ++ [dgB (n % b)]) := rfl
set_option maxRecDepth 100000 in
set_option maxHeartbeats 1600000 in
theorem base_spec (w : World) (x q : Int) (n b : Nat) (mark : Bool) (hx : x = (n : Int)) (hn : n < 2 ^ 64) (hq : q = (b : Int)) (hb : 2 ≤ b ∧ b ≤ 16) :
    Calls Tryd.prog 80 #[.int .u64 x, .int .i64 q, .bool mark] w fun e w' => e = .returned (.string ⟨(baseL b mark n).toArray⟩) ∧ Below w.heap.size w w' := by
  have hq2 : 2 ≤ q ∧ q ≤ 16 := by omega
  have HQ := Lib.hid (And.intro hq (And.intro hb hn))
  have hx0 : ∃ m : Nat, x = m ∧ m < 2 ^ 64 := ⟨n, hx, hn⟩
  clear hq hb
  have hbase : baseF b mark 64 n = baseL b mark n := rfl
  have HX := Lib.hid (And.intro hx hbase)
  clear hx hbase hx0 hn
  go_enter Tryd.func80, Tryd.ntmps80
  go_wp2_with (fail)
  go_loopg [0, 7] 64 (fun kk t u wr => ∃ (y : Int) (m : Nat) (ub : ByteArray), t = .int .u64 y ∧ u = .string ub ∧ y = (m : Int) ∧ m < 2 ^ kk ∧ 0 < kk ∧ kk ≤ 64 ∧ baseF b mark kk m ++ ub.data.toList = baseL b mark n ∧ ub.size ≤ 2 * (64 - kk) ∧ Below w.heap.size w wr)
  case atStart => exact ⟨x, n, ⟨#[]⟩, rfl, rfl, HX.out.1, HQ.out.2.2, by decide, by decide, by rw [HX.out.2]; simp, by show 0 ≤ _; omega, Below.refl _ _⟩
  case round =>
    obtain ⟨y, m, ub, rfl, rfl, hy, hm, hk0, hk1, he, hsz, hb⟩ := hrel
    have h64 : m < 18446744073709551616 := Nat.lt_of_lt_of_le hm (by rw [show (18446744073709551616 : Nat) = 2 ^ 64 by decide]; exact Nat.pow_le_pow_right (by decide) hk1)
    have hy2 : 0 ≤ y ∧ y ≤ 18446744073709551615 := by omega
    have HH := Lib.hid (And.intro hy (And.intro hm (And.intro he (And.intro hsz hb))))
    clear hy hm he hsz hb
    have hr0 : 0 ≤ y % q := Int.emod_nonneg _ (by omega)
    have hr1 : y % q < q := Int.emod_lt_of_pos _ (by omega)
    go_wp2_with (fail)
    refine wp_region_quiet_lit (by kernel_rfl) (by kernel_rfl) ?_
    repeat (go_big_quiet_step (fail))
    obtain ⟨ds, hds⟩ : ∃ ds, (ByteArray.mk #[48, 49, 50, 51, 52, 53, 54, 55, 56, 57, 97, 98, 99, 100, 101, 102]).extract (y % q).toNat (y % q + 1).toNat = ds := ⟨_, rfl⟩
    rw [hds]
    have hmb : (y % q).toNat = m % b := by rw [HH.out.1, HQ.out.1]; omega
    have hd1 : ds.data.toList = [dgB (m % b)] := by
      rw [← hds, show (y % q + 1).toNat = (y % q).toNat + 1 by omega, hmb]
      exact hex_at (by have := Nat.mod_lt m (show b > 0 by have := HQ.out.2.1; omega); have := HQ.out.2.1; omega)
    have hd2 : ds.size = 1 := by rw [← data_length, hd1]; rfl
    have hub : ub.size ≤ 128 := by have := HH.out.2.2.2.1; omega
    have hyq : (y / q) = ((m / b : Nat) : Int) := by rw [HH.out.1, HQ.out.1]; exact (Int.natCast_ediv m b).symm
    have hyq2 : 0 ≤ y / q ∧ y / q ≤ 18446744073709551615 := by rw [hyq]; have := Nat.div_le_self m b; generalize m / b = z at *; omega
    have HD := Lib.hid (And.intro hds (And.intro hmb (And.intro hd1 hyq)))
    clear hds hmb hd1 hyq
    repeat (go_big_quiet_step (fail))
    refine wpQuiet_nil ?_
    intro _ hw'
    obtain ⟨nq, hw''⟩ := hw'
    subst hw''
    have HB := Lib.hid (show Below w.heap.size w (wr.drewN nq) from ⟨HH.out.2.2.2.2.os, HH.out.2.2.2.2.tape, HH.out.2.2.2.2.output, HH.out.2.2.2.2.size, HH.out.2.2.2.2.block⟩)
    generalize wr.drewN nq = wz at HB ⊢
    obtain ⟨k, rfl⟩ : ∃ k, gk = k + 1 := ⟨gk - 1, by omega⟩
    have hs := baseF_succ b mark k m
    by_cases hz : y / q = 0
    · have hm0 : m / b = 0 := by have := HD.out.2.2.2; omega
      rw [if_pos hm0] at hs
      have HS := Lib.hid hs
      clear hs
      go_wp2_with (fail)
      go_ret
      refine ⟨?_, HB.out⟩
      show Ending.returned (.string (ds ++ ub)) = _
      rw [← HH.out.2.2.1, HS.out, ← HD.out.2.2.1, ← append_list]
    · have hzb : (y / q == 0) = false := by simpa using hz
      have hm0 : ¬ m / b = 0 := by have := HD.out.2.2.2; omega
      rw [if_neg hm0] at hs
      have hlt := base_lt (HQ.out.2.1).1 HH.out.2.1
      have hkp := base_pos hm0 hlt
      have HS := Lib.hid (And.intro hs (And.intro hlt hkp))
      clear hs hlt hkp hm0
      cases mark with
      | true =>
        go_wp2_with (fail)
        go_roundg k
        case measure => omega
        case rel =>
          refine ⟨y / q, m / b, _, rfl, rfl, HD.out.2.2.2, HS.out.2.1, HS.out.2.2, by omega, ?_, ?_, HB.out⟩
          · rw [append_list, append_list, HD.out.2.2.1, ← HH.out.2.2.1, HS.out.1]; simp
          · have := HH.out.2.2.2.1
            rw [ByteArray.size_append, ByteArray.size_append, hd2]
            show 1 + _ ≤ _
            omega
      | false =>
        go_wp2_with (fail)
        go_roundg k
        case measure => omega
        case rel =>
          refine ⟨y / q, m / b, _, rfl, rfl, HD.out.2.2.2, HS.out.2.1, HS.out.2.2, by omega, ?_, ?_, HB.out⟩
          · rw [append_list, HD.out.2.2.1, ← HH.out.2.2.1, HS.out.1]; simp
          · have := HH.out.2.2.2.1
            rw [ByteArray.size_append, hd2]
            omega
end Go.Proofs.YtmfihkgbfoapaaaDoor
