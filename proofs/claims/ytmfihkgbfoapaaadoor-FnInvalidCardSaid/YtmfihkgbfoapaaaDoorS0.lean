/- spec.Fit: what a setup keeps. -/
import Derived.Test.YtmfihkgbfoapaaaDoorQ0
import Derived.Test.YtmfihkgbfoapaaaDoorD1
import Derived.Lib.ConvBytes
import Derived.LoopTactic
namespace Go.Proofs.YtmfihkgbfoapaaaDoor
set_option linter.unusedVariables false
set_option linter.unusedSimpArgs false
open Go Go.RowKit Go.Lib Go.BigFrame Go.Proofs.YtmfihkgbfoapaaaDoorW.PrintWords

theorem Drawn0.below {w w' : World} (h : Drawn0 w w') (n : Nat) : Below n w w' := by
  obtain ⟨k, rfl⟩ := h.out
  exact pw_below_drewN (Below.refl _ _) _
theorem dec_spec (w : World) (A : Option Addr) (c : Nat) (l : List UInt8) (hr : Kd.C (Kd.int .u8) w A l.length (ints l)) (hc : l.length ≤ c) (h : 0 < l.length) :
    Calls Tryd.prog 37 #[.slice A l.length c] w fun e w' => e = .returned (.tuple #[.int .i32 ((specDec l).1 : Nat), .int .i64 ((specDec l).2 : Nat)]) ∧ Below w.heap.size w w' := by
  have := K.spec_decode.calls 20 A c (ints l) ((specDec l).1 : Nat) ((specDec l).2 : Nat) w (by rw [ints_length]; exact hr) (by rw [ints_length]; exact hc) (dec_val 20 l h (by decide))
  rw [ints_length] at this
  exact this.mono fun e w' ⟨h1, h2⟩ => ⟨h1, Drawn0.below h2 _⟩
theorem bytes_kd (W : World) (s : ByteArray) (hs : s.size ≤ 9223372036854775807) : Kd.C (Kd.int .u8) (bytesWorld W 5 s) (some ⟨W.heap.size, 0, none⟩) s.size (ints s.data.toList) :=
  Kd.C_of_reads (readsInt_of.1 (bytes_reads W 5 s hs))
theorem bytesWorld_below (W : World) (e : TypeId) (s : ByteArray) : Below W.heap.size W (bytesWorld W e s) := bytes_below (Below.refl _ _) (Nat.le_refl _) e s

def keepCh (d : Bool) (r : Int) : Bool := decide (32 < r) && r != 34 && r != 39 && r != 96 && r != 46 && r != 47 && r != 65279 && (d || !isDec r)
def keepI (d : Bool) (c : Item) : Bool := !c.bad && keepCh d c.r
/-- A text without what may not stand in identifiers. -/
def keepL (d : Bool) (l : List UInt8) : List UInt8 := YtmfihkgbfoapaaaDoor.bytesOf ((items l).filter (keepI d))
theorem keepL_nil (d : Bool) : keepL d [] = [] := by unfold keepL; rw [items_nil]; rfl
theorem keepL_step (d : Bool) {l : List UInt8} (h : 0 < l.length) : keepL d l = (if keepI d (hdItem l) = true then l.take (hd l).2 else []) ++ keepL d (l.drop (hd l).2) := by
  unfold keepL
  rw [items_cons h, List.filter_cons]
  split
  · rw [bytesOf_cons]; rfl
  · rfl
theorem isDec_yes {c : Int} (h : 48 ≤ c ∧ c ≤ 57) : isDec c = true := by unfold isDec; rw [decide_eq_true h.1, decide_eq_true h.2]; rfl
theorem isDec_no {c : Int} (h : ¬ (48 ≤ c ∧ c ≤ 57)) : isDec c = false := by
  unfold isDec; by_cases h1 : 48 ≤ c
  · rw [decide_eq_false (p := c ≤ 57) (by omega)]; simp
  · rw [decide_eq_false h1]; rfl
def keepOk (r : Int) : Prop := 32 < r ∧ r ≠ 34 ∧ r ≠ 39 ∧ r ≠ 96 ∧ r ≠ 46 ∧ r ≠ 47 ∧ r ≠ 65279
theorem keepCh_ok {d : Bool} {r : Int} (h : keepOk r) : keepCh d r = (d || !isDec r) := by
  obtain ⟨h1, h2, h3, h4, h5, h6, h7⟩ := h
  unfold keepCh
  rw [decide_eq_true h1, bne_iff_ne.2 h2, bne_iff_ne.2 h3, bne_iff_ne.2 h4, bne_iff_ne.2 h5, bne_iff_ne.2 h6, bne_iff_ne.2 h7]; rfl
theorem keepCh_bad {d : Bool} {r : Int} (h : ¬ keepOk r) : keepCh d r = false := by
  cases hk : keepCh d r with
  | false => rfl
  | true =>
    unfold keepCh at hk
    simp only [Bool.and_eq_true, decide_eq_true_eq, bne_iff_ne] at hk
    exact absurd ⟨hk.1.1.1.1.1.1.1, hk.1.1.1.1.1.1.2, hk.1.1.1.1.1.2, hk.1.1.1.1.2, hk.1.1.1.2, hk.1.1.2, hk.1.2⟩ h
theorem digit_spec (w : World) (c : Int) : Calls Tryd.prog 38 #[.int .i32 c] w fun e w' => e = .returned (.bool (isDec c)) ∧ w = w' := by
  obtain ⟨b, hb⟩ : ∃ b, isDec c = b := ⟨_, rfl⟩
  have HB := Lib.hid hb
  rw [hb]
  clear hb
  go_enter Tryd.func38, Tryd.ntmps38
  by_cases h1 : 48 ≤ c
  · by_cases h2 : c ≤ 57
    · go_wp2_with (fail)
      go_ret
      exact ⟨by rw [← HB.out, isDec_yes (by omega)]; rfl, rfl⟩
    · go_wp2_with (fail)
      go_ret
      exact ⟨by rw [← HB.out, isDec_no (by omega)]; rfl, rfl⟩
  · go_wp2_with (fail)
    go_ret
    exact ⟨by rw [← HB.out, isDec_no (by omega)]; rfl, rfl⟩
theorem extract_list (s : ByteArray) (a b : Nat) : (s.extract a b).data.toList = (s.data.toList.take b).drop a := by
  simp [ByteArray.data_extract, List.drop_take]
theorem extract_size' (s : ByteArray) (a b : Nat) (h : b ≤ s.size) : (s.extract a b).size = b - a := by
  rw [← data_length, extract_list, List.length_drop, List.length_take, data_length]; omega
theorem append_list (a b : ByteArray) : (a ++ b).data.toList = a.data.toList ++ b.data.toList := by simp
theorem extract_head (s : ByteArray) (n : Nat) : (s.extract 0 n).data.toList = s.data.toList.take n := by rw [extract_list]; rfl
theorem extract_tail (s : ByteArray) (n : Nat) : (s.extract n s.size).data.toList = s.data.toList.drop n := by
  rw [extract_list, List.take_of_length_le (by rw [data_length]; exact Nat.le_refl _)]
theorem keep_no {d : Bool} {tb ub : ByteArray} {K : List UInt8} (h0 : 0 < tb.size) (he : ub.data.toList ++ keepL d tb.data.toList = K) (hk : keepI d (hdItem tb.data.toList) = false) {n : Nat} (hn : (hd tb.data.toList).2 = n) :
    ub.data.toList ++ keepL d (tb.extract n tb.size).data.toList = K := by
  rw [extract_tail, ← he, keepL_step d (l := tb.data.toList) (by rw [data_length]; exact h0), hn, hk]; rfl
theorem keep_yes {d : Bool} {tb ub : ByteArray} {K : List UInt8} (h0 : 0 < tb.size) (he : ub.data.toList ++ keepL d tb.data.toList = K) (hk : keepI d (hdItem tb.data.toList) = true) {n : Nat} (hn : (hd tb.data.toList).2 = n) :
    (ub ++ tb.extract 0 n).data.toList ++ keepL d (tb.extract n tb.size).data.toList = K := by
  rw [append_list, extract_head, extract_tail, ← he, keepL_step d (l := tb.data.toList) (by rw [data_length]; exact h0), hn, hk, if_pos rfl, List.append_assoc]
set_option maxRecDepth 100000 in
set_option maxHeartbeats 1600000 in
theorem keep_spec (w : World) (s : ByteArray) (d : Bool) (hs : s.size ≤ 140737488351232) :
    Calls Tryd.prog 36 #[.string s, .bool d] w fun e w' => e = .returned (.string ⟨(keepL d s.data.toList).toArray⟩) ∧ Below w.heap.size w w' := by
  go_enter Tryd.func36, Tryd.ntmps36
  go_wp2_with (fail)
  go_loopg [0, 5] s.size (fun kk t u wr => ∃ tb ub : ByteArray, tb.size = kk ∧ t = .string tb ∧ u = .string ub ∧ ub.data.toList ++ keepL d tb.data.toList = keepL d s.data.toList ∧ ub.size + tb.size ≤ s.size ∧ Below w.heap.size w wr)
  case atStart => exact ⟨s, ⟨#[]⟩, rfl, rfl, rfl, by simp, by show 0 + s.size ≤ s.size; omega, Below.refl _ _⟩
  case round =>
    obtain ⟨tb, ub, rfl, rfl, rfl, he, hsz, hb⟩ := hrel
    have HH := Lib.hid (And.intro he (And.intro hsz hb))
    clear he hsz hb
    have hlen : tb.data.toList.length = tb.size := data_length tb
    by_cases h0 : 0 < tb.size
    · have kb := fun W => print_bytes (P := Tryd.prog) 9 22 5 Tryd.underlying9 Tryd.underlying22 Tryd.underlying5 tb W
      have hkd := bytes_kd wr tb (by have := HH.out.2.1; omega)
      have hbb := bytesWorld_below wr 5 tb
      have hdec := dec_spec (bytesWorld wr 5 tb) (some ⟨wr.heap.size, 0, none⟩) (grownCap wr tb.size 0 5) tb.data.toList (by rw [hlen]; exact hkd) (by rw [hlen]; exact grownCap_ge _ _ _ _) (by omega)
      rw [hlen] at hdec
      have HD := Lib.hid (And.intro hdec (And.intro hbb hlen))
      clear hkd hbb hdec hlen
      have hl := tb.data.toList
      by_cases hbad : (hdItem tb.data.toList).bad = true
      · have e0 : specDec tb.data.toList = (0, 0) := by unfold specDec; rw [if_pos hbad]
        go_wp2_with (go_at_call 37; refine (HD.out.1).mono ?_; rw [e0]; rintro e w1 ⟨rfl, hb1⟩; have HB := Lib.hid hb1; clear hb1)
        have hB : Below w.heap.size w w1 := HH.out.2.2.trans ((HD.out.2.1.trans (HB.out.mono HD.out.2.1.size)).mono HH.out.2.2.size)
        have hn1 : (hd tb.data.toList).2 = 1 := by
          rw [bad_of (by rw [data_length]; exact h0)] at hbad; simp at hbad; exact hbad.2
        have hk : keepI d (hdItem tb.data.toList) = false := by unfold keepI; rw [hbad]; rfl
        go_roundg (tb.size - 1)
        case measure => omega
        case rel =>
          exact ⟨tb.extract 1 tb.size, ub, extract_size' _ _ _ (Nat.le_refl _), rfl, rfl, keep_no h0 HH.out.1 hk hn1, by rw [extract_size' _ _ _ (Nat.le_refl _)]; have := HH.out.2.1; omega, hB⟩
      · have e0 : specDec tb.data.toList = hd tb.data.toList := by unfold specDec; rw [if_neg hbad]
        have hl1 := HD.out.2.2
        have hn1 := hd_pos tb.data.toList
        have hn2 := hd_le (l := tb.data.toList) (by omega)
        have hr := hd_rune tb.data.toList
        rw [hl1] at hn2
        have hkI : keepI d (hdItem tb.data.toList) = keepCh d (hd tb.data.toList).1 := by
          unfold keepI; rw [Bool.eq_false_iff.2 hbad]; rfl
        have HK := Lib.hid (And.intro hl1 (And.intro hn1 (And.intro hn2 hkI)))
        generalize hp : hd tb.data.toList = p at *
        obtain ⟨r, n⟩ := p
        simp only at *
        have HP := Lib.hid hp
        clear hp hl1 hkI hl
        have HE := Lib.hid e0
        clear e0
        have hub : ub.size + n ≤ 9223372036854775807 := by have := HH.out.2.1; omega
        by_cases hg : keepOk r
        · obtain ⟨g1, g2, g3, g4, g5, g6, g7⟩ := hg
          have HG := Lib.hid (show keepOk r from ⟨g1, g2, g3, g4, g5, g6, g7⟩)
          have b2 := bne_iff_ne.2 g2
          have b3 := bne_iff_ne.2 g3
          have b4 := bne_iff_ne.2 g4
          have b5 := bne_iff_ne.2 g5
          have b6 := bne_iff_ne.2 g6
          have b7 := bne_iff_ne.2 g7
          clear g2 g3 g4 g5 g6 g7
          cases d with
          | true =>
            go_wp2_with (first | (go_at_call 37; refine (HD.out.1).mono ?_; rw [HE.out]; rintro e w1 ⟨rfl, hb1⟩; have HB := Lib.hid hb1; clear hb1))
            go_roundg (tb.size - n)
            case measure => omega
            case rel =>
              have hB : Below w.heap.size w w1 := HH.out.2.2.trans ((HD.out.2.1.trans (HB.out.mono HD.out.2.1.size)).mono HH.out.2.2.size)
              exact ⟨tb.extract n tb.size, ub ++ tb.extract 0 n, extract_size' _ _ _ (Nat.le_refl _), rfl, rfl, keep_yes h0 HH.out.1 (by rw [HK.out.2.2.2, keepCh_ok HG.out]; rfl) (by rw [HP.out]), by rw [extract_size' _ _ _ (Nat.le_refl _), ByteArray.size_append, extract_size' _ _ _ HK.out.2.2.1]; have := HH.out.2.1; have := HK.out.2.2.1; omega, hB⟩
          | false =>
            obtain ⟨bd, hbd⟩ : ∃ b, isDec r = b := ⟨_, rfl⟩
            have HBD := Lib.hid hbd
            clear hbd
            cases bd with
            | true =>
              go_wp2_with (first | (go_at_call 37; refine (HD.out.1).mono ?_; rw [HE.out]; rintro e w1 ⟨rfl, hb1⟩; have HB := Lib.hid hb1; clear hb1) | (go_at_call 38; refine (digit_spec _ _).mono ?_; rw [HBD.out]; rintro e w2 ⟨rfl, rfl⟩))
              go_roundg (tb.size - n)
              case measure => omega
              case rel =>
                have hB : Below w.heap.size w w1 := HH.out.2.2.trans ((HD.out.2.1.trans (HB.out.mono HD.out.2.1.size)).mono HH.out.2.2.size)
                exact ⟨tb.extract n tb.size, ub, extract_size' _ _ _ (Nat.le_refl _), rfl, rfl, keep_no h0 HH.out.1 (by rw [HK.out.2.2.2]; rw [keepCh_ok HG.out, HBD.out]; rfl) (by rw [HP.out]), by rw [extract_size' _ _ _ (Nat.le_refl _)]; have := HH.out.2.1; have := HK.out.2.2.1; omega, hB⟩
            | false =>
              go_wp2_with (first | (go_at_call 37; refine (HD.out.1).mono ?_; rw [HE.out]; rintro e w1 ⟨rfl, hb1⟩; have HB := Lib.hid hb1; clear hb1) | (go_at_call 38; refine (digit_spec _ _).mono ?_; rw [HBD.out]; rintro e w2 ⟨rfl, rfl⟩))
              go_roundg (tb.size - n)
              case measure => omega
              case rel =>
                have hB : Below w.heap.size w w1 := HH.out.2.2.trans ((HD.out.2.1.trans (HB.out.mono HD.out.2.1.size)).mono HH.out.2.2.size)
                exact ⟨tb.extract n tb.size, ub ++ tb.extract 0 n, extract_size' _ _ _ (Nat.le_refl _), rfl, rfl, keep_yes h0 HH.out.1 (by rw [HK.out.2.2.2, keepCh_ok HG.out]; rw [HBD.out]; rfl) (by rw [HP.out]), by rw [extract_size' _ _ _ (Nat.le_refl _), ByteArray.size_append, extract_size' _ _ _ HK.out.2.2.1]; have := HH.out.2.1; have := HK.out.2.2.1; omega, hB⟩
        · go_wp2_with (first | (go_at_call 37; refine (HD.out.1).mono ?_; rw [HE.out]; rintro e w1 ⟨rfl, hb1⟩; have HB := Lib.hid hb1; clear hb1))
          all_goals first
            | exact absurd (show keepOk r from ⟨by omega, by omega, by omega, by omega, by omega, by omega, by omega⟩) hg
            | skip
          all_goals
            go_roundg (tb.size - n)
            case measure => omega
            case rel =>
              have hB : Below w.heap.size w w1 := HH.out.2.2.trans ((HD.out.2.1.trans (HB.out.mono HD.out.2.1.size)).mono HH.out.2.2.size)
              exact ⟨tb.extract n tb.size, ub, extract_size' _ _ _ (Nat.le_refl _), rfl, rfl, keep_no h0 HH.out.1 (by rw [HK.out.2.2.2]; exact keepCh_bad hg) (by rw [HP.out]), by rw [extract_size' _ _ _ (Nat.le_refl _)]; have := HH.out.2.1; have := HK.out.2.2.1; omega, hB⟩
    · go_wp2_with (fail)
      go_ret
      obtain ⟨he, hsz, hb⟩ := HH.out
      have : tb.data.toList = [] := List.eq_nil_of_length_eq_zero (by rw [data_length]; omega)
      rw [this, keepL_nil, List.append_nil] at he
      exact ⟨by show Ending.returned (.string ub) = _; rw [← he], hb⟩
end Go.Proofs.YtmfihkgbfoapaaaDoor
