/- Own texts F3 of this claim, cut to what the claim uses. -/
import Derived.Test.YtmfihkgbfoapaaaDoorZF1
namespace Go.Proofs.YtmfihkgbfoapaaaDoor
set_option linter.unusedVariables false
set_option linter.unusedSimpArgs false
open Go Go.RowKit Go.Lib Go.BigFrame Go.Proofs.YtmfihkgbfoapaaaDoorW.PrintWords
def innB (q M : Nat) (l : List UInt8) : List UInt8 := YtmfihkgbfoapaaaDoor.bytesOf (inner q M l)
theorem innB_nil (q M : Nat) : innB q M [] = [] := by unfold innB inner; rw [items_nil, List.take_nil]; rfl
theorem innB_zero (q : Nat) (l : List UInt8) : innB q 0 l = [] := by unfold innB inner; rw [List.take_zero]; rfl
theorem bytesOf_app (a b : List Item) : YtmfihkgbfoapaaaDoor.bytesOf (a ++ b) = YtmfihkgbfoapaaaDoor.bytesOf a ++ YtmfihkgbfoapaaaDoor.bytesOf b := by
  unfold YtmfihkgbfoapaaaDoor.bytesOf; simp
theorem innB_step (q M : Nat) {l : List UInt8} (h : 0 < l.length) : innB q (M + 1) l = YtmfihkgbfoapaaaDoor.bytesOf (innI q (hdItem l)) ++ innB q M (l.drop (hd l).2) := by
  unfold innB inner
  rw [items_cons h, List.take_succ_cons, List.flatMap_cons, bytesOf_app]
theorem inn_next {q M : Nat} {tb ub vb : ByteArray} {K : List UInt8} (h0 : 0 < tb.size) (he : ub.data.toList ++ innB q (M + 1) tb.data.toList = K) {n : Nat} (hn : (hd tb.data.toList).2 = n) (hv : vb.data.toList = YtmfihkgbfoapaaaDoor.bytesOf (innI q (hdItem tb.data.toList))) :
    (ub ++ vb).data.toList ++ innB q M (tb.extract n tb.size).data.toList = K := by
  rw [append_list, extract_tail, ← he, innB_step q M (l := tb.data.toList) (by rw [data_length]; exact h0), hn, hv, List.append_assoc]
theorem pad_ext {k : Nat} {z b : ByteArray} (hz : z.data.toList = List.replicate k 48) (hb : b.size ≤ k) : ((z ++ b).extract b.size (k + b.size)).data.toList = padL k b.data.toList := by
  rw [show k + b.size = (z ++ b).size by rw [ByteArray.size_append, ← data_length z, hz, List.length_replicate]]
  rw [extract_tail, append_list, hz]
  unfold padL
  rw [List.drop_append_of_le_length (by rw [List.length_replicate]; exact hb), List.drop_replicate, data_length]
theorem inn_bytes {q : Nat} {l : List UInt8} (hb : ¬ (hdItem l).bad = true) : YtmfihkgbfoapaaaDoor.bytesOf (innI q (hdItem l)) = if (hd l).1 = 10 then [92, 110] else if (hd l).1 = q ∨ (hd l).1 = 92 then 92 :: l.take (hd l).2 else if (hd l).1 = 0 ∨ (hd l).1 = 65279 then 92 :: 117 :: padL 4 (baseL 16 false (hd l).1) else if 65535 < (hd l).1 then 92 :: 85 :: padL 8 (baseL 16 false (hd l).1) else l.take (hd l).2 := by
  unfold innI
  rw [if_neg hb]
  show YtmfihkgbfoapaaaDoor.bytesOf (if (hd l).1 = 10 then _ else if (hd l).1 = q ∨ (hd l).1 = 92 then _ else if (hd l).1 = 0 ∨ (hd l).1 = 65279 then _ else if 65535 < (hd l).1 then _ else _) = _
  split
  · exact ascI_bytes _
  · split
    · rw [bytesOf_cons, bytesOf_cons]
      show 92 :: (l.take (hd l).2 ++ []) = _
      rw [List.append_nil]
    · split
      · exact ascI_bytes _
      · split
        · exact ascI_bytes _
        · rw [bytesOf_cons]
          show l.take (hd l).2 ++ [] = _
          rw [List.append_nil]
theorem ne_of_beqF {a b : Int} (h : (a == b) = false) : ¬ a = b := fun e => by rw [e] at h; simp at h
theorem byte_head {tb : ByteArray} (h0 : 0 < tb.size) (h : (hd tb.data.toList).2 = 1) : ((hdItem tb.data.toList).bs.headD 0) = tb[0]'h0 := by
  show (tb.data.toList.take (hd tb.data.toList).2).headD 0 = _
  rw [h]
  obtain ⟨⟨l⟩⟩ := tb
  cases l with
  | nil => exact absurd h0 (by decide)
  | cons x xs => rfl
theorem wrap_u64_byte (x : UInt8) : IntKind.u64.wrap (x.toNat : Int) = (x.toNat : Int) := by
  rw [IntKind.wrap_u64]; have := UInt8.toNat_lt x; omega
theorem and_u8_tab : ((List.range 256).all fun i => bits .and .u8 (i : Int) 1 == ((i % 2 : Nat) : Int)) = true := by kernel_rfl
theorem and_u8_one {c : Nat} (h : c < 256) : bits .and .u8 (c : Int) 1 = ((c % 2 : Nat) : Int) := by
  have := List.all_eq_true.1 and_u8_tab c (List.mem_range.2 h)
  exact eq_of_beq this
set_option maxRecDepth 100000 in
set_option maxHeartbeats 1600000 in
theorem inner_spec (w : World) (s : ByteArray) (qq mm : Int) (q most : Nat) (hq : qq = (q : Int)) (hq2 : 0 ≤ qq ∧ qq ≤ 1114111) (hm : mm = (most : Int)) (hm2 : 0 ≤ mm ∧ mm ≤ 140737488351232) (hs : s.size ≤ 100000000000) :
    Calls Tryd.prog 81 #[.string s, .int .i32 qq, .int .i64 mm] w fun e w' => e = .returned (.string ⟨(innB q most s.data.toList).toArray⟩) ∧ (innB q most s.data.toList).length ≤ 10 * s.size ∧ Below w.heap.size w w' := by
  have HQ := Lib.hid (And.intro hq hm)
  clear hq hm
  go_enter Tryd.func81, Tryd.ntmps81
  go_wp2_with (fail)
  go_loopg [0, 7, 8] s.size (fun kk t u v wr => ∃ (tb ub : ByteArray) (i : Int) (M : Nat), tb.size ≤ kk ∧ t = .string tb ∧ u = .string ub ∧ v = .int .i64 i ∧ ub.data.toList ++ innB q M tb.data.toList = innB q most s.data.toList ∧ mm = i + M ∧ 0 ≤ i ∧ ub.size + 10 * tb.size ≤ 10 * s.size ∧ Below w.heap.size w wr)
  case atStart => exact ⟨s, ⟨#[]⟩, 0, most, Nat.le_refl _, rfl, rfl, rfl, by simp, by rw [HQ.out.2]; omega, by decide, by show 0 + 10 * s.size ≤ 10 * s.size; omega, Below.refl _ _⟩
  case round =>
    obtain ⟨tb, ub, i, M, hk, rfl, rfl, rfl, he, hi, hi0, hsz, hb⟩ := hrel
    have HH := Lib.hid (And.intro he (And.intro hi (And.intro hsz hb)))
    clear he hsz hb
    have hlen : tb.data.toList.length = tb.size := data_length tb
    by_cases h0 : 0 < tb.size
    · by_cases hM : 0 < M
      · obtain ⟨M', rfl⟩ : ∃ M', M = M' + 1 := ⟨M - 1, by omega⟩
        have him : i < mm := by omega
        clear hM hi
        have kb := fun W => print_bytes (P := Tryd.prog) 9 22 5 Tryd.underlying9 Tryd.underlying22 Tryd.underlying5 tb W
        have hkd := bytes_kd wr tb (by have := HH.out.2.2.1; omega)
        have hbb := bytesWorld_below wr 5 tb
        have hdec := dec_spec (bytesWorld wr 5 tb) (some ⟨wr.heap.size, 0, none⟩) (grownCap wr tb.size 0 5) tb.data.toList (by rw [hlen]; exact hkd) (by rw [hlen]; exact grownCap_ge _ _ _ _) (by omega)
        rw [hlen] at hdec
        have HD := Lib.hid (And.intro hdec (And.intro hbb hlen))
        clear hkd hbb hdec hlen
        by_cases hbad : (hdItem tb.data.toList).bad = true
        · have e0 : specDec tb.data.toList = (0, 0) := by unfold specDec; rw [if_pos hbad]
          have hn1 : (hd tb.data.toList).2 = 1 := by
            rw [bad_of (by rw [data_length]; exact h0)] at hbad; simp at hbad; exact hbad.2
          have hc := byte_head h0 hn1
          have hI : YtmfihkgbfoapaaaDoor.bytesOf (innI q (hdItem tb.data.toList)) = if (tb[0]'h0).toNat % 2 = 0 then 92 :: 120 :: baseL 16 false (tb[0]'h0).toNat else 92 :: baseL 8 false (tb[0]'h0).toNat := by
            unfold innI; rw [if_pos hbad, hc]; split <;> exact ascI_bytes _
          have h256 : (tb[0]'h0).toNat < 256 := UInt8.toNat_lt _
          have hbit := and_u8_one h256
          obtain ⟨B16, hB16⟩ : ∃ B : ByteArray, (⟨(baseL 16 false (tb[0]'h0).toNat).toArray⟩ : ByteArray) = B := ⟨_, rfl⟩
          obtain ⟨B8, hB8⟩ : ∃ B : ByteArray, (⟨(baseL 8 false (tb[0]'h0).toNat).toArray⟩ : ByteArray) = B := ⟨_, rfl⟩
          have s16 : B16.size ≤ 2 := by rw [← hB16]; exact base_len 16 (by decide) 1 64 _ (by omega)
          have s8 : B8.size ≤ 3 := by rw [← hB8]; exact base_len 8 (by decide) 2 64 _ (by omega)
          have hub : ub.size + 10 * tb.size ≤ 1000000000000 := by have := HH.out.2.2.1; omega
          have HX := Lib.hid (And.intro e0 (And.intro hn1 (And.intro hI (And.intro h256 (And.intro hB16 hB8)))))
          clear e0 hn1 hI h256 hB16 hB8 hc
          by_cases hev : (tb[0]'h0).toNat % 2 = 0
          · have hbv : (bits .and .u8 ((tb[0]'h0).toNat : Int) 1 == 0) = true := by rw [hbit, hev]; rfl
            have HE := Lib.hid hev
            clear hev hbit
            go_wp2_with (first | (go_at_call 37; refine (HD.out.1).mono ?_; rw [HX.out.1]; rintro e w1 ⟨rfl, hb1⟩; have HB := Lib.hid (HH.out.2.2.2.trans ((HD.out.2.1.trans (hb1.mono HD.out.2.1.size)).mono HH.out.2.2.2.size)); clear hb1) | (go_at_call 80; refine (base_spec _ _ 16 (tb[0]'h0).toNat 16 false (wrap_u64_byte _) (by have := HX.out.2.2.2.1; omega) rfl (by decide)).mono ?_; rw [HX.out.2.2.2.2.1]; rintro e w2 ⟨rfl, hb2⟩; have HB' := Lib.hid (HB.out.trans (hb2.mono HB.out.size)); clear hb2 HB; have HB := HB'; clear HB'))
            go_roundg (tb.size - 1)
            case measure => omega
            case rel =>
              have q1 := HH.out.2.2.1
              have q2 := HH.out.2.1
              refine ⟨tb.extract 1 tb.size, _, _, M', ?_, rfl, rfl, rfl, inn_next h0 HH.out.1 HX.out.2.1 ?_, ?_, ?_, ?_, HB.out⟩
              · rw [extract_size' _ _ _ (Nat.le_refl _)]; omega
              · rw [append_list, ← HX.out.2.2.2.2.1, HX.out.2.2.1, if_pos HE.out]; rfl
              · omega
              · omega
              · rw [extract_size' _ _ _ (Nat.le_refl _), ByteArray.size_append, ByteArray.size_append]
                show _ + (2 + _) + _ ≤ _
                omega
          · have hbv : (bits .and .u8 ((tb[0]'h0).toNat : Int) 1 == 0) = false := by rw [hbit, show (tb[0]'h0).toNat % 2 = 1 by omega]; rfl
            have HE := Lib.hid hev
            clear hev hbit
            go_wp2_with (first | (go_at_call 37; refine (HD.out.1).mono ?_; rw [HX.out.1]; rintro e w1 ⟨rfl, hb1⟩; have HB := Lib.hid (HH.out.2.2.2.trans ((HD.out.2.1.trans (hb1.mono HD.out.2.1.size)).mono HH.out.2.2.2.size)); clear hb1) | (go_at_call 80; refine (base_spec _ _ 8 (tb[0]'h0).toNat 8 false (wrap_u64_byte _) (by have := HX.out.2.2.2.1; omega) rfl (by decide)).mono ?_; rw [HX.out.2.2.2.2.2]; rintro e w2 ⟨rfl, hb2⟩; have HB' := Lib.hid (HB.out.trans (hb2.mono HB.out.size)); clear hb2 HB; have HB := HB'; clear HB'))
            go_roundg (tb.size - 1)
            case measure => omega
            case rel =>
              have q1 := HH.out.2.2.1
              have q2 := HH.out.2.1
              refine ⟨tb.extract 1 tb.size, _, _, M', ?_, rfl, rfl, rfl, inn_next h0 HH.out.1 HX.out.2.1 ?_, ?_, ?_, ?_, HB.out⟩
              · rw [extract_size' _ _ _ (Nat.le_refl _)]; omega
              · rw [append_list, ← HX.out.2.2.2.2.2, HX.out.2.2.1, if_neg HE.out]; rfl
              · omega
              · omega
              · rw [extract_size' _ _ _ (Nat.le_refl _), ByteArray.size_append, ByteArray.size_append]
                show _ + (1 + _) + _ ≤ _
                omega
        · have e0 : specDec tb.data.toList = hd tb.data.toList := by unfold specDec; rw [if_neg hbad]
          have hl1 := HD.out.2.2
          have hn1 := hd_pos tb.data.toList
          have hn2 := hd_le (l := tb.data.toList) (by omega)
          have hr := hd_rune tb.data.toList
          rw [hl1] at hn2
          have hI : YtmfihkgbfoapaaaDoor.bytesOf (innI q (hdItem tb.data.toList)) = if (hd tb.data.toList).1 = 10 then [92, 110] else if (hd tb.data.toList).1 = q ∨ (hd tb.data.toList).1 = 92 then 92 :: tb.data.toList.take (hd tb.data.toList).2 else if (hd tb.data.toList).1 = 0 ∨ (hd tb.data.toList).1 = 65279 then 92 :: 117 :: padL 4 (baseL 16 false (hd tb.data.toList).1) else if 65535 < (hd tb.data.toList).1 then 92 :: 85 :: padL 8 (baseL 16 false (hd tb.data.toList).1) else tb.data.toList.take (hd tb.data.toList).2 := inn_bytes hbad
          generalize hp : hd tb.data.toList = p at *
          obtain ⟨r, n⟩ := p
          simp only at *
          obtain ⟨B, hB⟩ : ∃ B : ByteArray, (⟨(baseL 16 false r).toArray⟩ : ByteArray) = B := ⟨_, rfl⟩
          have sB : B.size ≤ 6 := by rw [← hB]; exact base_len 16 (by decide) 5 64 _ (by omega)
          have sB4 : r ≤ 65279 → B.size ≤ 4 := fun h => by rw [← hB]; exact base_len 16 (by decide) 3 64 _ (by omega)
          have hub : ub.size + 10 * tb.size ≤ 1000000000000 := by have := HH.out.2.2.1; omega
          have HX := Lib.hid (And.intro e0 (And.intro hp (And.intro hI (And.intro hB sB4))))
          have HR := Lib.hid hr
          clear e0 hI hB hp sB4
          go_wp2_with (first | (go_at_call 37; refine (HD.out.1).mono ?_; rw [HX.out.1]; rintro e w1 ⟨rfl, hb1⟩; have HB := Lib.hid (HH.out.2.2.2.trans ((HD.out.2.1.trans (hb1.mono HD.out.2.1.size)).mono HH.out.2.2.2.size)); clear hb1) | (go_at_call 80; refine (base_spec _ _ 16 (r) 16 false (by omega) (by have := HR.out; omega) rfl (by decide)).mono ?_; rw [HX.out.2.2.2.1]; rintro e w2 ⟨rfl, hb2⟩; have HB' := Lib.hid (HB.out.trans (hb2.mono HB.out.size)); clear hb2 HB; have HB := HB'; clear HB'))
          · rename_i h1
            go_roundg (tb.size - n)
            case measure => omega
            case rel =>
              have q1 := HH.out.2.2.1
              have q2 := HH.out.2.1
              have q3 := HX.out.2.2.1
              have q4 := HX.out.2.2.2.1
              have q5 := HQ.out.1
              refine ⟨tb.extract n tb.size, _, _, M', ?_, rfl, rfl, rfl, inn_next h0 HH.out.1 (by rw [HX.out.2.1]) ?_, ?_, ?_, ?_, HB.out⟩
              · rw [extract_size' _ _ _ (Nat.le_refl _)]; exact Nat.le_refl _
              · rw [q3]
                have g : (r : Int) = 10 := eq_of_beq h1
                rw [if_pos (by omega)]
              · omega
              · omega
              · rw [extract_size' _ _ _ (Nat.le_refl _), ByteArray.size_append]
                have e1 : (tb.extract 0 n).size = n := by rw [extract_size' _ _ _ (by omega)]; rfl
                show _ + 2 + _ ≤ _
                omega
          · rename_i h1 h2
            go_roundg (tb.size - n)
            case measure => omega
            case rel =>
              have q1 := HH.out.2.2.1
              have q2 := HH.out.2.1
              have q3 := HX.out.2.2.1
              have q4 := HX.out.2.2.2.1
              have q5 := HQ.out.1
              refine ⟨tb.extract n tb.size, _, _, M', ?_, rfl, rfl, rfl, inn_next h0 HH.out.1 (by rw [HX.out.2.1]) ?_, ?_, ?_, ?_, HB.out⟩
              · rw [extract_size' _ _ _ (Nat.le_refl _)]; exact Nat.le_refl _
              · rw [q3]
                have g := ne_of_beqF h1
                rw [if_neg (by omega), if_pos (Or.inl (by omega)), append_list, extract_head]; rfl
              · omega
              · omega
              · rw [extract_size' _ _ _ (Nat.le_refl _), ByteArray.size_append]
                have e1 : (tb.extract 0 n).size = n := by rw [extract_size' _ _ _ (by omega)]; rfl
                rw [ByteArray.size_append, e1]
                show _ + (1 + _) + _ ≤ _
                omega
          · rename_i h1 h2 h3
            go_roundg (tb.size - n)
            case measure => omega
            case rel =>
              have q1 := HH.out.2.2.1
              have q2 := HH.out.2.1
              have q3 := HX.out.2.2.1
              have q4 := HX.out.2.2.2.1
              have q5 := HQ.out.1
              refine ⟨tb.extract n tb.size, _, _, M', ?_, rfl, rfl, rfl, inn_next h0 HH.out.1 (by rw [HX.out.2.1]) ?_, ?_, ?_, ?_, HB.out⟩
              · rw [extract_size' _ _ _ (Nat.le_refl _)]; exact Nat.le_refl _
              · rw [q3]
                have g := ne_of_beqF h1
                have g3 : (r : Int) = qq ∨ (r : Int) = 92 := h3.imp eq_of_beq eq_of_beq
                rw [if_neg (by omega), if_pos (by omega), append_list, extract_head]; rfl
              · omega
              · omega
              · rw [extract_size' _ _ _ (Nat.le_refl _), ByteArray.size_append]
                have e1 : (tb.extract 0 n).size = n := by rw [extract_size' _ _ _ (by omega)]; rfl
                rw [ByteArray.size_append, e1]
                show _ + (1 + _) + _ ≤ _
                omega
          · rename_i h1 h2 h3 h4 h5
            go_roundg (tb.size - n)
            case measure => omega
            case rel =>
              have q1 := HH.out.2.2.1
              have q2 := HH.out.2.1
              have q3 := HX.out.2.2.1
              have q4 := HX.out.2.2.2.1
              have q5 := HQ.out.1
              refine ⟨tb.extract n tb.size, _, _, M', ?_, rfl, rfl, rfl, inn_next h0 HH.out.1 (by rw [HX.out.2.1]) ?_, ?_, ?_, ?_, HB.out⟩
              · rw [extract_size' _ _ _ (Nat.le_refl _)]; exact Nat.le_refl _
              · rw [q3]
                have g := ne_of_beqF h1
                have g3 := ne_of_beqF h3.1
                have g4 := ne_of_beqF h3.2
                rw [if_neg (by omega), if_neg (by omega), if_pos (Or.inl h4), append_list, pad_ext (k := 4) rfl (HX.out.2.2.2.2 (by omega)), ← q4]; rfl
              · omega
              · omega
              · rw [extract_size' _ _ _ (Nat.le_refl _), ByteArray.size_append]
                have e1 : (tb.extract 0 n).size = n := by rw [extract_size' _ _ _ (by omega)]; rfl
                rw [ByteArray.size_append, extract_size' _ _ _ (by rw [ByteArray.size_append]; exact Nat.le_refl _)]
                show _ + (2 + _) + _ ≤ _
                omega
          · rename_i h1 h2 h3 h4 h5 h6
            go_roundg (tb.size - n)
            case measure => omega
            case rel =>
              have q1 := HH.out.2.2.1
              have q2 := HH.out.2.1
              have q3 := HX.out.2.2.1
              have q4 := HX.out.2.2.2.1
              have q5 := HQ.out.1
              refine ⟨tb.extract n tb.size, _, _, M', ?_, rfl, rfl, rfl, inn_next h0 HH.out.1 (by rw [HX.out.2.1]) ?_, ?_, ?_, ?_, HB.out⟩
              · rw [extract_size' _ _ _ (Nat.le_refl _)]; exact Nat.le_refl _
              · rw [q3]
                have g := ne_of_beqF h1
                have g3 := ne_of_beqF h3.1
                have g4 := ne_of_beqF h3.2
                have g5 : (r : Int) = 0 ∨ (r : Int) = 65279 := h5.imp eq_of_beq eq_of_beq
                rw [if_neg (by omega), if_neg (by omega), if_pos (by omega), append_list, pad_ext (k := 4) rfl (HX.out.2.2.2.2 (by omega)), ← q4]; rfl
              · omega
              · omega
              · rw [extract_size' _ _ _ (Nat.le_refl _), ByteArray.size_append]
                have e1 : (tb.extract 0 n).size = n := by rw [extract_size' _ _ _ (by omega)]; rfl
                rw [ByteArray.size_append, extract_size' _ _ _ (by rw [ByteArray.size_append]; exact Nat.le_refl _)]
                show _ + (2 + _) + _ ≤ _
                omega
          · rename_i h1 h2 h3 h4 h5 h6 h7
            go_roundg (tb.size - n)
            case measure => omega
            case rel =>
              have q1 := HH.out.2.2.1
              have q2 := HH.out.2.1
              have q3 := HX.out.2.2.1
              have q4 := HX.out.2.2.2.1
              have q5 := HQ.out.1
              refine ⟨tb.extract n tb.size, _, _, M', ?_, rfl, rfl, rfl, inn_next h0 HH.out.1 (by rw [HX.out.2.1]) ?_, ?_, ?_, ?_, HB.out⟩
              · rw [extract_size' _ _ _ (Nat.le_refl _)]; exact Nat.le_refl _
              · rw [q3]
                have g := ne_of_beqF h1
                have g3 := ne_of_beqF h3.1
                have g4 := ne_of_beqF h3.2
                have g5 := ne_of_beqF h5.1
                have g6 := ne_of_beqF h5.2
                rw [if_neg (by omega), if_neg (by omega), if_neg (by omega), if_pos (by omega), append_list, pad_ext (k := 8) rfl (by omega), ← q4]; rfl
              · omega
              · omega
              · rw [extract_size' _ _ _ (Nat.le_refl _), ByteArray.size_append]
                have e1 : (tb.extract 0 n).size = n := by rw [extract_size' _ _ _ (by omega)]; rfl
                rw [ByteArray.size_append, extract_size' _ _ _ (by rw [ByteArray.size_append]; exact Nat.le_refl _)]
                show _ + (2 + _) + _ ≤ _
                omega
          · rename_i h1 h2 h3 h4 h5 h6
            go_roundg (tb.size - n)
            case measure => omega
            case rel =>
              have q1 := HH.out.2.2.1
              have q2 := HH.out.2.1
              have q3 := HX.out.2.2.1
              have q4 := HX.out.2.2.2.1
              have q5 := HQ.out.1
              refine ⟨tb.extract n tb.size, _, _, M', ?_, rfl, rfl, rfl, inn_next h0 HH.out.1 (by rw [HX.out.2.1]) ?_, ?_, ?_, ?_, HB.out⟩
              · rw [extract_size' _ _ _ (Nat.le_refl _)]; exact Nat.le_refl _
              · rw [q3]
                have g := ne_of_beqF h1
                have g3 := ne_of_beqF h3.1
                have g4 := ne_of_beqF h3.2
                have g5 := ne_of_beqF h5.1
                have g6 := ne_of_beqF h5.2
                rw [if_neg (by omega), if_neg (by omega), if_neg (by omega), if_neg (by omega), extract_head]
              · omega
              · omega
              · rw [extract_size' _ _ _ (Nat.le_refl _), ByteArray.size_append]
                have e1 : (tb.extract 0 n).size = n := by rw [extract_size' _ _ _ (by omega)]; rfl
                rw [e1]
                omega
      · have hM0 : M = 0 := by omega
        subst hM0
        have hi2 : ¬ i < mm := by omega
        go_wp2_with (fail)
        go_ret
        obtain ⟨he, -, hsz, hb⟩ := HH.out
        rw [innB_zero, List.append_nil] at he
        exact ⟨by show Ending.returned (.string ub) = _; rw [← he], by rw [← he, data_length]; omega, hb⟩
    · go_wp2_with (fail)
      go_ret
      obtain ⟨he, -, hsz, hb⟩ := HH.out
      have h1 : tb.data.toList = [] := List.eq_nil_of_length_eq_zero (by rw [data_length]; omega)
      rw [h1, innB_nil, List.append_nil] at he
      exact ⟨by show Ending.returned (.string ub) = _; rw [← he], by rw [← he, data_length]; omega, hb⟩
end Go.Proofs.YtmfihkgbfoapaaaDoor
