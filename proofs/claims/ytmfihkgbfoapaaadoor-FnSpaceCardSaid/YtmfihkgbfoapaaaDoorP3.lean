/- Characters up to the blank and identifiers; UTF-8 that is cut out of UTF-8. -/
import Derived.Test.YtmfihkgbfoapaaaDoorP1
import Derived.Test.YtmfihkgbfoapaaaDoorS2
import Derived.Laws.BitsLemmas
namespace Go.Proofs.YtmfihkgbfoapaaaDoor
set_option linter.unusedVariables false
set_option linter.unusedSimpArgs false
open Go Go.RowKit Go.Lib
set_option maxRecDepth 100000 in
set_option maxHeartbeats 2000000 in
theorem decodeN_stable {n b0 b1 b2 b3 m c1 c2 c3 r k : Nat} (h : decodeN n b0 b1 b2 b3 = (r, k)) (hb : ¬ (r = 65533 ∧ k = 1)) (hm : k ≤ m) (h1 : 1 < k → c1 = b1) (h2 : 2 < k → c2 = b2) (h3 : 3 < k → c3 = b3) : decodeN m b0 c1 c2 c3 = (r, k) := by
  unfold decodeN at h
  repeat' split at h
  all_goals
    obtain ⟨e1, e2⟩ := Prod.mk.inj h
    try (exfalso; omega)
  · rename_i hx; rw [← e1, ← e2]; unfold decodeN; rw [if_pos hx]
  · obtain rfl := h1 (by omega)
    unfold decodeN
    rw [if_neg (by assumption), if_pos ⟨by omega, by omega, by omega⟩, if_pos (by assumption), e1, e2]
  · obtain rfl := h1 (by omega)
    obtain rfl := h2 (by omega)
    unfold decodeN
    rw [if_neg (by assumption), if_neg (by omega), if_pos ⟨by omega, ⟨by omega, by omega⟩, by omega, by omega⟩, if_pos (by assumption), e1, e2]
  · obtain rfl := h1 (by omega)
    obtain rfl := h2 (by omega)
    obtain rfl := h3 (by omega)
    unfold decodeN
    rw [if_neg (by assumption), if_neg (by omega), if_neg (by omega), if_pos ⟨by omega, ⟨by omega, by omega⟩, ⟨by omega, by omega⟩, by omega, by omega⟩, if_pos (by assumption), e1, e2]
/-- A character that is written as UTF-8. -/
def Item.ok (c : Item) : Prop := 0 < c.bs.length ∧ ∀ rest, hd (c.bs ++ rest) = (c.r, c.bs.length)
theorem hd_ok {l : List UInt8} (h : 0 < l.length) (hb : (hdItem l).bad = false) : (hdItem l).ok := by
  have hn := hdItem_n h
  unfold Item.n at hn
  have h1 := hd_pos l
  have hle := hd_le h
  have hbad : ¬ ((hd l).1 = 65533 ∧ (hd l).2 = 1) := by
    rintro ⟨x, y⟩
    rw [bad_of h, x, y] at hb; simp at hb
  refine ⟨by rw [hn]; exact h1, fun rest => ?_⟩
  rw [hn]
  show hd (l.take (hd l).2 ++ rest) = ((hd l).1, (hd l).2)
  have hg : ∀ i, i < (hd l).2 → gb (l.take (hd l).2 ++ rest) i = gb l i := fun i hi => by
    rw [gb_append_left (by rw [List.length_take]; omega)]
    unfold gb; simp [List.getD_eq_getElem?_getD, List.getElem?_take_of_lt hi]
  have key : decodeN l.length (gb l 0) (gb l 1) (gb l 2) (gb l 3) = ((hd l).1, (hd l).2) := rfl
  unfold hd at hg ⊢
  rw [hg 0 h1]
  exact decodeN_stable key hbad (by simp only [List.length_append, List.length_take]; unfold hd at hle; omega) (fun hk => hg 1 hk) (fun hk => hg 2 hk) (fun hk => hg 3 hk)
theorem items_ok {cs : List Item} (h : ∀ c ∈ cs, c.ok) : items (bytesOf cs) = cs := by
  induction cs with
  | nil => rw [bytesOf_nil, items_nil]
  | cons c cs ih =>
    obtain ⟨h0, hh⟩ := h c List.mem_cons_self
    rw [bytesOf_cons, items_cons (by rw [List.length_append]; omega)]
    have e := hh (bytesOf cs)
    unfold hdItem
    rw [e]
    simp only [List.take_left, List.drop_left]
    rw [ih (fun d hd => h d (List.mem_cons_of_mem _ hd))]
theorem items_good {l : List UInt8} : ∀ c ∈ items l, c.bad = false → c.ok := by
  induction hn : l.length using Nat.strongRecOn generalizing l with
  | _ n ih =>
    subst hn
    by_cases h : 0 < l.length
    · rw [items_cons h]
      intro c hc hb
      rcases List.mem_cons.1 hc with rfl | hc
      · exact hd_ok h hb
      · have := hd_pos l
        exact ih (l.drop (hd l).2).length (by rw [List.length_drop]; omega) rfl c hc hb
    · have : l = [] := List.eq_nil_of_length_eq_zero (by omega)
      subst this; rw [items_nil]; intro c hc; cases hc
theorem keepL_items (d : Bool) (l : List UInt8) : items (keepL d l) = (items l).filter (keepI d) := by
  unfold keepL
  refine items_ok fun c hc => ?_
  obtain ⟨h1, h2⟩ := List.mem_filter.1 hc
  unfold keepI at h2
  simp only [Bool.and_eq_true, Bool.not_eq_true'] at h2
  exact items_good c h1 h2.1
theorem get_gb (s : ByteArray) (i : Nat) : (s.get! i).toNat = gb s.data.toList i := by
  unfold gb
  simp only [List.getD_eq_getElem?_getD, Array.getElem?_toList]
  show (s.data[i]!).toNat = _
  rw [Array.getElem!_eq_getD]
  simp [Array.getD_eq_getD_getElem?]
  rfl
theorem decode_hd (s : ByteArray) (i : Nat) : Utf8.decode s i = hd (s.data.toList.drop i) := by
  rw [decode_at]
  unfold hd
  simp only [gb_drop, get_gb, List.length_drop]
  rfl
theorem runesFrom_items (s : ByteArray) (pos : Nat) : runesFrom s pos = (items (s.data.toList.drop pos)).map (·.r) := by
  induction hn : s.size - pos using Nat.strongRecOn generalizing pos with
  | _ n ih =>
    subst hn
    rw [runesFrom]
    have hl : s.data.toList.length = s.size := Go.Proofs.YtmfihkgbfoapaaaDoorW.PrintWords.data_length s
    by_cases h : pos < s.size
    · have h0 : 0 < (s.data.toList.drop pos).length := by rw [List.length_drop]; omega
      have hp := hd_pos (s.data.toList.drop pos)
      rw [dif_pos h, items_cons h0, decode_hd, ih _ (by omega) _ rfl, List.drop_drop]
      rfl
    · rw [dif_neg h, List.drop_eq_nil_of_le (by omega), items_nil]; rfl
theorem hasRune_items (s : ByteArray) (r : Int) : hasRune s 0 r = (items s.data.toList).any fun c => (c.r : Int) == r := by
  unfold hasRune; rw [runesFrom_items, List.drop_zero, List.any_map]; rfl
theorem keepS_has (d : Bool) (f : ByteArray) (r : Int) : hasRune (keepS d f) 0 r = (((items f.data.toList).any fun c => !c.bad && (c.r : Int) == r) && keepCh d r) := by
  rw [hasRune_items]
  show (items (keepL d f.data.toList)).any _ = _
  rw [keepL_items]
  induction items f.data.toList with
  | nil => rfl
  | cons c l ih =>
    rw [List.filter_cons, List.any_cons]
    by_cases hk : keepI d c = true
    · rw [if_pos hk, List.any_cons, ih]
      unfold keepI at hk
      simp only [Bool.and_eq_true] at hk
      by_cases hr : (c.r : Int) = r
      · subst hr; simp [hk.1, hk.2]
      · have hbq : ((c.r : Int) == r) = false := beq_eq_false_iff_ne.2 hr
        simp only [hbq, Bool.false_or, Bool.and_false]
    · rw [if_neg hk, ih]
      have hk' : keepI d c = false := Bool.eq_false_iff.2 hk
      unfold keepI at hk'
      by_cases hr : (c.r : Int) = r
      · subst hr
        cases hb : c.bad <;> cases hc : keepCh d c.r <;> simp_all
      · have hbq : ((c.r : Int) == r) = false := beq_eq_false_iff_ne.2 hr
        simp only [hbq, Bool.false_or, Bool.and_false]
theorem letters_low : ((List.range 33).all fun k => !isLetterU (k : Int)) = true := by kernel_rfl
theorem fit_p0 (s : Stp) {K : Int} (h : 1 ≤ K ∧ K ≤ 32) (cm : Int) (cw : Int) : (if s.fit.d = false ∧ s.fit.cu = true then idCustom s.fit.f1 s.fit.f2 else idGo).p0 K = false := by
  split
  · rename_i hc
    unfold Stp.fit at hc ⊢
    by_cases hd : s.d = true
    · rw [if_pos hd] at hc; cases hc.1
    · rw [if_neg hd] at hc ⊢
      have hcu : s.cu = true := hc.2
      show hasRune (if s.cu = true then keepS false s.f1 else ⟨#[]⟩) 0 K = false
      rw [if_pos hcu, keepS_has]
      have : keepCh false K = false := by
        unfold keepCh; rw [decide_eq_false (p := 32 < K) (by omega)]; simp
      rw [this]; simp
  · show ((K == 95) || isLetterU K) = false
    have := List.all_eq_true.1 letters_low K.toNat (List.mem_range.2 (by omega))
    rw [show ((K.toNat : Nat) : Int) = K by omega] at this
    have h95 : (K == 95) = false := beq_eq_false_iff_ne.2 (by omega)
    rw [h95]
    simpa using this
theorem u64_small {n : Nat} (h : n < 2 ^ 64) : IntKind.u64.wrap (n : Int) = n := by
  simp only [IntKind.wrap, IntKind.bits, IntKind.signed]
  simp
  exact Int.emod_eq_of_lt (by omega) (by omega)
theorem or_bit (a k : Nat) (ha : a < 2 ^ 64) (hk : k < 64) : bits .or .u64 (a : Int) (2 ^ k) = ((a ||| 2 ^ k : Nat) : Int) := by
  have hp : (2 : Nat) ^ k < 2 ^ 64 := Nat.pow_lt_pow_right (by decide) hk
  have e : ((2 : Int) ^ k) = ((2 ^ k : Nat) : Int) := by simp
  rw [e]
  exact (bits_nat .u64 64 (by decide) (fun n h0 h1 => by obtain ⟨x, rfl⟩ := Int.eq_ofNat_of_zero_le h0; exact u64_small (by exact_mod_cast h1)) a (2 ^ k) ha hp).2
theorem not_bit (a k : Nat) (ha : a < 2 ^ 64) (hk : k < 64) : ∃ b : Nat, bits .andNot .u64 (a : Int) (2 ^ k) = (b : Int) ∧ b ≤ a ∧ ∀ c, b.testBit c = (a.testBit c && decide (c ≠ k)) := by
  have hp : (2 : Nat) ^ k < 2 ^ 64 := Nat.pow_lt_pow_right (by decide) hk
  have e : ((2 : Int) ^ k) = ((2 ^ k : Nat) : Int) := by simp
  rw [e]
  unfold bits
  simp only [IntKind.bits, BitVec.ofInt_natCast]
  generalize hb : (BitVec.ofNat 64 a &&& ~~~BitVec.ofNat 64 (2 ^ k)).toNat = b
  have hlt : b < 2 ^ 64 := by rw [← hb]; exact BitVec.isLt _
  have hle : b ≤ a := by
    rw [← hb, BitVec.toNat_and, BitVec.toNat_ofNat, Nat.mod_eq_of_lt ha]
    exact Nat.and_le_left
  refine ⟨b, by show IntKind.u64.wrap (((BitVec.ofNat 64 a &&& ~~~BitVec.ofNat 64 (2 ^ k)).toNat : Nat) : Int) = _; rw [hb]; exact u64_small hlt, hle, fun c => ?_⟩
  by_cases hc : c < 64
  · have : b.testBit c = (BitVec.ofNat 64 a &&& ~~~BitVec.ofNat 64 (2 ^ k)).getLsbD c := by rw [← hb]; rfl
    rw [this, BitVec.getLsbD_and, BitVec.getLsbD_not, BitVec.getLsbD_ofNat, BitVec.getLsbD_ofNat, Nat.testBit_two_pow]
    simp [hc]
    by_cases h : k = c
    · subst h; simp
    · have : ¬ c = k := fun e => h e.symm
      simp [h, this]
  · have h1 : b < 2 ^ c := Nat.lt_of_lt_of_le hlt (Nat.pow_le_pow_right (by decide) (by omega))
    have h2 : a < 2 ^ c := Nat.lt_of_lt_of_le ha (Nat.pow_le_pow_right (by decide) (by omega))
    rw [Nat.testBit_lt_two_pow h1, Nat.testBit_lt_two_pow h2]; rfl
theorem spaces_of {C1 C2 : Cfg} {wh K : Int} (h0 : 0 ≤ wh) (h1 : wh ≤ 8589934591) (hK : 1 ≤ K ∧ K ≤ 32) (hI : C1.I = C2.I) (hm : C1.mode = C2.mode) (w1 : C1.white = bits .or .u64 wh (2 ^ K.toNat)) (w2 : C2.white = bits .andNot .u64 wh (2 ^ K.toNat))
    (hp : C2.I.p0 K = false) : Spaces C1 C2 K := by
  obtain ⟨a, rfl⟩ := Int.eq_ofNat_of_zero_le h0
  obtain ⟨k, rfl⟩ := Int.eq_ofNat_of_zero_le (show 0 ≤ K by omega)
  simp only [Int.toNat_natCast] at w1 w2
  have ha : a < 2 ^ 64 := by omega
  rw [or_bit a k ha (by omega)] at w1
  obtain ⟨b, e, hle, hb⟩ := not_bit a k ha (by omega)
  rw [e] at w2
  have ho : ∀ c, (a ||| 2 ^ k).testBit c = (a.testBit c || decide (c = k)) := fun c => by
    rw [Nat.testBit_or, Nat.testBit_two_pow]
    congr 1
    exact decide_eq_decide.2 ⟨fun h => h.symm, fun h => h.symm⟩
  refine ⟨hI, hm, by omega, hp, ?_, ?_, fun c hc => ?_⟩
  · unfold isWh; rw [w1, Int.toNat_natCast, Int.toNat_natCast, ho]; simp
  · unfold isWh; rw [w2, Int.toNat_natCast, Int.toNat_natCast, hb]; simp
  · unfold isWh; rw [w1, w2, Int.toNat_natCast, Int.toNat_natCast, ho, hb]
    by_cases h : 0 ≤ c
    · have : c.toNat ≠ k := by omega
      simp [this]
    · simp [h]
theorem white_range {wh K : Int} (h0 : 0 ≤ wh) (h1 : wh ≤ 8589934591) (hK : 1 ≤ K ∧ K ≤ 32) :
    (0 ≤ bits .or .u64 wh (2 ^ K.toNat) ∧ bits .or .u64 wh (2 ^ K.toNat) ≤ 8589934591) ∧ 0 ≤ bits .andNot .u64 wh (2 ^ K.toNat) ∧ bits .andNot .u64 wh (2 ^ K.toNat) ≤ 8589934591 := by
  obtain ⟨a, rfl⟩ := Int.eq_ofNat_of_zero_le h0
  obtain ⟨k, rfl⟩ := Int.eq_ofNat_of_zero_le (show 0 ≤ K by omega)
  simp only [Int.toNat_natCast]
  have ha : a < 2 ^ 64 := by omega
  obtain ⟨b, e, hle, hb⟩ := not_bit a k ha (by omega)
  rw [or_bit a k ha (by omega), e]
  have h33 : a ||| 2 ^ k < 2 ^ 33 := Nat.or_lt_two_pow (by omega) (Nat.pow_lt_pow_right (by decide) (by omega))
  omega
end Go.Proofs.YtmfihkgbfoapaaaDoor
