/- What is left behind a token is an end of what was left ahead of it; where tokens lie; lines. -/
import Derived.Test.YtmfihkgbfoapaaaDoorP1
import Derived.Test.YtmfihkgbfoapaaaDoorE12
namespace Go.Proofs.YtmfihkgbfoapaaaDoor
set_option linter.unusedVariables false
set_option linter.unusedSimpArgs false
open Go Go.RowKit Go.Lib

theorem tail_of {a b : List Item} (h : a <:+ b) : a.tail <:+ b := (List.tail_suffix a).trans h
theorem digRun_suffix (b : Int) : ∀ n l, (digRun b n l).1 <:+ l
  | 0, l => List.suffix_refl l
  | n + 1, l => by
    unfold digRun
    split
    · exact (digRun_suffix b n l.tail).trans (List.tail_suffix l)
    · exact List.suffix_refl l
theorem escRun_suffix (q : Int) (l : List Item) : (escRun q l).1 <:+ l := by
  have h1 := List.tail_suffix l
  have h2 := (List.tail_suffix l.tail).trans h1
  unfold escRun
  simp only
  repeat' split
  all_goals first
    | exact h2
    | exact h1
    | exact (digRun_suffix _ _ _).trans h1
    | exact (digRun_suffix _ _ _).trans h2
theorem strRun_suffix (q : Int) (l : List Item) : (strRun q l).1 <:+ l := by
  induction hn : l.length using Nat.strongRecOn generalizing l with
  | _ n ih =>
    subst hn
    by_cases h : chOf l = q
    · rw [strRun_stop h]; exact List.suffix_refl l
    · by_cases h1 : chOf l = 10 ∨ chOf l < 0
      · rw [strRun_bad h h1]; exact List.suffix_refl l
      · have hne : l ≠ [] := ne_nil_of_ch (by omega)
        by_cases h2 : chOf l = 92
        · rw [strRun_esc h h2]
          exact (ih _ (escRun_lt q l hne) _ rfl).trans (escRun_suffix q l)
        · rw [strRun_step h (by omega) (by omega) h2]
          exact (ih _ (tail_lt hne) _ rfl).trans (List.tail_suffix l)
theorem digs_suffix (p : Int → Bool) (m : Int) : ∀ (l : List Item) (inv : Int) (d u : Bool), (digs p m l inv d u).1 <:+ l
  | [], inv, d, u => by unfold digs; exact List.suffix_refl _
  | c :: l, inv, d, u => by
    have ih := fun inv d u => (digs_suffix p m l inv d u).trans (List.suffix_cons c l)
    unfold digs
    repeat' split
    all_goals first
      | exact ih _ _ _
      | exact List.suffix_refl _
theorem dg_suffix (b : Int) (l : List Item) (inv : Int) : (dg b l inv).1 <:+ l := by
  unfold dg; split <;> exact digs_suffix _ _ _ _ _ _
theorem Num.pre_suffix (n : Num) : n.pre.l <:+ n.l := by
  have h1 := List.tail_suffix n.l
  have h2 := (List.tail_suffix n.l.tail).trans h1
  unfold Num.pre
  repeat' split
  all_goals first
    | exact h2
    | exact h1
    | exact List.suffix_refl _
theorem Num.point_suffix (fl : Bool) (n : Num) : (n.point fl).l <:+ n.l := by
  unfold Num.point; split
  · exact List.tail_suffix _
  · exact List.suffix_refl _
theorem Num.whole_suffix (fl : Bool) (n : Num) : (n.whole fl).l <:+ n.l := by
  unfold Num.whole; split
  · exact List.suffix_refl _
  · exact (Num.point_suffix _ _).trans ((dg_suffix _ _ _).trans (Num.pre_suffix _))
theorem Num.frac_suffix (n : Num) : n.frac.l <:+ n.l := by
  unfold Num.frac; split
  · exact dg_suffix _ _ _
  · exact List.suffix_refl _
theorem Num.sign_suffix (n : Num) : n.sign.l <:+ n.l := by
  unfold Num.sign; split
  · exact List.tail_suffix _
  · exact List.suffix_refl _
theorem Num.exp_suffix (fl : Bool) (n : Num) : (n.exp fl).l <:+ n.l := by
  unfold Num.exp; split
  · exact (dg_suffix _ _ _).trans ((Num.sign_suffix _).trans (List.tail_suffix _))
  · split <;> exact List.suffix_refl _
theorem numRun_suffix (src : List UInt8) (st : Nat) (fl dot : Bool) (l : List Item) : (numRun src st fl dot l).l <:+ l := by
  unfold numRun
  rw [(Num.sep_l _ _ _).1, (Num.bad_l _).1]
  refine (Num.exp_suffix _ _).trans ?_
  rw [(Num.none_l _).1]
  exact (Num.frac_suffix _).trans (Num.whole_suffix _ _)
theorem oneAt_suffix (C : Cfg) (src : List UInt8) (l : List Item) : (oneAt C src l).l <:+ l := by
  have self : (One.self l).l <:+ l := List.tail_suffix l
  have ht := List.tail_suffix l
  unfold oneAt
  repeat' split
  · unfold oneId; split
    · exact (more_suffix _ _).trans ht
    · exact self
  · unfold oneNum; split
    · exact numRun_suffix _ _ _ _ _
    · exact self
  · exact List.suffix_refl _
  · unfold oneStr; split
    · exact tail_of ((strRun_suffix _ _).trans ht)
    · exact self
  · unfold oneChr; split
    · exact tail_of ((strRun_suffix _ _).trans ht)
    · exact self
  · unfold oneDot; split
    · exact (numRun_suffix _ _ _ _ _).trans ht
    · exact self
  · unfold oneCom; split
    · exact (comment_suffix _).trans ht
    · exact self
  · unfold oneRaw; split
    · exact tail_of ((List.dropWhile_suffix _).trans ht)
    · exact self
  · exact self
theorem scanGo_suffix (C : Cfg) (src : List UInt8) (l : List Item) : (scanGo C src l).at_ <:+ l ∧ (scanGo C src l).l <:+ (scanGo C src l).at_ ∧ (((scanGo C src l).tok = -1 ∧ (scanGo C src l).at_ = [] ∧ (scanGo C src l).l = []) ∨ ((scanGo C src l).tok ≠ -1 ∧ (scanGo C src l).l.length < (scanGo C src l).at_.length)) := by
  induction hn : l.length using Nat.strongRecOn generalizing l with
  | _ n ih =>
    subst hn
    have hm := more_le (isWh C.white) l
    have hs := more_suffix (isWh C.white) l
    have h1 := oneAt_lt C src (more (isWh C.white) l)
    have h2 := oneAt_suffix C src (more (isWh C.white) l)
    cases hr : (oneAt C src (more (isWh C.white) l)).redo with
    | true =>
      obtain ⟨h3, -⟩ := oneAt_redo hr
      obtain ⟨i1, i2, i3⟩ := ih _ (by omega) (oneAt C src (more (isWh C.white) l)).l rfl
      rw [scanGo_redo hr]
      exact ⟨i1.trans (h2.trans hs), i2, i3⟩
    | false =>
      rw [scanGo_stop hr]
      refine ⟨hs, h2, ?_⟩
      rcases h1 with h | h
      · exact .inl ⟨h.1, h.2.1, h.2.2.1⟩
      · exact .inr ⟨h.1, h.2.1⟩

theorem bytes_pos {src : List UInt8} {l : List Item} (h : l <:+ items src) : (bytesOf l).length ≤ src.length ∧ (l ≠ [] → 0 < (bytesOf l).length) := by
  obtain ⟨pre, hp⟩ := h
  have hb := bytesOf_items src
  rw [← hp, bytesOf_append] at hb
  refine ⟨by rw [← hb, List.length_append]; omega, fun hne => ?_⟩
  have := length_le_bytes (l := l) (fun c hc => items_n (src := src) (by rw [← hp]; exact List.mem_append_right _ hc))
  have h0 : 0 < l.length := List.length_pos_iff.2 hne
  omega
theorem bytes_suffix {src : List UInt8} {a b : List Item} (h : a <:+ b) (hb : b <:+ items src) : (bytesOf a).length ≤ (bytesOf b).length ∧ (a.length < b.length → (bytesOf a).length < (bytesOf b).length) := by
  obtain ⟨pre, rfl⟩ := h
  rw [bytesOf_append, List.length_append]
  refine ⟨by omega, fun hlt => ?_⟩
  have hpre : pre ≠ [] := by rintro rfl; simp at hlt
  obtain ⟨p0, hp⟩ := hb
  have := length_le_bytes (l := pre) (fun c hc => items_n (src := src) (by rw [← hp]; exact List.mem_append_right _ (List.mem_append_left _ hc)))
  have h0 : 0 < pre.length := List.length_pos_iff.2 hpre
  omega
theorem offOf_mono {src : List UInt8} {a b : List Item} (h : a <:+ b) (hb : b <:+ items src) : offOf src b ≤ offOf src a ∧ (a.length < b.length → offOf src b < offOf src a) ∧ offOf src a ≤ src.length := by
  have h1 := bytes_suffix h hb
  have h2 := bytes_pos hb
  have h3 := bytes_pos (h.trans hb)
  unfold offOf
  refine ⟨by omega, fun hlt => ?_, by omega⟩
  have := h1.2 hlt
  omega
theorem offOf_nil (src : List UInt8) : offOf src [] = src.length := by unfold offOf; rw [bytesOf_nil]; rfl
theorem offOf_items (src : List UInt8) : offOf src (items src) = 0 := by unfold offOf; rw [bytesOf_items]; omega
theorem txt_size (src : List UInt8) (st : Nat) (l : List Item) : txt src st l = (src.drop st).take (offOf src l - st) := rfl

/-- Tokens lie one behind another. -/
def Covers (src : List UInt8) : Nat → List K.S37 → Prop
  | _, [] => False
  | at_, [t] => t.f0 = -1 ∧ t.f3.f0 = src.length
  | at_, t :: u :: l => (at_ : Int) ≤ t.f2.f0 ∧ t.f2.f0 < t.f3.f0 ∧ t.f3.f0 ≤ src.length ∧ t.f1.data.toList = (src.drop t.f2.f0.toNat).take (t.f3.f0.toNat - t.f2.f0.toNat) ∧ Covers src t.f3.f0.toNat (u :: l)
theorem toks_ne (C : Cfg) (src : List UInt8) (l : List Item) : ∃ t ts, (toks C src l).map (tokOf src) = t :: ts := by
  have := (toks_len C src l).1
  cases h : toks C src l with
  | nil => rw [h] at this; simp at this
  | cons a b => exact ⟨_, _, rfl⟩
theorem covers_toks (C : Cfg) (src : List UInt8) (l : List Item) (hl : l <:+ items src) (a : Nat) (ha : a ≤ offOf src l) : Covers src a ((toks C src l).map (tokOf src)) := by
  induction hn : l.length using Nat.strongRecOn generalizing l a with
  | _ n ih =>
    subst hn
    obtain ⟨h1, h2, h3⟩ := scanGo_suffix C src l
    rcases h3 with h3 | h3
    · rw [toks_end h3.1]
      refine ⟨h3.1, ?_⟩
      show ((offOf src (scanGo C src l).l : Nat) : Int) = _
      rw [h3.2.2, offOf_nil]
    · rcases scanGo_lt C src l with h4 | h4
      · exact absurd h4.1 h3.1
      rw [toks_step h4.1 h4.2, List.map_cons]
      have key := ih _ h4.2 _ (h2.trans (h1.trans hl)) (offOf src (scanGo C src l).l) (Nat.le_refl _) rfl
      have o1 := offOf_mono h1 hl
      have o2 := offOf_mono h2 (h1.trans hl)
      obtain ⟨t, ts, hts⟩ := toks_ne C src (scanGo C src l).l
      rw [hts] at key ⊢
      refine ⟨?_, ?_, ?_, ?_, ?_⟩
      · show ((a : Nat) : Int) ≤ ((offOf src (scanGo C src l).at_ : Nat) : Int); omega
      · show ((offOf src (scanGo C src l).at_ : Nat) : Int) < ((offOf src (scanGo C src l).l : Nat) : Int); have := o2.2.1 h3.2; omega
      · show ((offOf src (scanGo C src l).l : Nat) : Int) ≤ _; have := o2.2.2; omega
      · rfl
      · exact key
end Go.Proofs.YtmfihkgbfoapaaaDoor
