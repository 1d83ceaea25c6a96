/- spec.Valid. -/
import Derived.Test.YtmfihkgbfoapaaaDoorS2
namespace Go.Proofs.YtmfihkgbfoapaaaDoor
set_option linter.unusedVariables false
set_option linter.unusedSimpArgs false
open Go Go.RowKit Go.Lib Go.BigFrame Go.Proofs.YtmfihkgbfoapaaaDoorW.PrintWords

theorem SrcAt.reads {B : Nat} {w : World} {a : Option Addr} {k : Nat} {src : List UInt8} (h : SrcAt B w a k src) : ReadsInt w .u8 a src.length (ints src) := by
  have hm : maxLen ≤ 9223372036854775807 := by unfold maxLen; omega
  refine ⟨ints_length _, by have := h.1; have := h.2.1; omega, fun h0 => ?_⟩
  obtain ⟨g, o, rfl, _, hc⟩ := h.2.2 h0
  refine ⟨_, rfl, fun j hj => ?_⟩
  have e : (ints src).getD j 0 = (gb src j : Nat) := rd_ints src j
  rw [e, ← hc j hj]
  unfold Addr.add
  split <;> simp_all
theorem ints_drop (l : List UInt8) (n : Nat) : (ints l).drop n = ints (l.drop n) := by simp [ints, List.map_drop]
def allGood (l : List Item) : Bool := l.all fun c => !c.bad
theorem allGood_nil : allGood [] = true := rfl

set_option maxRecDepth 100000 in
theorem valid_spec (w : World) (a : Option Addr) (k : Nat) (src : List UInt8) (hs : SrcAt w.heap.size w a k src) :
    Calls Tryd.prog 25 #[.slice a src.length k] w fun e w' => e = .returned (.bool (allGood (items src))) ∧ Below w.heap.size w w' := by
  have h1 := hs.1
  have h2 := hs.2.1
  unfold maxLen at h2
  have hr := hs.reads
  have HS := Lib.hid hr
  clear hs hr
  go_enter Tryd.func25, Tryd.ntmps25
  go_wp2_with (fail)
  go_loopg [0] src.length (fun kk t wr => ∃ (A : Option Addr) (c m : Nat) (l : List UInt8), l.length = kk ∧ m = l.length ∧ t = .slice A m c ∧ l.length ≤ c ∧ c ≤ k ∧ ReadsInt wr .u8 A l.length (ints l) ∧ allGood (items l) = allGood (items src) ∧ Below w.heap.size w wr)
  case atStart => exact ⟨a, k, src.length, src, rfl, rfl, rfl, h1, Nat.le_refl _, HS.out, rfl, Below.refl _ _⟩
  case round =>
    obtain ⟨A, c, m, l, rfl, rfl, rfl, hlc, hck, hr, hg, hb⟩ := hrel
    have HH := Lib.hid (And.intro hr (And.intro hg hb))
    clear hr hg hb
    by_cases h0 : 0 < l.length
    · have HD := Lib.hid (dec_spec wr A c l (Kd.C_of_reads (readsInt_of.1 HH.out.1)) hlc h0)
      by_cases hbad : (hdItem l).bad = true
      · have e0 : specDec l = (0, 0) := by unfold specDec; rw [if_pos hbad]
        go_wp2_with (go_at_call 37; refine (HD.out).mono ?_; rw [e0]; rintro e w1 ⟨rfl, hb1⟩; have HB := Lib.hid hb1; clear hb1)
        go_ret
        refine ⟨?_, HH.out.2.2.trans (HB.out.mono HH.out.2.2.size)⟩
        rw [← HH.out.2.1, items_cons h0]
        show _ = Ending.returned (.bool (!(hdItem l).bad && _))
        rw [hbad]; rfl
      · have e0 : specDec l = hd l := by unfold specDec; rw [if_neg hbad]
        have hn1 := hd_pos l
        have hn2 := hd_le h0
        have hst : allGood (items l) = allGood (items (l.drop (hd l).2)) := by
          rw [items_cons h0]
          show (!(hdItem l).bad && _) = _
          rw [Bool.eq_false_iff.2 hbad]; rfl
        have HG := Lib.hid hst
        clear hst
        generalize hp : hd l = p at *
        obtain ⟨r, n⟩ := p
        simp only at *
        have HE := Lib.hid e0
        clear hp e0
        rcases Nat.lt_or_ge n c with hcn | hcn
        · go_wp2_with (go_at_call 37; refine (HD.out).mono ?_; rw [HE.out]; rintro e w1 ⟨rfl, hb1⟩; have HB := Lib.hid hb1; clear hb1)
          have hR := (HH.out.1.below (HB.out)).drop_ n hn2 hlc
          rw [ints_drop, if_neg (by omega)] at hR
          have hB := HH.out.2.2.trans (HB.out.mono HH.out.2.2.size)
          have hA := HG.out.symm.trans HH.out.2.1
          go_roundg (l.length - n)
          case measure => omega
          case rel => exact ⟨A.map (·.add n), c - n, l.length - n, l.drop n, List.length_drop, List.length_drop.symm, rfl, by rw [List.length_drop]; omega, by omega, by rw [List.length_drop]; exact hR, hA, hB⟩
        · obtain rfl : c = n := by omega
          go_wp2_with (go_at_call 37; refine (HD.out).mono ?_; rw [HE.out]; rintro e w1 ⟨rfl, hb1⟩; have HB := Lib.hid hb1; clear hb1)
          have hR := (HH.out.1.below (HB.out)).drop_ c hn2 hlc
          rw [ints_drop, if_pos rfl] at hR
          have hB := HH.out.2.2.trans (HB.out.mono HH.out.2.2.size)
          have hA := HG.out.symm.trans HH.out.2.1
          go_roundg (l.length - c)
          case measure => omega
          case rel => exact ⟨A, 0, 0, l.drop c, List.length_drop, by rw [List.length_drop]; omega, rfl, by rw [List.length_drop]; omega, by omega, by rw [List.length_drop]; exact hR, hA, hB⟩
    · go_wp2_with (fail)
      go_ret
      have : l = [] := List.eq_nil_of_length_eq_zero (by omega)
      refine ⟨?_, HH.out.2.2⟩
      rw [← HH.out.2.1, this, items_nil]; rfl
end Go.Proofs.YtmfihkgbfoapaaaDoor
