/- spec.Valid. laws.FnInvalid, walked. laws.sizes; laws.FnSizes, walked. -/
import Derived.Test.YtmfihkgbfoapaaaDoorS2
import Derived.Test.YtmfihkgbfoapaaaDoorP1
import Derived.Test.YtmfihkgbfoapaaaDoorK3
import Derived.Test.YtmfihkgbfoapaaaDoorR0
import Derived.Test.YtmfihkgbfoapaaaDoorM4
namespace Go.Proofs.YtmfihkgbfoapaaaDoor
set_option linter.unusedVariables false
set_option linter.unusedSimpArgs false
open Go Go.RowKit Go.Lib Go.BigFrame Go.Proofs.YtmfihkgbfoapaaaDoorW.PrintWords

theorem SrcAt.reads {B : Nat} {w : World} {a : Option Addr} {k : Nat} {src : List UInt8} (h : SrcAt B w a k src) : ReadsInt w .u8 a src.length (ints src) := by
  have hm : maxLen ≤ 9223372036854775807 := by unfold maxLen; omega
  refine ⟨ints_length _, by have := h.1; have := h.2.1; omega, fun h0 => ?_⟩
  obtain ⟨g, o, rfl, _, hc⟩ := h.2.2 h0
  refine ⟨_, rfl, fun j hj => ?_⟩
  have e : (ints src).getD j 0 = (gb src j : Nat) := rd_ints src j
  rw [e, ← hc j hj]
  unfold Addr.add
  split <;> simp_all
theorem ints_drop (l : List UInt8) (n : Nat) : (ints l).drop n = ints (l.drop n) := by simp [ints, List.map_drop]
def allGood (l : List Item) : Bool := l.all fun c => !c.bad
theorem allGood_nil : allGood [] = true := rfl

set_option maxRecDepth 100000 in
theorem valid_spec (w : World) (a : Option Addr) (k : Nat) (src : List UInt8) (hs : SrcAt w.heap.size w a k src) :
    Calls Tryd.prog 25 #[.slice a src.length k] w fun e w' => e = .returned (.bool (allGood (items src))) ∧ Below w.heap.size w w' := by
  have h1 := hs.1
  have h2 := hs.2.1
  unfold maxLen at h2
  have hr := hs.reads
  have HS := Lib.hid hr
  clear hs hr
  go_enter Tryd.func25, Tryd.ntmps25
  go_wp2_with (fail)
  go_loopg [0] src.length (fun kk t wr => ∃ (A : Option Addr) (c m : Nat) (l : List UInt8), l.length = kk ∧ m = l.length ∧ t = .slice A m c ∧ l.length ≤ c ∧ c ≤ k ∧ ReadsInt wr .u8 A l.length (ints l) ∧ allGood (items l) = allGood (items src) ∧ Below w.heap.size w wr)
  case atStart => exact ⟨a, k, src.length, src, rfl, rfl, rfl, h1, Nat.le_refl _, HS.out, rfl, Below.refl _ _⟩
  case round =>
    obtain ⟨A, c, m, l, rfl, rfl, rfl, hlc, hck, hr, hg, hb⟩ := hrel
    have HH := Lib.hid (And.intro hr (And.intro hg hb))
    clear hr hg hb
    by_cases h0 : 0 < l.length
    · have HD := Lib.hid (dec_spec wr A c l (Kd.C_of_reads (readsInt_of.1 HH.out.1)) hlc h0)
      by_cases hbad : (hdItem l).bad = true
      · have e0 : specDec l = (0, 0) := by unfold specDec; rw [if_pos hbad]
        go_wp2_with (go_at_call 37; refine (HD.out).mono ?_; rw [e0]; rintro e w1 ⟨rfl, hb1⟩; have HB := Lib.hid hb1; clear hb1)
        go_ret
        refine ⟨?_, HH.out.2.2.trans (HB.out.mono HH.out.2.2.size)⟩
        rw [← HH.out.2.1, items_cons h0]
        show _ = Ending.returned (.bool (!(hdItem l).bad && _))
        rw [hbad]; rfl
      · have e0 : specDec l = hd l := by unfold specDec; rw [if_neg hbad]
        have hn1 := hd_pos l
        have hn2 := hd_le h0
        have hst : allGood (items l) = allGood (items (l.drop (hd l).2)) := by
          rw [items_cons h0]
          show (!(hdItem l).bad && _) = _
          rw [Bool.eq_false_iff.2 hbad]; rfl
        have HG := Lib.hid hst
        clear hst
        generalize hp : hd l = p at *
        obtain ⟨r, n⟩ := p
        simp only at *
        have HE := Lib.hid e0
        clear hp e0
        rcases Nat.lt_or_ge n c with hcn | hcn
        · go_wp2_with (go_at_call 37; refine (HD.out).mono ?_; rw [HE.out]; rintro e w1 ⟨rfl, hb1⟩; have HB := Lib.hid hb1; clear hb1)
          have hR := (HH.out.1.below (HB.out)).drop_ n hn2 hlc
          rw [ints_drop, if_neg (by omega)] at hR
          have hB := HH.out.2.2.trans (HB.out.mono HH.out.2.2.size)
          have hA := HG.out.symm.trans HH.out.2.1
          go_roundg (l.length - n)
          case measure => omega
          case rel => exact ⟨A.map (·.add n), c - n, l.length - n, l.drop n, List.length_drop, List.length_drop.symm, rfl, by rw [List.length_drop]; omega, by omega, by rw [List.length_drop]; exact hR, hA, hB⟩
        · obtain rfl : c = n := by omega
          go_wp2_with (go_at_call 37; refine (HD.out).mono ?_; rw [HE.out]; rintro e w1 ⟨rfl, hb1⟩; have HB := Lib.hid hb1; clear hb1)
          have hR := (HH.out.1.below (HB.out)).drop_ c hn2 hlc
          rw [ints_drop, if_pos rfl] at hR
          have hB := HH.out.2.2.trans (HB.out.mono HH.out.2.2.size)
          have hA := HG.out.symm.trans HH.out.2.1
          go_roundg (l.length - c)
          case measure => omega
          case rel => exact ⟨A, 0, 0, l.drop c, List.length_drop, by rw [List.length_drop]; omega, rfl, by rw [List.length_drop]; omega, by omega, by rw [List.length_drop]; exact hR, hA, hB⟩
    · go_wp2_with (fail)
      go_ret
      have : l = [] := List.eq_nil_of_length_eq_zero (by omega)
      refine ⟨?_, HH.out.2.2⟩
      rw [← HH.out.2.1, this, items_nil]; rfl
end Go.Proofs.YtmfihkgbfoapaaaDoor
namespace Go.Proofs.YtmfihkgbfoapaaaDoor
set_option linter.unusedVariables false
set_option linter.unusedSimpArgs false
open Go Go.RowKit Go.Lib Go.BigFrame Go.Proofs.YtmfihkgbfoapaaaDoorW.PrintWords

/-- What impl.Tokens leaves. -/
def TokPost (w : World) (C : Cfg) (src : List UInt8) (e : Ending) (w' : World) : Prop :=
  ∃ A c, e = .returned (.tuple #[.slice A ((toks C src (startL src)).map (tokOf src)).length c, .int .i64 (errNum C src : Nat), .int .i64 (errNum C src : Nat)]) ∧ ((toks C src (startL src)).map (tokOf src)).length ≤ c ∧
    Kd.C K.k37 w' A ((toks C src (startL src)).map (tokOf src)).length ((toks C src (startL src)).map (tokOf src)) ∧ Below w.heap.size w w'
theorem tokens_at (w0 w : World) (a1 a2 : Option Addr) (k1 k2 : Nat) (src : List UInt8) (sz : List Int) (s : Stp) (h : s.Ok) (hb : Below w0.heap.size w0 w)
    (hs : SrcAt w0.heap.size w0 a1 k1 src) (hsz : SzAt w.heap.size w a2 sz) (hl : src.length ≤ 10000000000) (hv : Vars w0.heap.size w0) :
    Calls Tryd.prog 24 #[.slice a1 src.length k1, .slice a2 sz.length k2, .agg #[.bool s.d, .int .i64 s.m, .int .u64 s.wh, .bool s.cu, .string s.f1, .string s.f2]] w (TokPost w s.cfg src) := by
  refine (tokens_fit w a1 a2 k1 k2 src sz s h (hs.up hb hb.size) hsz (by unfold Fits; omega) hl ((hv.move hb).mono hb.size)).mono ?_
  rintro e w' ⟨v, rfl, hR, hb'⟩
  obtain ⟨A, c, rfl, hc, hC⟩ := Kd.R_reads hR
  rw [errNum_wrap _ _ hl]
  exact ⟨A, c, rfl, hc, hC, hb'⟩
theorem works_at (w0 w : World) (hb : Below w0.heap.size w0 w) (hv : Vars w0.heap.size w0) : Calls Tryd.prog 23 #[] w fun e w' => e = .returned (.bool true) ∧ Below w.heap.size w w' :=
  works_spec _ _ (Nat.le_refl _) ((hv.move hb).mono hb.size)
theorem boxed (w : World) (s : Stp) : Below w.heap.size w (w.alloc (Obj.cells #[.bool s.d, .int .i64 s.m, .int .u64 s.wh, .bool s.cu, .string s.f1, .string s.f2] 25)) := (Below.refl _ w).alloc (Nat.le_refl _) _
theorem boxed_lt (w : World) (o : Obj) : w.heap.size < (w.alloc o).heap.size := by rw [World.size_alloc]; omega

theorem invalid_plain (C : Cfg) (src : List UInt8) (h : allGood (items src) = false) : decide ((0 : Int) < (errNum C src : Nat)) = true := by
  unfold allGood at h
  rw [List.all_eq_false] at h
  obtain ⟨c, hc, hb⟩ := h
  have := errNum_pos (C := C) hc (.inl (by simpa using hb))
  exact decide_eq_true (by omega)
set_option maxRecDepth 100000 in
set_option maxHeartbeats 1600000 in
theorem fninvalid (w : World) (a : Option Addr) (k : Nat) (src : List UInt8) (s : Stp) (hs : SrcAt w.heap.size w a k src) (hv : Vars w.heap.size w) :
    Calls Tryd.prog 6 #[.slice a src.length k, .agg #[.bool s.d, .int .i64 s.m, .int .u64 s.wh, .bool s.cu, .string s.f1, .string s.f2]] w fun e w' => e = .returned (.bool true) ∧ Below w.heap.size w w' := by
  by_cases hbig : (2147483647 : Int) < src.length
  · go_enter Tryd.func6, Tryd.ntmps6
    go_wp2_with (fail)
    go_ret
    exact ⟨rfl, boxed w s⟩
  · by_cases hf : s.f1.size ≤ 2147483647 ∧ s.f2.size ≤ 2147483647
    · have HH := Lib.hid (And.intro hs (And.intro hv (And.intro hf hbig)))
      clear hs hv hf
      go_enter Tryd.func6, Tryd.ntmps6
      go_upto_region 3 with (first
        | (go_at_call 20; refine (fits_yes _ s HH.out.2.2.1.1 HH.out.2.2.1.2).mono ?_; rintro e w1 ⟨rfl, hb1⟩))
      have hB1 : Below w.heap.size w w1 := (boxed w s).trans (hb1.mono (Nat.le_of_lt (boxed_lt _ _)))
      obtain ⟨c0, c1, c2, c3, c4, c5⟩ := set_loads (W := w1) (q := w.heap.size) (b1 := s.d) (m := s.m) (wh := s.wh) (b2 := s.cu) (s1 := s.f1) (s2 := s.f2) ((hb1.block _ (boxed_lt _ _)).trans (heap_alloc_new w _))
      have HB := Lib.hid hB1
      clear hb1 hB1
      obtain ⟨F, hF⟩ : ∃ F, s.fit = F := ⟨_, rfl⟩
      have HF := Lib.hid hF
      clear hF
      have HI := Lib.hid (invalid_plain F.cfg src)
      obtain ⟨ok, hok⟩ : ∃ b, allGood (items src) = b := ⟨_, rfl⟩
      rw [hok] at HI
      have HO := Lib.hid hok
      clear hok
      cases ok with
      | true =>
        go_wp2_with (first
          | (go_at_call 21; refine (fit_spec _ s (by have := HH.out.2.2.1.1; omega) (by have := HH.out.2.2.1.2; omega)).mono ?_; rw [HF.out]; rintro e w2 ⟨rfl, hb2⟩; have HB2 := Lib.hid (HB.out.trans (hb2.mono HB.out.size)); clear hb2 c0 c1 c2 c3 c4 c5)
          | (go_at_call 24; refine (tokens_at w _ a none k 0 src [] F (by rw [← HF.out]; exact s.fit_ok) HB2.out HH.out.1 (SzAt.nil _ _) (by have := HH.out.2.2.2; omega) HH.out.2.1).mono ?_; rintro e w3 ⟨A, c, rfl, hc, hC, hb3⟩; have HB3 := Lib.hid (HB2.out.trans (hb3.mono HB2.out.size)); clear hb3 hC hc)
          | (go_at_call 23; refine (works_at w _ HB3.out HH.out.2.1).mono ?_; rintro e w4 ⟨rfl, hb4⟩; have HB4 := Lib.hid (HB3.out.trans (hb4.mono HB3.out.size)); clear hb4)
          | (go_at_call 25; refine (valid_spec _ a k src (HH.out.1.up HB4.out HB4.out.size)).mono ?_; rw [HO.out]; rintro e w5 ⟨rfl, hb5⟩; have HB5 := Lib.hid (HB4.out.trans (hb5.mono HB4.out.size)); clear hb5))
        go_ret
        exact ⟨rfl, HB5.out⟩
      | false =>
        have hpos := HI.out rfl
        go_wp2_with (first
          | (go_at_call 21; refine (fit_spec _ s (by have := HH.out.2.2.1.1; omega) (by have := HH.out.2.2.1.2; omega)).mono ?_; rw [HF.out]; rintro e w2 ⟨rfl, hb2⟩; have HB2 := Lib.hid (HB.out.trans (hb2.mono HB.out.size)); clear hb2 c0 c1 c2 c3 c4 c5)
          | (go_at_call 24; refine (tokens_at w _ a none k 0 src [] F (by rw [← HF.out]; exact s.fit_ok) HB2.out HH.out.1 (SzAt.nil _ _) (by have := HH.out.2.2.2; omega) HH.out.2.1).mono ?_; rintro e w3 ⟨A, c, rfl, hc, hC, hb3⟩; have HB3 := Lib.hid (HB2.out.trans (hb3.mono HB2.out.size)); clear hb3 hC hc)
          | (go_at_call 23; refine (works_at w _ HB3.out HH.out.2.1).mono ?_; rintro e w4 ⟨rfl, hb4⟩; have HB4 := Lib.hid (HB3.out.trans (hb4.mono HB3.out.size)); clear hb4)
          | (go_at_call 25; refine (valid_spec _ a k src (HH.out.1.up HB4.out HB4.out.size)).mono ?_; rw [HO.out]; rintro e w5 ⟨rfl, hb5⟩; have HB5 := Lib.hid (HB4.out.trans (hb5.mono HB4.out.size)); clear hb5))
        go_ret
        exact ⟨by show Ending.returned (.bool (decide (0 < errNum F.cfg src))) = _; rw [decide_eq_true (by have := of_decide_eq_true hpos; omega)], HB5.out⟩
    · have HH := Lib.hid hf
      clear hs hv hf
      go_enter Tryd.func6, Tryd.ntmps6
      go_wp2_with (first
        | (go_at_call 20; refine (fits_no _ s HH.out).mono ?_; rintro e w1 ⟨rfl, hb1⟩))
      go_ret
      exact ⟨rfl, (boxed w s).trans (hb1.mono (Nat.le_of_lt (boxed_lt _ _)))⟩
end Go.Proofs.YtmfihkgbfoapaaaDoor
namespace Go.Proofs.YtmfihkgbfoapaaaDoor
set_option linter.unusedVariables false
set_option linter.unusedSimpArgs false
open Go Go.RowKit Go.Lib Go.BigFrame Go.Proofs.YtmfihkgbfoapaaaDoorW.PrintWords

def size1 (z : Int) : Int := wrap64 ((Int.tmod (wrap64 ((Int.tmod z 100) + 100)) 100) + 1)
theorem sizes_from (l : List Int) (hl : l.length < 17592186044416) (k : Nat) (j : Nat) (acc : List Int) (hj : j ≤ l.length) (ha : acc.length = j) (hk : l.length - j < k) :
    K.laws_sizes.l0 k acc l (l.length : Int) j = some (acc ++ (l.drop j).map size1) := by
  induction k generalizing j acc with
  | zero => omega
  | succ k ih =>
    unfold K.laws_sizes.l0
    by_cases h : j = l.length
    · subst h
      rw [if_neg (by omega)]
      simp
    · rw [if_pos (by omega), if_pos (by omega), if_pos (by omega), if_pos (by omega)]
      have hw : wrap64 ((j : Int) + 1) = ((j + 1 : Nat) : Int) := by rw [wrap64_id (by omega) (by omega)]; omega
      rw [hw, ih (j + 1) _ (by omega) (by simp; omega) (by omega)]
      have hg : rd l (j : Int) = l[j]'(by omega) := by
        unfold rd; simp [List.getD_eq_getElem?_getD, List.getElem?_eq_getElem (show j < l.length by omega)]
      rw [List.drop_eq_getElem_cons (show j < l.length by omega), List.map_cons, hg, List.append_assoc]
      rfl
theorem sizes_val (l : List Int) (hl : l.length < 17592186044416) : K.laws_sizes.f (l.length + 1) l = some (l.map size1) := by
  unfold K.laws_sizes.f
  have := sizes_from l hl (l.length + 1) 0 [] (by omega) rfl (by omega)
  simpa using this
theorem SzAt.of_C {w : World} {A : Option Addr} {l : List Int} (h : Kd.C (Kd.int .i64) w A l.length l) (hl : l.length ≤ maxLen) : SzAt w.heap.size w A l := by
  refine ⟨hl, fun h0 => ?_⟩
  have key := fun (j : Nat) (hj : j < l.length) => Kd.at_int h (j : Int) (by omega) (by omega)
  obtain ⟨ad, rfl, hc⟩ := key 0 h0
  obtain ⟨g, o, spot⟩ := ad
  have hspot : spot = none := by simpa [Addr.add] using World.cell?_spot hc
  subst hspot
  refine ⟨g, o, rfl, ?_, fun j hj => ?_⟩
  · have := lt_size hc
    simpa [Addr.add] using this
  · obtain ⟨ad, e, hc⟩ := key j hj
    cases e
    rw [Int.toNat_natCast, Addr.add_lit] at hc
    rw [hc]
    unfold rd; simp
theorem SzAt.C {B : Nat} {w : World} {A : Option Addr} {l : List Int} (h : SzAt B w A l) (hl : l.length ≤ 9223372036854775807) : Kd.C (Kd.int .i64) w A l.length l := by
  refine Kd.C_of_reads (readsInt_of.1 ⟨rfl, hl, fun h0 => ?_⟩)
  obtain ⟨g, o, rfl, _, hc⟩ := h.2 h0
  refine ⟨_, rfl, fun j hj => ?_⟩
  rw [Addr.add_lit]; exact hc j hj
theorem SzAt.up {B B' : Nat} {w w1 : World} {a : Option Addr} {l : List Int} (h : SzAt B w a l) (hb : Below B w w1) (hB : B ≤ B') : SzAt B' w1 a l := by
  obtain ⟨h1, h2⟩ := h.of (w' := w1) fun k hk => hb.block k hk
  refine ⟨h1, fun h0 => ?_⟩
  obtain ⟨g, o, ha, hg, hc⟩ := h2 h0
  exact ⟨g, o, ha, by omega, hc⟩
/-- laws.sizes gives a list of numbers. -/
def SizesPost (w : World) (l : List Int) (e : Ending) (w' : World) : Prop := ∃ A c, e = .returned (.slice A l.length c) ∧ SzAt w'.heap.size w' A (l.map size1) ∧ Below w.heap.size w w'
theorem sizes_at (w0 w : World) (hb : Below w0.heap.size w0 w) (a : Option Addr) (c : Nat) (l : List Int) (hs : SzAt w0.heap.size w0 a l) (hl : l.length ≤ 2147483647) (hc : l.length ≤ c) :
    Calls Tryd.prog 28 #[.slice a l.length c] w (SizesPost w l) := by
  refine (K.laws_sizes.calls (l.length + 1) a c l (l.map size1) w ((hs.up hb hb.size).C (by omega)) hc (sizes_val l (by omega))).mono ?_
  rintro e w' ⟨v, rfl, hR, hb'⟩
  obtain ⟨A, c', rfl, hc', hC⟩ := Kd.R_reads hR
  have hm : 2147483647 ≤ maxLen := by unfold maxLen; omega
  exact ⟨A, c', by rw [List.length_map], SzAt.of_C hC (by rw [List.length_map]; omega), hb'⟩
theorem tokens_atn (w0 w : World) (a1 a2 : Option Addr) (k1 k2 n2 : Nat) (src : List UInt8) (sz : List Int) (hn : sz.length = n2) (s : Stp) (h : s.Ok) (hb : Below w0.heap.size w0 w)
    (hs : SrcAt w0.heap.size w0 a1 k1 src) (hsz : SzAt w.heap.size w a2 sz) (hl : src.length ≤ 10000000000) (hv : Vars w0.heap.size w0) :
    Calls Tryd.prog 24 #[.slice a1 src.length k1, .slice a2 n2 k2, .agg #[.bool s.d, .int .i64 s.m, .int .u64 s.wh, .bool s.cu, .string s.f1, .string s.f2]] w (TokPost w s.cfg src) := by
  subst hn
  exact tokens_at w0 w a1 a2 k1 k2 src sz s h hb hs hsz hl hv

theorem toks_same (C : Cfg) (src : List UInt8) (hl : src.length ≤ 10000000000) : K.laws_same.f (((toks C src (startL src)).map (tokOf src)).length + 1) ((toks C src (startL src)).map (tokOf src)) ((toks C src (startL src)).map (tokOf src)) = some true := by
  have h1 := toks_len C src (startL src)
  have h2 := startL_le src
  exact same_refl _ (by rw [List.length_map]; exact h1.1) (by rw [List.length_map]; omega)
theorem same_at (w : World) (A1 A2 : Option Addr) (c1 c2 : Nat) (xs ys : List K.S37) (h1 : Kd.C K.k37 w A1 xs.length xs) (hc1 : xs.length ≤ c1) (h2 : Kd.C K.k37 w A2 ys.length ys) (hc2 : ys.length ≤ c2) (k : Nat) (h : K.laws_same.f k xs ys = some true) :
    Calls Tryd.prog 29 #[.slice A1 xs.length c1, .slice A2 ys.length c2] w fun e w' => e = .returned (.bool true) ∧ Below w.heap.size w w' :=
  K.laws_same.calls k A1 c1 xs A2 c2 ys true w h1 hc1 h2 hc2 h

theorem set_stores {w : World} {q : Nat} {a0 a1 a2 a3 a4 a5 : Value} (h : w.heap[q]? = some (.cells #[a0, a1, a2, a3, a4, a5] 25 (0, 0))) (b1 : Bool) (m wh : Int) (b2 : Bool) (s1 s2 : ByteArray) {W : World}
    (hW : (((((w.setCell ⟨q, 0, none⟩ (.bool b1)).setCell ⟨q, 1, none⟩ (.int .i64 m)).setCell ⟨q, 2, none⟩ (.int .u64 wh)).setCell ⟨q, 3, none⟩ (.bool b2)).setCell ⟨q, 4, none⟩ (.string s1)).setCell ⟨q, 5, none⟩ (.string s2) = W) :
    W.heap[q]? = some (.cells #[.bool b1, .int .i64 m, .int .u64 wh, .bool b2, .string s1, .string s2] 25 (0, 0)) ∧ Below q w W ∧ W.heap.size = w.heap.size := by
  subst hW
  have h2 := Go.Lib.heap_setCell_same (i := 0) h (.bool b1)
  have h3 := Go.Lib.heap_setCell_same (i := 1) h2 (.int .i64 m)
  have h4 := Go.Lib.heap_setCell_same (i := 2) h3 (.int .u64 wh)
  have h5 := Go.Lib.heap_setCell_same (i := 3) h4 (.bool b2)
  have h6 := Go.Lib.heap_setCell_same (i := 4) h5 (.string s1)
  have h7 := Go.Lib.heap_setCell_same (i := 5) h6 (.string s2)
  have hq := fun (v : World) (i : Nat) (u : Value) (h : Below q w v) => h.setCell (p := ⟨q, i, none⟩) (Nat.le_refl q) u
  exact ⟨h7, hq _ _ _ (hq _ _ _ (hq _ _ _ (hq _ _ _ (hq _ _ _ (hq _ _ _ (Below.refl _ _)))))), by simp only [World.size_setCell]⟩
set_option maxRecDepth 100000 in
set_option maxHeartbeats 1600000 in
theorem fnsizes (w : World) (a : Option Addr) (k : Nat) (src : List UInt8) (a2 : Option Addr) (k2 : Nat) (l : List Int) (s : Stp) (hs : SrcAt w.heap.size w a k src) (hz : SzAt w.heap.size w a2 l) (hzc : l.length ≤ k2) (hzw : ∀ z ∈ l, (Lit.int .i64 z).wf = true) (hv : Vars w.heap.size w) :
    Calls Tryd.prog 12 #[.slice a src.length k, .slice a2 l.length k2, .agg #[.bool s.d, .int .i64 s.m, .int .u64 s.wh, .bool s.cu, .string s.f1, .string s.f2]] w fun e w' => e = .returned (.bool true) ∧ Below w.heap.size w w' := by
  clear hzw
  by_cases hbig : (2147483647 : Int) < src.length
  · clear hs hz hzc hv
    go_enter Tryd.func12, Tryd.ntmps12
    go_wp2_with (fail)
    go_ret
    exact ⟨rfl, boxed w s⟩
  by_cases hbig2 : (2147483647 : Int) < l.length
  · clear hs hz hzc hv
    go_enter Tryd.func12, Tryd.ntmps12
    go_wp2_with (fail)
    go_ret
    exact ⟨rfl, boxed w s⟩
  by_cases hf : s.f1.size ≤ 2147483647 ∧ s.f2.size ≤ 2147483647
  · have HH := Lib.hid (And.intro hs (And.intro hv (And.intro hf (And.intro hbig (And.intro hbig2 (And.intro hz hzc))))))
    clear hs hv hf hz hzc
    go_enter Tryd.func12, Tryd.ntmps12
    go_upto_region 3 with (first
      | (go_at_call 20; refine (fits_yes _ s HH.out.2.2.1.1 HH.out.2.2.1.2).mono ?_; rintro e w1 ⟨rfl, hb1⟩))
    have hB1 : Below w.heap.size w w1 := (boxed w s).trans (hb1.mono (Nat.le_of_lt (boxed_lt _ _)))
    have hn1 := (hb1.block _ (boxed_lt _ _)).trans (heap_alloc_new w _)
    obtain ⟨c0, c1, c2, c3, c4, c5⟩ := set_loads hn1
    have HB := Lib.hid (And.intro hB1 hn1)
    clear hb1 hB1 hn1
    obtain ⟨F, hF⟩ : ∃ F, s.fit = F := ⟨_, rfl⟩
    have HF := Lib.hid hF
    clear hF
    go_upto_region 4 with (first
      | (go_at_call 21; refine (fit_spec _ s (by have := HH.out.2.2.1.1; omega) (by have := HH.out.2.2.1.2; omega)).mono ?_; rw [HF.out]; rintro e w2 ⟨rfl, hb2⟩; have hn2 := (hb2.block _ (lt_of_heap HB.out.2)).trans HB.out.2; have f2 := frozen_of_heap hn2; have g := set_loads hn2; obtain ⟨g0, g1, g2, g3, g4, g5⟩ := g; have HB2 := Lib.hid (And.intro (HB.out.1.trans (hb2.mono HB.out.1.size)) hn2); clear hb2 c0 c1 c2 c3 c4 c5 hn2))
    obtain ⟨w3, hw3⟩ : ∃ W, (((((w2.setCell ⟨w.heap.size, 0, none⟩ (.bool F.d)).setCell ⟨w.heap.size, 1, none⟩ (.int .i64 F.m)).setCell ⟨w.heap.size, 2, none⟩ (.int .u64 F.wh)).setCell ⟨w.heap.size, 3, none⟩ (.bool F.cu)).setCell ⟨w.heap.size, 4, none⟩ (.string F.f1)).setCell ⟨w.heap.size, 5, none⟩ (.string F.f2) = W := ⟨_, rfl⟩
    rw [hw3]
    obtain ⟨n3, b3, z3⟩ := set_stores HB2.out.2 _ _ _ _ _ _ hw3
    clear hw3 f2 g0 g1 g2 g3 g4 g5
    obtain ⟨c0, c1, c2, c3, c4, c5⟩ := set_loads n3
    have HB3 := Lib.hid (And.intro (HB2.out.1.trans b3) n3)
    clear n3 b3 z3
    obtain ⟨ts, hts⟩ : ∃ ts, (toks F.cfg src (startL src)).map (tokOf src) = ts := ⟨_, rfl⟩
    have hsm := toks_same F.cfg src (by have := HH.out.2.2.2.1; omega)
    rw [hts] at hsm
    have HTS := Lib.hid (And.intro hts hsm)
    clear hsm
    clear hts
    obtain ⟨er, her⟩ : ∃ er, errNum F.cfg src = er := ⟨_, rfl⟩
    have HE := Lib.hid her
    clear her
    go_upto_region 5 with (first
      | (go_at_call 24; refine (tokens_at w _ a none k 0 src [] F (by rw [← HF.out]; exact s.fit_ok) HB3.out.1 HH.out.1 (SzAt.nil _ _) (by have := HH.out.2.2.2.1; omega) HH.out.2.1).mono ?_; unfold TokPost; rw [HTS.out.1, HE.out]; rintro e w4 ⟨A, c, rfl, hc, hC, hb4⟩; have HB4 := Lib.hid (And.intro (HB3.out.1.trans (hb4.mono HB3.out.1.size)) (And.intro ((hb4.block _ (lt_of_heap HB3.out.2)).trans HB3.out.2) (And.intro hc hC))); clear hb4 hC hc c0 c1 c2 c3 c4 c5))
    refine wp_region_mix (fun w' => w'.heap[w.heap.size]? = some (.cells #[.bool F.d, .int .i64 F.m, .int .u64 F.wh, .bool F.cu, .string F.f1, .string F.f2] 25 (0, 0))) [(false, 0), (false, 1), (false, 3), (true, 2), (true, 4), (false, 5), (false, 6), (false, 7), (false, 8), (false, 9), (false, 10), (false, 11)] (by kernel_rfl) (by kernel_rfl) HB4.out.2.1 ?_
    rw [wpMix]
    simp only [List.getElem?_toArray, List.getElem?_cons_zero, List.getElem?_cons_succ]
    refine wpQuiet_want rfl ?_
    intro K hK
    refine ⟨.slice a src.length k, fun w' hw' => ?_, hK _ ?_⟩
    · unfold Oper.quietAt
      go_simp
    clear hK K
    refine wpQuiet_nil ?_
    rw [wpMix]
    simp only [List.getElem?_toArray, List.getElem?_cons_zero, List.getElem?_cons_succ]
    refine wpQuiet_want rfl ?_
    intro K hK
    refine ⟨.slice a2 l.length k2, fun w' hw' => ?_, hK _ ?_⟩
    · unfold Oper.quietAt
      go_simp
    clear hK K
    refine wpQuiet_nil ?_
    rw [wpMix]
    simp only [List.getElem?_toArray, List.getElem?_cons_zero, List.getElem?_cons_succ]
    refine wpQuiet_want rfl ?_
    intro K hK
    refine ⟨.agg #[.bool F.d, .int .i64 F.m, .int .u64 F.wh, .bool F.cu, .string F.f1, .string F.f2], fun w' hw' => ?_, hK _ ?_⟩
    · obtain ⟨c0, c1, c2, c3, c4, c5⟩ := set_loads hw'
      unfold Oper.quietAt
      go_simp
    clear hK K
    refine wpQuiet_nil ?_
    rw [wpMix]
    simp only [List.getElem?_toArray, List.getElem?_cons_zero, List.getElem?_cons_succ]
    go_wp2_with (first
      | (go_at_call 28; refine (sizes_at w _ HB4.out.1.drew a2 k2 l HH.out.2.2.2.2.2.1 (by have := HH.out.2.2.2.2.1; omega) HH.out.2.2.2.2.2.2).mono ?_; rintro e w5 ⟨A5, c5, rfl, hz5, hb5⟩; have HB5 := Lib.hid (And.intro (HB4.out.1.drew.trans (hb5.mono HB4.out.1.size)) (And.intro ((hb5.block _ (lt_of_heap HB4.out.2.1)).trans HB4.out.2.1) (And.intro hz5 (Kd.C_below HB4.out.2.2.2 (show Below w4.heap.size w4 w5 from (Below.refl _ w4).drew.trans hb5))))); clear hz5 hb5))
    refine ⟨HB5.out.2.1, ?_⟩
    rw [wpMix]
    simp only [List.getElem?_toArray, List.getElem?_cons_zero, List.getElem?_cons_succ]
    go_wp2_with (first
      | (go_at_call 24; refine (tokens_atn w _ a A5 k c5 l.length src (l.map size1) (by rw [List.length_map]) F (by rw [← HF.out]; exact s.fit_ok) HB5.out.1 HH.out.1 HB5.out.2.2.1 (by have := HH.out.2.2.2.1; omega) HH.out.2.1).mono ?_; unfold TokPost; rw [HTS.out.1, HE.out]; rintro e w6 ⟨A6, c6, rfl, hc6, hC6, hb6⟩; have HB6 := Lib.hid (And.intro (HB5.out.1.trans (hb6.mono HB5.out.1.size)) (And.intro ((hb6.block _ (lt_of_heap HB5.out.2.1)).trans HB5.out.2.1) (And.intro hc6 (And.intro hC6 (Kd.C_below HB5.out.2.2.2 hb6))))); clear hc6 hC6 hb6))
    refine ⟨HB6.out.2.1, ?_⟩
    rw [wpMix]
    simp only [List.getElem?_toArray, List.getElem?_cons_zero, List.getElem?_cons_succ]
    refine wpQuiet_want rfl ?_
    intro K hK
    refine ⟨.tuple #[.slice A6 ts.length c6, .int .i64 (er : Nat), .int .i64 (er : Nat)], fun w' hw' => ?_, hK _ ?_⟩
    · unfold Oper.quietAt
      go_simp
    clear hK K
    refine wpQuiet_nil ?_
    rw [wpMix]
    simp only [List.getElem?_toArray, List.getElem?_cons_zero, List.getElem?_cons_succ]
    refine wpQuiet_want rfl ?_
    intro K hK
    refine ⟨.slice A6 ts.length c6, fun w' hw' => ?_, hK _ ?_⟩
    · unfold Oper.quietAt
      go_simp
    clear hK K
    refine wpQuiet_nil ?_
    rw [wpMix]
    simp only [List.getElem?_toArray, List.getElem?_cons_zero, List.getElem?_cons_succ]
    refine wpQuiet_want rfl ?_
    intro K hK
    refine ⟨.int .i64 (er : Nat), fun w' hw' => ?_, hK _ ?_⟩
    · unfold Oper.quietAt
      go_simp
    clear hK K
    refine wpQuiet_nil ?_
    rw [wpMix]
    simp only [List.getElem?_toArray, List.getElem?_cons_zero, List.getElem?_cons_succ]
    refine wpQuiet_want rfl ?_
    intro K hK
    refine ⟨.int .i64 (er : Nat), fun w' hw' => ?_, hK _ ?_⟩
    · unfold Oper.quietAt
      go_simp
    clear hK K
    refine wpQuiet_nil ?_
    rw [wpMix]
    simp only [List.getElem?_toArray, List.getElem?_cons_zero, List.getElem?_cons_succ]
    refine wpQuiet_want rfl ?_
    intro K hK
    refine ⟨.slice A6 ts.length c6, fun w' hw' => ?_, hK _ ?_⟩
    · unfold Oper.quietAt
      go_simp
    clear hK K
    refine wpQuiet_nil ?_
    rw [wpMix]
    simp only [List.getElem?_toArray, List.getElem?_cons_zero, List.getElem?_cons_succ]
    refine wpQuiet_want rfl ?_
    intro K hK
    refine ⟨.int .i64 (er : Nat), fun w' hw' => ?_, hK _ ?_⟩
    · unfold Oper.quietAt
      go_simp
    clear hK K
    refine wpQuiet_nil ?_
    rw [wpMix]
    simp only [List.getElem?_toArray, List.getElem?_cons_zero, List.getElem?_cons_succ]
    refine wpQuiet_want rfl ?_
    intro K hK
    refine ⟨.int .i64 (er : Nat), fun w' hw' => ?_, hK _ ?_⟩
    · unfold Oper.quietAt
      go_simp
    clear hK K
    refine wpQuiet_nil ?_
    rw [wpMix]
    go_wp2_with (first
      | (go_at_call 23; refine (works_at w _ HB6.out.1 HH.out.2.1).mono ?_; rintro e w7 ⟨rfl, hb7⟩; have HB7 := Lib.hid (And.intro (HB6.out.1.trans (hb7.mono HB6.out.1.size)) (And.intro (Kd.C_below HB6.out.2.2.2.1 hb7) (Kd.C_below HB6.out.2.2.2.2 hb7))); clear hb7)
      | (go_at_call 29; refine (same_at _ A A6 c c6 ts ts HB7.out.2.2 HB4.out.2.2.1 HB7.out.2.1 HB6.out.2.2.1 _ HTS.out.2).mono ?_; rintro e w8 ⟨rfl, hb8⟩; have HB8 := Lib.hid (HB7.out.1.trans (hb8.mono HB7.out.1.size)); clear hb8))
    go_ret
    exact ⟨rfl, HB8.out⟩
  · have HH := Lib.hid hf
    clear hs hv hf hz hzc
    go_enter Tryd.func12, Tryd.ntmps12
    go_wp2_with (first
      | (go_at_call 20; refine (fits_no _ s HH.out).mono ?_; rintro e w1 ⟨rfl, hb1⟩))
    go_ret
    exact ⟨rfl, (boxed w s).trans (hb1.mono (Nat.le_of_lt (boxed_lt _ _)))⟩
end Go.Proofs.YtmfihkgbfoapaaaDoor
