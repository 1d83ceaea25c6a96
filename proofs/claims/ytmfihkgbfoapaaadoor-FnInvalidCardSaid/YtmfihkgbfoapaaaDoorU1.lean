/- laws.FnInvalid, walked. -/
import Derived.Test.YtmfihkgbfoapaaaDoorU0
import Derived.Test.YtmfihkgbfoapaaaDoorP1
namespace Go.Proofs.YtmfihkgbfoapaaaDoor
set_option linter.unusedVariables false
set_option linter.unusedSimpArgs false
open Go Go.RowKit Go.Lib Go.BigFrame Go.Proofs.YtmfihkgbfoapaaaDoorW.PrintWords

/-- What impl.Tokens leaves. -/
def TokPost (w : World) (C : Cfg) (src : List UInt8) (e : Ending) (w' : World) : Prop :=
  ∃ A c, e = .returned (.tuple #[.slice A ((toks C src (startL src)).map (tokOf src)).length c, .int .i64 (errNum C src : Nat), .int .i64 (errNum C src : Nat)]) ∧ ((toks C src (startL src)).map (tokOf src)).length ≤ c ∧
    Kd.C K.k37 w' A ((toks C src (startL src)).map (tokOf src)).length ((toks C src (startL src)).map (tokOf src)) ∧ Below w.heap.size w w'
theorem tokens_at (w0 w : World) (a1 a2 : Option Addr) (k1 k2 : Nat) (src : List UInt8) (sz : List Int) (s : Stp) (h : s.Ok) (hb : Below w0.heap.size w0 w)
    (hs : SrcAt w0.heap.size w0 a1 k1 src) (hsz : SzAt w.heap.size w a2 sz) (hl : src.length ≤ 10000000000) (hv : Vars w0.heap.size w0) :
    Calls Tryd.prog 24 #[.slice a1 src.length k1, .slice a2 sz.length k2, .agg #[.bool s.d, .int .i64 s.m, .int .u64 s.wh, .bool s.cu, .string s.f1, .string s.f2]] w (TokPost w s.cfg src) := by
  refine (tokens_fit w a1 a2 k1 k2 src sz s h (hs.up hb hb.size) hsz (by unfold Fits; omega) hl ((hv.move hb).mono hb.size)).mono ?_
  rintro e w' ⟨v, rfl, hR, hb'⟩
  obtain ⟨A, c, rfl, hc, hC⟩ := Kd.R_reads hR
  rw [errNum_wrap _ _ hl]
  exact ⟨A, c, rfl, hc, hC, hb'⟩
theorem works_at (w0 w : World) (hb : Below w0.heap.size w0 w) (hv : Vars w0.heap.size w0) : Calls Tryd.prog 23 #[] w fun e w' => e = .returned (.bool true) ∧ Below w.heap.size w w' :=
  works_spec _ _ (Nat.le_refl _) ((hv.move hb).mono hb.size)
theorem boxed (w : World) (s : Stp) : Below w.heap.size w (w.alloc (Obj.cells #[.bool s.d, .int .i64 s.m, .int .u64 s.wh, .bool s.cu, .string s.f1, .string s.f2] 25)) := (Below.refl _ w).alloc (Nat.le_refl _) _
theorem boxed_lt (w : World) (o : Obj) : w.heap.size < (w.alloc o).heap.size := by rw [World.size_alloc]; omega

theorem invalid_plain (C : Cfg) (src : List UInt8) (h : allGood (items src) = false) : decide ((0 : Int) < (errNum C src : Nat)) = true := by
  unfold allGood at h
  rw [List.all_eq_false] at h
  obtain ⟨c, hc, hb⟩ := h
  have := errNum_pos (C := C) hc (.inl (by simpa using hb))
  exact decide_eq_true (by omega)
set_option maxRecDepth 100000 in
set_option maxHeartbeats 1600000 in
theorem fninvalid (w : World) (a : Option Addr) (k : Nat) (src : List UInt8) (s : Stp) (hs : SrcAt w.heap.size w a k src) (hv : Vars w.heap.size w) :
    Calls Tryd.prog 6 #[.slice a src.length k, .agg #[.bool s.d, .int .i64 s.m, .int .u64 s.wh, .bool s.cu, .string s.f1, .string s.f2]] w fun e w' => e = .returned (.bool true) ∧ Below w.heap.size w w' := by
  by_cases hbig : (2147483647 : Int) < src.length
  · go_enter Tryd.func6, Tryd.ntmps6
    go_wp2_with (fail)
    go_ret
    exact ⟨rfl, boxed w s⟩
  · by_cases hf : s.f1.size ≤ 2147483647 ∧ s.f2.size ≤ 2147483647
    · have HH := Lib.hid (And.intro hs (And.intro hv (And.intro hf hbig)))
      clear hs hv hf
      go_enter Tryd.func6, Tryd.ntmps6
      go_upto_region 3 with (first
        | (go_at_call 20; refine (fits_yes _ s HH.out.2.2.1.1 HH.out.2.2.1.2).mono ?_; rintro e w1 ⟨rfl, hb1⟩))
      have hB1 : Below w.heap.size w w1 := (boxed w s).trans (hb1.mono (Nat.le_of_lt (boxed_lt _ _)))
      obtain ⟨c0, c1, c2, c3, c4, c5⟩ := set_loads (W := w1) (q := w.heap.size) (b1 := s.d) (m := s.m) (wh := s.wh) (b2 := s.cu) (s1 := s.f1) (s2 := s.f2) ((hb1.block _ (boxed_lt _ _)).trans (heap_alloc_new w _))
      have HB := Lib.hid hB1
      clear hb1 hB1
      obtain ⟨F, hF⟩ : ∃ F, s.fit = F := ⟨_, rfl⟩
      have HF := Lib.hid hF
      clear hF
      have HI := Lib.hid (invalid_plain F.cfg src)
      obtain ⟨ok, hok⟩ : ∃ b, allGood (items src) = b := ⟨_, rfl⟩
      rw [hok] at HI
      have HO := Lib.hid hok
      clear hok
      cases ok with
      | true =>
        go_wp2_with (first
          | (go_at_call 21; refine (fit_spec _ s (by have := HH.out.2.2.1.1; omega) (by have := HH.out.2.2.1.2; omega)).mono ?_; rw [HF.out]; rintro e w2 ⟨rfl, hb2⟩; have HB2 := Lib.hid (HB.out.trans (hb2.mono HB.out.size)); clear hb2 c0 c1 c2 c3 c4 c5)
          | (go_at_call 24; refine (tokens_at w _ a none k 0 src [] F (by rw [← HF.out]; exact s.fit_ok) HB2.out HH.out.1 (SzAt.nil _ _) (by have := HH.out.2.2.2; omega) HH.out.2.1).mono ?_; rintro e w3 ⟨A, c, rfl, hc, hC, hb3⟩; have HB3 := Lib.hid (HB2.out.trans (hb3.mono HB2.out.size)); clear hb3 hC hc)
          | (go_at_call 23; refine (works_at w _ HB3.out HH.out.2.1).mono ?_; rintro e w4 ⟨rfl, hb4⟩; have HB4 := Lib.hid (HB3.out.trans (hb4.mono HB3.out.size)); clear hb4)
          | (go_at_call 25; refine (valid_spec _ a k src (HH.out.1.up HB4.out HB4.out.size)).mono ?_; rw [HO.out]; rintro e w5 ⟨rfl, hb5⟩; have HB5 := Lib.hid (HB4.out.trans (hb5.mono HB4.out.size)); clear hb5))
        go_ret
        exact ⟨rfl, HB5.out⟩
      | false =>
        have hpos := HI.out rfl
        go_wp2_with (first
          | (go_at_call 21; refine (fit_spec _ s (by have := HH.out.2.2.1.1; omega) (by have := HH.out.2.2.1.2; omega)).mono ?_; rw [HF.out]; rintro e w2 ⟨rfl, hb2⟩; have HB2 := Lib.hid (HB.out.trans (hb2.mono HB.out.size)); clear hb2 c0 c1 c2 c3 c4 c5)
          | (go_at_call 24; refine (tokens_at w _ a none k 0 src [] F (by rw [← HF.out]; exact s.fit_ok) HB2.out HH.out.1 (SzAt.nil _ _) (by have := HH.out.2.2.2; omega) HH.out.2.1).mono ?_; rintro e w3 ⟨A, c, rfl, hc, hC, hb3⟩; have HB3 := Lib.hid (HB2.out.trans (hb3.mono HB2.out.size)); clear hb3 hC hc)
          | (go_at_call 23; refine (works_at w _ HB3.out HH.out.2.1).mono ?_; rintro e w4 ⟨rfl, hb4⟩; have HB4 := Lib.hid (HB3.out.trans (hb4.mono HB3.out.size)); clear hb4)
          | (go_at_call 25; refine (valid_spec _ a k src (HH.out.1.up HB4.out HB4.out.size)).mono ?_; rw [HO.out]; rintro e w5 ⟨rfl, hb5⟩; have HB5 := Lib.hid (HB4.out.trans (hb5.mono HB4.out.size)); clear hb5))
        go_ret
        exact ⟨by show Ending.returned (.bool (decide (0 < errNum F.cfg src))) = _; rw [decide_eq_true (by have := of_decide_eq_true hpos; omega)], HB5.out⟩
    · have HH := Lib.hid hf
      clear hs hv hf
      go_enter Tryd.func6, Tryd.ntmps6
      go_wp2_with (first
        | (go_at_call 20; refine (fits_no _ s HH.out).mono ?_; rintro e w1 ⟨rfl, hb1⟩))
      go_ret
      exact ⟨rfl, (boxed w s).trans (hb1.mono (Nat.le_of_lt (boxed_lt _ _)))⟩
end Go.Proofs.YtmfihkgbfoapaaaDoor
