/- A setup, fitted; the tokens under it. -/
import Derived.Test.YtmfihkgbfoapaaaDoorS1
import Derived.Test.YtmfihkgbfoapaaaDoorE12
namespace Go.Proofs.YtmfihkgbfoapaaaDoor
set_option linter.unusedVariables false
set_option linter.unusedSimpArgs false
open Go Go.RowKit Go.Lib Go.BigFrame Go.Proofs.YtmfihkgbfoapaaaDoorW.PrintWords

/-- A setup as plain data. -/
structure Stp where
  d : Bool
  m : Int
  wh : Int
  cu : Bool
  f1 : ByteArray
  f2 : ByteArray
def Stp.fit (s : Stp) : Stp :=
  if s.d = true then ⟨true, 0, 0, false, ⟨#[]⟩, ⟨#[]⟩⟩ else ⟨false, fitM s.m, fitW s.wh, s.cu, if s.cu = true then keepS false s.f1 else ⟨#[]⟩, if s.cu = true then keepS true s.f2 else ⟨#[]⟩⟩
/-- The bits that a setup may have. -/
structure Stp.Ok (s : Stp) : Prop where
  m0 : 0 ≤ s.m
  m1 : s.m ≤ 255
  w0 : 0 ≤ s.wh
  w1 : s.wh ≤ 8589934590
def Stp.cfg (s : Stp) : Cfg := ⟨if s.d = true then 1012 else 4 * s.m, if s.d = true then 4294977024 else s.wh, if s.d = false ∧ s.cu = true then idCustom s.f1 s.f2 else idGo⟩
theorem fitM_range (m : Int) : 0 ≤ fitM m ∧ fitM m ≤ 255 := by
  unfold fitM bits
  have h : ((BitVec.ofInt IntKind.i64.bits m &&& BitVec.ofInt IntKind.i64.bits 255).toNat) ≤ 255 := by
    rw [BitVec.toNat_and]
    exact Nat.le_trans Nat.and_le_right (by decide)
  simp only
  generalize (BitVec.ofInt IntKind.i64.bits m &&& BitVec.ofInt IntKind.i64.bits 255).toNat = a at h
  rw [IntKind.wrap_i64]
  omega
theorem fitW_range (m : Int) : 0 ≤ fitW m ∧ fitW m ≤ 8589934590 := by
  unfold fitW bits
  have h : ((BitVec.ofInt IntKind.u64.bits m &&& BitVec.ofInt IntKind.u64.bits 8589934590).toNat) ≤ 8589934590 := by
    rw [BitVec.toNat_and]
    exact Nat.le_trans Nat.and_le_right (by decide)
  simp only
  generalize (BitVec.ofInt IntKind.u64.bits m &&& BitVec.ofInt IntKind.u64.bits 8589934590).toNat = a at h
  simp only [IntKind.wrap, IntKind.bits, IntKind.signed]
  simp; omega
theorem Stp.fit_ok (s : Stp) : s.fit.Ok := by
  have h1 := fitM_range s.m
  have h2 := fitW_range s.wh
  unfold Stp.fit
  split
  · exact ⟨by decide, by decide, by decide, by decide⟩
  · exact ⟨h1.1, h1.2, h2.1, h2.2⟩
theorem mode_all : ((List.range 256).all fun m => K.impl_mode.f 20 (m : Int) == some (4 * (m : Int))) = true := by kernel_rfl
theorem mode_val {m : Int} (h0 : 0 ≤ m) (h1 : m ≤ 255) : K.impl_mode.f 20 m = some (4 * m) := by
  have := List.all_eq_true.1 mode_all m.toNat (List.mem_range.2 (by omega))
  rw [show ((m.toNat : Nat) : Int) = m by omega] at this
  exact eq_of_beq this

theorem fit_spec (w : World) (s : Stp) (hs1 : s.f1.size ≤ 140737488351232) (hs2 : s.f2.size ≤ 140737488351232) :
    Calls Tryd.prog 21 #[.agg #[.bool s.d, .int .i64 s.m, .int .u64 s.wh, .bool s.cu, .string s.f1, .string s.f2]] w fun e w' =>
      e = .returned (.agg #[.bool s.fit.d, .int .i64 s.fit.m, .int .u64 s.fit.wh, .bool s.fit.cu, .string s.fit.f1, .string s.fit.f2]) ∧ Below w.heap.size w w' := by
  obtain ⟨d, m, wh, cu, f1, f2⟩ := s
  cases d with
  | true => exact fit_default w m wh cu f1 f2
  | false =>
    cases cu with
    | false => exact fit_plain w m wh f1 f2
    | true => exact fit_custom w m wh f1 f2 hs1 hs2
theorem tokens_fit (w : World) (a1 a2 : Option Addr) (k1 k2 : Nat) (src : List UInt8) (sz : List Int) (s : Stp) (h : s.Ok)
    (hs : SrcAt w.heap.size w a1 k1 src) (hsz : SzAt w.heap.size w a2 sz) (hlen : Fits src) (hl10 : src.length ≤ 10000000000) (hv : Vars w.heap.size w) :
    Calls Tryd.prog 24 #[.slice a1 src.length k1, .slice a2 sz.length k2, .agg #[.bool s.d, .int .i64 s.m, .int .u64 s.wh, .bool s.cu, .string s.f1, .string s.f2]] w fun e w' =>
      ∃ v, e = .returned (.tuple #[v, .int .i64 (wrap64 ((lexErrs (items src) : Nat) + (errsOf (toks s.cfg src (startL src)) : Nat))), .int .i64 (wrap64 ((lexErrs (items src) : Nat) + (errsOf (toks s.cfg src (startL src)) : Nat)))]) ∧
        Kd.R K.k37 37 w' w.heap.size (fun q => w.heap.size ≤ q) v ((toks s.cfg src (startL src)).map (tokOf src)) ∧ Below w.heap.size w w' :=
  tokens_run w a1 a2 k1 k2 src sz s.d s.m s.wh s.cu s.f1 s.f2 20 (4 * s.m) (mode_val h.m0 h.m1) s.cfg hs hsz hlen hl10 hv rfl rfl rfl (by
    unfold Stp.cfg
    have := h.w0
    have := h.w1
    simp only
    split <;> omega)
theorem fits_yes (w : World) (s : Stp) (h1 : s.f1.size ≤ 2147483647) (h2 : s.f2.size ≤ 2147483647) :
    Calls Tryd.prog 20 #[.agg #[.bool s.d, .int .i64 s.m, .int .u64 s.wh, .bool s.cu, .string s.f1, .string s.f2]] w fun e w' => e = .returned (.bool true) ∧ Below w.heap.size w w' :=
  K.laws_zzFits1.calls s.d s.m s.wh s.cu s.f1 s.f2 true w (by unfold K.laws_zzFits1.f; rw [if_neg (by omega), if_neg (by omega)])
theorem fits_no (w : World) (s : Stp) (h : ¬ (s.f1.size ≤ 2147483647 ∧ s.f2.size ≤ 2147483647)) :
    Calls Tryd.prog 20 #[.agg #[.bool s.d, .int .i64 s.m, .int .u64 s.wh, .bool s.cu, .string s.f1, .string s.f2]] w fun e w' => e = .returned (.bool false) ∧ Below w.heap.size w w' :=
  K.laws_zzFits1.calls s.d s.m s.wh s.cu s.f1 s.f2 false w (by
    unfold K.laws_zzFits1.f
    by_cases h1 : s.f1.size ≤ 2147483647
    · rw [if_neg (by omega), if_pos (by omega)]
    · rw [if_pos (by omega)])

theorem set_loads {W : World} {q : Nat} {b1 : Bool} {m wh : Int} {b2 : Bool} {s1 s2 : ByteArray} {fr : Nat × Nat} (h : W.heap[q]? = some (.cells #[.bool b1, .int .i64 m, .int .u64 wh, .bool b2, .string s1, .string s2] 25 fr)) :
    W.cell? ⟨q, 0, none⟩ = some (.bool b1) ∧ W.cell? ⟨q, 1, none⟩ = some (.int .i64 m) ∧ W.cell? ⟨q, 2, none⟩ = some (.int .u64 wh) ∧ W.cell? ⟨q, 3, none⟩ = some (.bool b2) ∧ W.cell? ⟨q, 4, none⟩ = some (.string s1) ∧ W.cell? ⟨q, 5, none⟩ = some (.string s2) :=
  ⟨(cell_of_heap h 0).trans rfl, (cell_of_heap h 1).trans rfl, (cell_of_heap h 2).trans rfl, (cell_of_heap h 3).trans rfl, (cell_of_heap h 4).trans rfl, (cell_of_heap h 5).trans rfl⟩
set_option maxRecDepth 100000 in
set_option maxHeartbeats 1600000 in
theorem fnerrors (w : World) (a : Option Addr) (k : Nat) (src : List UInt8) (s : Stp) (hs : SrcAt w.heap.size w a k src) (hv : Vars w.heap.size w) :
    Calls Tryd.prog 5 #[.slice a src.length k, .agg #[.bool s.d, .int .i64 s.m, .int .u64 s.wh, .bool s.cu, .string s.f1, .string s.f2]] w fun e w' => e = .returned (.bool true) ∧ Below w.heap.size w w' := by
  by_cases hbig : (2147483647 : Int) < src.length
  · go_enter Tryd.func5, Tryd.ntmps5
    go_wp2_with (fail)
    go_ret
    exact ⟨rfl, (Below.refl _ w).alloc (Nat.le_refl _) _⟩
  · by_cases hf : s.f1.size ≤ 2147483647 ∧ s.f2.size ≤ 2147483647
    · have HH := Lib.hid (And.intro hs (And.intro hv (And.intro hf hbig)))
      clear hs hv hf
      go_enter Tryd.func5, Tryd.ntmps5
      go_upto_region 3 with (first
        | (go_at_call 20; refine (fits_yes _ s HH.out.2.2.1.1 HH.out.2.2.1.2).mono ?_; rintro e w1 ⟨rfl, hb1⟩))
      have hB1 : Below w.heap.size w w1 := ((Below.refl _ w).alloc (Nat.le_refl _) _).trans (hb1.mono (by rw [World.size_alloc]; omega))
      have c := set_loads (W := w1) (q := w.heap.size) (b1 := s.d) (m := s.m) (wh := s.wh) (b2 := s.cu) (s1 := s.f1) (s2 := s.f2) ((hb1.block _ (by rw [World.size_alloc]; omega)).trans (heap_alloc_new w _))
      obtain ⟨c0, c1, c2, c3, c4, c5⟩ := c
      have HB := Lib.hid hB1
      clear hb1 hB1
      obtain ⟨F, hF⟩ : ∃ F, s.fit = F := ⟨_, rfl⟩
      have HF := Lib.hid hF
      clear hF
      obtain ⟨er, her⟩ : ∃ er, wrap64 ((lexErrs (items src) : Nat) + (errsOf (toks F.cfg src (startL src)) : Nat)) = er := ⟨_, rfl⟩
      have HE := Lib.hid her
      clear her
      go_wp2_with (first
        | (go_at_call 21; refine (fit_spec _ s (by have := HH.out.2.2.1.1; omega) (by have := HH.out.2.2.1.2; omega)).mono ?_; rw [HF.out]; rintro e w2 ⟨rfl, hb2⟩; have HB2 := Lib.hid hb2; clear hb2 c0 c1 c2 c3 c4 c5)
        | (go_at_call 24; refine (tokens_fit _ a none k 0 src [] F (by rw [← HF.out]; exact s.fit_ok) (HH.out.1.up (HB.out.trans (HB2.out.mono HB.out.size)) (Nat.le_trans HB.out.size HB2.out.size)) (SzAt.nil _ _) (by have := HH.out.2.2.2; unfold Fits; omega) (by have := HH.out.2.2.2; omega) ((HH.out.2.1.move (HB.out.trans (HB2.out.mono HB.out.size))).mono (Nat.le_trans HB.out.size HB2.out.size))).mono ?_; rw [HE.out]; rintro e w3 ⟨v, rfl, -, hb3⟩; have HB3 := Lib.hid (HB.out.trans ((HB2.out.mono HB.out.size).trans (hb3.mono (Nat.le_trans HB.out.size HB2.out.size)))); clear hb3)
        | (go_at_call 23; refine (works_spec _ _ (Nat.le_refl _) ((HH.out.2.1.move HB3.out).mono HB3.out.size)).mono ?_; rintro e w4 ⟨rfl, hb4⟩; have HB4 := Lib.hid hb4; clear hb4))
      go_ret
      exact ⟨rfl, HB3.out.trans (HB4.out.mono HB3.out.size)⟩
    · have HH := Lib.hid hf
      clear hs hv hf
      go_enter Tryd.func5, Tryd.ntmps5
      go_wp2_with (first
        | (go_at_call 20; refine (fits_no _ s HH.out).mono ?_; rintro e w1 ⟨rfl, hb1⟩))
      go_ret
      exact ⟨rfl, ((Below.refl _ w).alloc (Nat.le_refl _) _).trans (hb1.mono (by rw [World.size_alloc]; omega))⟩
end Go.Proofs.YtmfihkgbfoapaaaDoor
