/- laws.FnSpace, walked. -/
import Derived.Test.YtmfihkgbfoapaaaDoorU3
import Derived.Test.YtmfihkgbfoapaaaDoorP3
namespace Go.Proofs.YtmfihkgbfoapaaaDoor
set_option linter.unusedVariables false
set_option linter.unusedSimpArgs false
open Go Go.RowKit Go.Lib Go.BigFrame Go.Proofs.YtmfihkgbfoapaaaDoorW.PrintWords
def spK (bit : Int) : Int := wrap64 (1 + (wrap64 (bit.tmod 32 + 32)).tmod 32)
theorem spK_range (bit : Int) : 1 ≤ spK bit ∧ spK bit ≤ 32 := by
  have h1 := Int.tmod_lt_of_pos bit (show (0 : Int) < 32 by decide)
  have h2 := Int.lt_tmod_of_pos bit (show (0 : Int) < 32 by decide)
  have e : wrap64 (bit.tmod 32 + 32) = bit.tmod 32 + 32 := wrap64_id (by omega) (by omega)
  have h3 := Int.tmod_lt_of_pos (bit.tmod 32 + 32) (show (0 : Int) < 32 by decide)
  have h4 := Int.tmod_nonneg 32 (show 0 ≤ bit.tmod 32 + 32 by omega)
  unfold spK
  rw [e, wrap64_id (by omega) (by omega)]
  omega
/-- The two setups in memory. -/
structure SpCls (w : World) (m p : Nat) (F : Stp) (x y : Int) (w' : World) : Prop where
  below : Below m w w'
  lt : m < p
  nm : w'.heap[m]? = some (.cells #[.bool false, .int .i64 F.m, .int .u64 x, .bool F.cu, .string F.f1, .string F.f2] 25 (0, 0))
  np : w'.heap[p]? = some (.cells #[.bool false, .int .i64 F.m, .int .u64 y, .bool F.cu, .string F.f1, .string F.f2] 25 (0, 0))
theorem SpCls.drew {w : World} {m p : Nat} {F : Stp} {x y : Int} {w' : World} (h : SpCls w m p F x y w') : SpCls w m p F x y w'.drew := ⟨h.below.drew, h.lt, h.nm, h.np⟩
theorem SpCls.store_p {w : World} {m p : Nat} {F : Stp} {x y : Int} {w' : World} (h : SpCls w m p F x y w') (z : Int) : SpCls w m p F x z (w'.setCell ⟨p, 2, none⟩ (.int .u64 z)) := by
  have hne : m ≠ p := Nat.ne_of_lt h.lt
  exact ⟨h.below.setCell (by exact Nat.le_of_lt h.lt) _, h.lt, (Below.heap_setCell _ _ _ _ (by exact hne)).trans h.nm, Go.Lib.heap_setCell_same (i := 2) h.np (.int .u64 z)⟩
theorem SpCls.store_m {w : World} {m p : Nat} {F : Stp} {x y : Int} {w' : World} (h : SpCls w m p F x y w') (z : Int) : SpCls w m p F z y (w'.setCell ⟨m, 2, none⟩ (.int .u64 z)) := by
  have hne : p ≠ m := Ne.symm (Nat.ne_of_lt h.lt)
  exact ⟨h.below.setCell (by exact Nat.le_refl _) _, h.lt, Go.Lib.heap_setCell_same (i := 2) h.nm (.int .u64 z), (Below.heap_setCell _ _ _ _ (by exact hne)).trans h.np⟩
theorem pow_wrap {K : Int} (h : 1 ≤ K ∧ K ≤ 32) : IntKind.u64.wrap (2 ^ K.toNat) = 2 ^ K.toNat := by
  have h1 : (2 : Nat) ^ K.toNat ≤ 2 ^ 32 := Nat.pow_le_pow_right (by decide) (by omega)
  have e : ((2 : Int) ^ K.toNat) = ((2 ^ K.toNat : Nat) : Int) := by simp
  rw [e]
  generalize 2 ^ K.toNat = n at h1
  simp only [IntKind.wrap, IntKind.bits, IntKind.signed]
  simp; omega
theorem SpCls.mk' {w w4 : World} {F : Stp} (h : w4.heap[w.heap.size]? = some (.cells #[.bool false, .int .i64 F.m, .int .u64 F.wh, .bool F.cu, .string F.f1, .string F.f2] 25 (0, 0))) (hb : Below w.heap.size w w4) {W : World}
    (hW : w4.alloc (Obj.cells #[.bool false, .int .i64 F.m, .int .u64 F.wh, .bool F.cu, .string F.f1, .string F.f2] 25) = W) : SpCls w w.heap.size w4.heap.size F F.wh F.wh W := by
  subst hW
  have hlt : w.heap.size < w4.heap.size := lt_of_heap h
  exact ⟨hb.alloc (Nat.le_of_lt hlt) _, hlt, (Below.heap_alloc _ _ _ hlt).trans h, heap_alloc_new _ _⟩
def Stp.more (s : Stp) (K : Int) : Stp := ⟨false, s.m, bits .or .u64 s.wh (2 ^ K.toNat), s.cu, s.f1, s.f2⟩
def Stp.less (s : Stp) (K : Int) : Stp := ⟨false, s.m, bits .andNot .u64 s.wh (2 ^ K.toNat), s.cu, s.f1, s.f2⟩
theorem more_white (s : Stp) (K : Int) : (s.more K).cfg.white = bits .or .u64 s.wh (2 ^ K.toNat) := by show (if (false : Bool) = true then (4294977024 : Int) else bits .or .u64 s.wh (2 ^ K.toNat)) = _; exact if_neg (by decide)
theorem less_white (s : Stp) (K : Int) : (s.less K).cfg.white = bits .andNot .u64 s.wh (2 ^ K.toNat) := by show (if (false : Bool) = true then (4294977024 : Int) else bits .andNot .u64 s.wh (2 ^ K.toNat)) = _; exact if_neg (by decide)
theorem cfg_mode {a b : Stp} {d : Bool} {m : Int} (h1 : a.d = d) (h1' : b.d = d) (h2 : a.m = m) (h2' : b.m = m) : a.cfg.mode = b.cfg.mode := by
  unfold Stp.cfg; simp only [h1, h1', h2, h2']
/-- Behind spec.Fit no identifier begins with a character up to the blank. -/
theorem space_ident (s : Stp) {K : Int} (h : 1 ≤ K ∧ K ≤ 32) : (s.fit.less K).cfg.I.p0 K = false := by
  show (if (false : Bool) = false ∧ s.fit.cu = true then idCustom s.fit.f1 s.fit.f2 else idGo).p0 K = false
  by_cases hd : s.fit.d = true
  · have hcu : s.fit.cu = false := by
      unfold Stp.fit at hd ⊢
      by_cases h2 : s.d = true
      · rw [if_pos h2]
      · rw [if_neg h2] at hd; cases hd
    rw [if_neg (by rw [hcu]; simp)]
    have := fit_p0 s h 0 0
    rw [if_neg (by rw [hcu]; simp)] at this
    exact this
  · have hd' : s.fit.d = false := Bool.eq_false_iff.2 hd
    have := fit_p0 s h 0 0
    rw [hd'] at this
    exact this
theorem space_set (s : Stp) {K : Int} (h : 1 ≤ K ∧ K ≤ 32) : (s.fit.more K).Ok ∧ (s.fit.less K).Ok ∧ Spaces (s.fit.more K).cfg (s.fit.less K).cfg K := by
  have hok := s.fit_ok
  have hw := white_range hok.w0 hok.w1 h
  exact ⟨⟨hok.m0, hok.m1, hw.1.1, hw.1.2⟩, ⟨hok.m0, hok.m1, hw.2.1, hw.2.2⟩,
    spaces_of hok.w0 hok.w1 h (cfg_id (d := false) (cu := s.fit.cu) (f1 := s.fit.f1) (f2 := s.fit.f2) rfl rfl rfl rfl rfl rfl rfl rfl) (cfg_mode (d := false) (m := s.fit.m) rfl rfl rfl rfl) (more_white _ _) (less_white _ _) (space_ident s h)⟩
theorem tokens_more (w0 w : World) (a : Option Addr) (k : Nat) (src : List UInt8) (s : Stp) (K : Int) (h : (s.more K).Ok) (hb : Below w0.heap.size w0 w) (hs : SrcAt w0.heap.size w0 a k src) (hl : src.length ≤ 10000000000) (hv : Vars w0.heap.size w0) :
    Calls Tryd.prog 24 #[.slice a src.length k, .slice none 0 0, .agg #[.bool false, .int .i64 s.m, .int .u64 (bits .or .u64 s.wh (2 ^ K.toNat)), .bool s.cu, .string s.f1, .string s.f2]] w (TokPost w (s.more K).cfg src) :=
  tokens_at w0 w a none k 0 src [] (s.more K) h hb hs (SzAt.nil _ _) hl hv
theorem tokens_less (w0 w : World) (a : Option Addr) (k : Nat) (src : List UInt8) (s : Stp) (K : Int) (h : (s.less K).Ok) (hb : Below w0.heap.size w0 w) (hs : SrcAt w0.heap.size w0 a k src) (hl : src.length ≤ 10000000000) (hv : Vars w0.heap.size w0) :
    Calls Tryd.prog 24 #[.slice a src.length k, .slice none 0 0, .agg #[.bool false, .int .i64 s.m, .int .u64 (bits .andNot .u64 s.wh (2 ^ K.toNat)), .bool s.cu, .string s.f1, .string s.f2]] w (TokPost w (s.less K).cfg src) :=
  tokens_at w0 w a none k 0 src [] (s.less K) h hb hs (SzAt.nil _ _) hl hv
set_option maxRecDepth 100000 in
set_option maxHeartbeats 1600000 in
theorem fnspace (w : World) (a : Option Addr) (k : Nat) (src : List UInt8) (s : Stp) (bit : Int) (hs : SrcAt w.heap.size w a k src) (hbw : (Lit.int .i64 bit).wf = true) (hv : Vars w.heap.size w) :
    Calls Tryd.prog 14 #[.slice a src.length k, .agg #[.bool s.d, .int .i64 s.m, .int .u64 s.wh, .bool s.cu, .string s.f1, .string s.f2], .int .i64 bit] w fun e w' => e = .returned (.bool true) ∧ Below w.heap.size w w' := by
  by_cases hbig : (2147483647 : Int) < src.length
  · clear hs hv hbw
    go_enter Tryd.func14, Tryd.ntmps14
    go_wp2_with (fail)
    go_ret
    exact ⟨rfl, boxed w s⟩
  by_cases hf : s.f1.size ≤ 2147483647 ∧ s.f2.size ≤ 2147483647
  · have HH := Lib.hid (And.intro hs (And.intro hv (And.intro hf hbig)))
    have HK := Lib.hid (spK_range bit)
    obtain ⟨kc, hK⟩ : ∃ kc, spK bit = kc := ⟨_, rfl⟩
    rw [hK] at HK
    have HKK := Lib.hid hK
    clear hs hv hf hbw hK
    go_enter Tryd.func14, Tryd.ntmps14
    go_upto_region 3 with (first
      | (go_at_call 20; refine (fits_yes _ s HH.out.2.2.1.1 HH.out.2.2.1.2).mono ?_; rintro e w1 ⟨rfl, hb1⟩))
    have hB1 : Below w.heap.size w w1 := (boxed w s).trans (hb1.mono (Nat.le_of_lt (boxed_lt _ _)))
    have hn1 := (hb1.block _ (boxed_lt _ _)).trans (heap_alloc_new w _)
    obtain ⟨c0, c1, c2, c3, c4, c5⟩ := set_loads hn1
    have HB := Lib.hid (And.intro hB1 hn1)
    clear hb1 hB1 hn1
    obtain ⟨F, hF⟩ : ∃ F, s.fit = F := ⟨_, rfl⟩
    have HF := Lib.hid hF
    clear hF
    go_upto_region 4 with (first
      | (go_at_call 21; refine (fit_spec _ s (by have := HH.out.2.2.1.1; omega) (by have := HH.out.2.2.1.2; omega)).mono ?_; rw [HF.out]; rintro e w2 ⟨rfl, hb2⟩; have hn2 := (hb2.block _ (lt_of_heap HB.out.2)).trans HB.out.2; have f2 := frozen_of_heap hn2; have g := set_loads hn2; obtain ⟨g0, g1, g2, g3, g4, g5⟩ := g; have HB2 := Lib.hid (And.intro (HB.out.1.trans (hb2.mono HB.out.1.size)) hn2); clear hb2 c0 c1 c2 c3 c4 c5 hn2))
    obtain ⟨w3, hw3⟩ : ∃ W, (((((w2.setCell ⟨w.heap.size, 0, none⟩ (.bool F.d)).setCell ⟨w.heap.size, 1, none⟩ (.int .i64 F.m)).setCell ⟨w.heap.size, 2, none⟩ (.int .u64 F.wh)).setCell ⟨w.heap.size, 3, none⟩ (.bool F.cu)).setCell ⟨w.heap.size, 4, none⟩ (.string F.f1)).setCell ⟨w.heap.size, 5, none⟩ (.string F.f2) = W := ⟨_, rfl⟩
    rw [hw3]
    obtain ⟨n3, b3, z3⟩ := set_stores HB2.out.2 _ _ _ _ _ _ hw3
    clear hw3 f2 g0 g1 g2 g3 g4 g5
    obtain ⟨c0, c1, c2, c3, c4, c5⟩ := set_loads n3
    have f3 := frozen_of_heap n3
    have HB3 := Lib.hid (And.intro (HB2.out.1.trans b3) n3)
    clear n3 b3 z3
    go_upto_region 6 with (fail)
    have hK := HKK.out
    unfold spK at hK
    rw [hK]
    clear hK
    have hK1 := HK.out.1
    have hK2 := HK.out.2
    obtain ⟨w4, hw4⟩ : ∃ W, w3.setCell ⟨w.heap.size, 0, none⟩ (.bool false) = W := ⟨_, rfl⟩
    rw [hw4]
    have n4 := Go.Lib.heap_setCell_same (i := 0) HB3.out.2 (.bool false)
    rw [hw4] at n4
    have b4 : Below w.heap.size w w4 := by rw [← hw4]; exact HB3.out.1.setCell (by exact Nat.le_refl _) _
    clear hw4 c0 c1 c2 c3 c4 c5 f3
    obtain ⟨c0, c1, c2, c3, c4, c5⟩ := set_loads (b1 := false) (m := F.m) (wh := F.wh) (b2 := F.cu) (s1 := F.f1) (s2 := F.f2) n4
    have HB4 := Lib.hid (And.intro b4 n4)
    clear b4 n4
    go_upto_region 7 with (fail)
    obtain ⟨m, hm⟩ : ∃ m, w.heap.size = m := ⟨_, rfl⟩
    obtain ⟨p, hp⟩ : ∃ p, w4.heap.size = p := ⟨_, rfl⟩
    obtain ⟨wm, hwm⟩ : ∃ W, w4.alloc (Obj.cells #[.bool false, .int .i64 F.m, .int .u64 F.wh, .bool F.cu, .string F.f1, .string F.f2] 25) = W := ⟨_, rfl⟩
    have hcl := SpCls.mk' HB4.out.2 HB4.out.1 hwm
    rw [hm, hp] at hcl
    rw [hwm]
    have HM := Lib.hid (And.intro hm (And.intro hp hcl))
    rw [hm, hp]
    clear hm hp hwm hcl c0 c1 c2 c3 c4 c5
    refine wp_region_class_tail (SpCls w m p F F.wh F.wh) 6 (by kernel_rfl) (by kernel_rfl) HM.out.2.2.drew ?_
    simp only [List.take_succ_cons, List.take_zero, List.drop_succ_cons, List.drop_zero]
    refine wpQuiet_want rfl ?_
    intro Kx hKx
    refine ⟨.pointer (some ⟨p, 2, none⟩), fun w' hw' => ?_, hKx _ ?_⟩
    · unfold Oper.quietAt
      go_simp
    clear hKx Kx
    refine wpQuiet_want rfl ?_
    intro Kx hKx
    refine ⟨.int .u64 F.wh, fun w' hw' => ?_, hKx _ ?_⟩
    · obtain ⟨c0, c1, c2, c3, c4, c5⟩ := set_loads hw'.np
      unfold Oper.quietAt
      go_simp
    clear hKx Kx
    refine wpQuiet_want rfl ?_
    intro Kx hKx
    refine ⟨.int .i64 kc, fun w' hw' => ?_, hKx _ ?_⟩
    · unfold Oper.quietAt
      go_simp
    clear hKx Kx
    refine wpQuiet_want rfl ?_
    intro Kx hKx
    refine ⟨.int .u64 (2 ^ kc.toNat), fun w' hw' => ?_, hKx _ ?_⟩
    · unfold Oper.quietAt
      go_simp
      exact pow_wrap HK.out
    clear hKx Kx
    refine wpQuiet_want rfl ?_
    intro Kx hKx
    refine ⟨.int .u64 (bits .or .u64 F.wh (2 ^ kc.toNat)), fun w' hw' => ?_, hKx _ ?_⟩
    · unfold Oper.quietAt
      go_simp
    clear hKx Kx
    refine wpQuiet_want rfl ?_
    intro Kx hKx
    refine ⟨.pointer (some ⟨p, 2, none⟩), fun w' hw' => ?_, hKx _ ?_⟩
    · unfold Oper.quietAt
      go_simp
    clear hKx Kx
    refine wpQuiet_nil ?_
    intro w7 hw'
    obtain ⟨c0, c1, c2, c3, c4, c5⟩ := set_loads hw'.np
    have fp := frozen_of_heap hw'.np
    have hcl := Lib.hid (hw'.store_p (bits .or .u64 F.wh (2 ^ kc.toNat)))
    clear hw'
    go_upto_region 8 with (fail)
    generalize (w7.setCell ⟨p, 2, none⟩ (.int .u64 (bits .or .u64 F.wh (2 ^ kc.toNat)))) = w8 at hcl ⊢
    have HM8 := hcl
    clear c0 c1 c2 c3 c4 c5 fp hcl
    refine wp_region_class_tail (SpCls w m p F F.wh (bits .or .u64 F.wh (2 ^ kc.toNat))) 6 (by kernel_rfl) (by kernel_rfl) HM8.out.drew ?_
    simp only [List.take_succ_cons, List.take_zero, List.drop_succ_cons, List.drop_zero]
    refine wpQuiet_want rfl ?_
    intro Kx hKx
    refine ⟨.pointer (some ⟨m, 2, none⟩), fun w' hw' => ?_, hKx _ ?_⟩
    · unfold Oper.quietAt
      go_simp
    clear hKx Kx
    refine wpQuiet_want rfl ?_
    intro Kx hKx
    refine ⟨.int .u64 F.wh, fun w' hw' => ?_, hKx _ ?_⟩
    · obtain ⟨c0, c1, c2, c3, c4, c5⟩ := set_loads hw'.nm
      unfold Oper.quietAt
      go_simp
    clear hKx Kx
    refine wpQuiet_want rfl ?_
    intro Kx hKx
    refine ⟨.int .i64 kc, fun w' hw' => ?_, hKx _ ?_⟩
    · unfold Oper.quietAt
      go_simp
    clear hKx Kx
    refine wpQuiet_want rfl ?_
    intro Kx hKx
    refine ⟨.int .u64 (2 ^ kc.toNat), fun w' hw' => ?_, hKx _ ?_⟩
    · unfold Oper.quietAt
      go_simp
      exact pow_wrap HK.out
    clear hKx Kx
    refine wpQuiet_want rfl ?_
    intro Kx hKx
    refine ⟨.int .u64 (bits .andNot .u64 F.wh (2 ^ kc.toNat)), fun w' hw' => ?_, hKx _ ?_⟩
    · unfold Oper.quietAt
      go_simp
    clear hKx Kx
    refine wpQuiet_want rfl ?_
    intro Kx hKx
    refine ⟨.pointer (some ⟨m, 2, none⟩), fun w' hw' => ?_, hKx _ ?_⟩
    · unfold Oper.quietAt
      go_simp
    clear hKx Kx
    refine wpQuiet_nil ?_
    intro w9 hw'
    obtain ⟨c0, c1, c2, c3, c4, c5⟩ := set_loads hw'.nm
    have fp := frozen_of_heap hw'.nm
    have hcl := Lib.hid (hw'.store_m (bits .andNot .u64 F.wh (2 ^ kc.toNat)))
    clear hw'
    go_upto_region 9 with (fail)
    generalize (w9.setCell ⟨m, 2, none⟩ (.int .u64 (bits .andNot .u64 F.wh (2 ^ kc.toNat)))) = wA at hcl ⊢
    have HM9 := hcl
    clear c0 c1 c2 c3 c4 c5 fp hcl
    have HA := Lib.hid (show Below w.heap.size w wA from by rw [HM.out.1]; exact HM9.out.below)
    obtain ⟨c0, c1, c2, c3, c4, c5⟩ := set_loads HM9.out.np
    have HSP := Lib.hid (space_set s HK.out)
    rw [HF.out] at HSP
    obtain ⟨xs, hxs⟩ : ∃ xs, (toks (F.more kc).cfg src (startL src)).map (tokOf src) = xs := ⟨_, rfl⟩
    obtain ⟨ys, hys⟩ : ∃ ys, (toks (F.less kc).cfg src (startL src)).map (tokOf src) = ys := ⟨_, rfl⟩
    obtain ⟨e1, he1⟩ : ∃ e, errNum (F.more kc).cfg src = e := ⟨_, rfl⟩
    obtain ⟨e2, he2⟩ : ∃ e, errNum (F.less kc).cfg src = e := ⟨_, rfl⟩
    have hxy : xs = ys.filter (notTok kc) := by
      rw [← hxs, ← hys, ctoks_tok, ctoks_tok, space_toks HSP.out.2.2, filter_tok]
    have hsm := toks_same (F.more kc).cfg src (by have := HH.out.2.2.2; omega)
    rw [hxs] at hsm
    have hyl : ys.length ≤ 2147483648 := by
      rw [← hys, List.length_map]
      have h1 := toks_len (F.less kc).cfg src (startL src)
      have h2 := startL_le src
      have := HH.out.2.2.2
      omega
    have HX := Lib.hid (And.intro hxs (And.intro hys (And.intro he1 (And.intro he2 (And.intro hxy (And.intro hsm hyl))))))
    clear hxs hys he1 he2 hxy hsm hyl
    go_upto_region 10 with (first
      | (go_at_call 24; refine (tokens_more w _ a k src F kc HSP.out.1 HA.out HH.out.1 (by have := HH.out.2.2.2; omega) HH.out.2.1).mono ?_; unfold TokPost; rw [HX.out.1, HX.out.2.2.1]; rintro e w5 ⟨A, c, rfl, hc, hC, hb5⟩; have HB5 := Lib.hid (And.intro (HA.out.trans (hb5.mono HA.out.size)) (And.intro ((hb5.block _ (lt_of_heap HM9.out.nm)).trans HM9.out.nm) (And.intro hc hC))); clear hb5 hC hc c0 c1 c2 c3 c4 c5))
    obtain ⟨c0, c1, c2, c3, c4, c5⟩ := set_loads HB5.out.2.1
    go_upto_region 12 with (first
      | (go_at_call 24; refine (tokens_less w _ a k src F kc HSP.out.2.1 HB5.out.1 HH.out.1 (by have := HH.out.2.2.2; omega) HH.out.2.1).mono ?_; unfold TokPost; rw [HX.out.2.1, HX.out.2.2.2.1]; rintro e w6 ⟨A6, c6, rfl, hc6, hC6, hb6⟩; have HB6 := Lib.hid (And.intro (HB5.out.1.trans (hb6.mono HB5.out.1.size)) (And.intro (Kd.C_below HB5.out.2.2.2 hb6) (And.intro hc6 hC6))); clear hb6 hC6 hc6 c0 c1 c2 c3 c4 c5))
    go_wp2_with (fail)
    go_loopg [15, 63] ys.length (fun kk v i wr => ∃ j : Nat, j + kk = ys.length ∧ i = .int .i64 (j : Nat) ∧ Kd.R K.k37 37 wr w6.heap.size (fun q => w6.heap.size ≤ q) v ((ys.take j).filter (notTok kc)) ∧ Below w6.heap.size w6 wr)
    case atStart => exact ⟨0, by omega, rfl, Kd.R_nil _ _ _ _ _, Below.refl _ _⟩
    case round =>
      obtain ⟨j, hj, rfl, hR, hb⟩ := hrel
      have HL := Lib.hid (And.intro hR hb)
      clear hR hb
      by_cases hlt : j < ys.length
      · have HLT := Lib.hid hlt
        have hjb : (j : Int) ≤ 2147483648 := by have := HX.out.2.2.2.2.2.2; omega
        obtain ⟨ad, e, -⟩ := K.at_T37 HB6.out.2.2.2 (j : Int) (by omega) (by omega)
        cases e
        have hst := filter_step (k := kc) hlt
        have hC := Kd.C_below HB6.out.2.2.2 HL.out.2
        obtain ⟨T, hT⟩ : ∃ T, K.rd_T37 ys (j : Int) = T := ⟨_, rfl⟩
        rw [hT] at hst
        obtain ⟨t0, t1, ⟨t2, t3, t4⟩, ⟨t5, t6, t7⟩⟩ := T
        have HS := Lib.hid (And.intro hst (And.intro hT hC))
        clear hst hT hC
        obtain ⟨ad', e, x0, x1, x2, x3, x4, x5, x6, x7⟩ := K.at_T37 HS.out.2.2 (j : Int) (by omega) (by omega)
        cases e
        rw [HS.out.2.1] at x0 x1 x2 x3 x4 x5 x6 x7
        simp only [Int.toNat_natCast] at x0 x1 x2 x3 x4 x5 x6 x7
        go_upto_region 15 with (first
          | ((with_reducible refine gate_dst (N := 17) rfl ?_); refine box_event ?hg (N := 17) ?hd (cs := #[.int .i64 0, .string (⟨#[]⟩ : ByteArray), .int .i64 0, .int .i64 0, .int .i64 0, .int .i64 0, .int .i64 0, .int .i64 0]) (t := 37) ?hr ?_; (case hd => rfl); (case hg => rfl); (case hr => first | (go_simp; done) | (go_simp; rfl)); intro gb hg wb hbox hbb; clear x0 x1 x2 x3 x4 x5 x6 x7; have HBX := Lib.hid (And.intro hg (And.intro hbox hbb)); have fb := frozen_of_heap hbox; have z0 := cell_of_heap (j := 0) hbox; have z1 := cell_of_heap (j := 1) hbox; have z2 := cell_of_heap (j := 2) hbox; have z3 := cell_of_heap (j := 3) hbox; have z4 := cell_of_heap (j := 4) hbox; have z5 := cell_of_heap (j := 5) hbox; have z6 := cell_of_heap (j := 6) hbox; have z7 := cell_of_heap (j := 7) hbox; simp at z0 z1 z2 z3 z4 z5 z6 z7; clear hg hbox hbb))
        obtain ⟨wq, hwq⟩ : ∃ W, ((((((((wb.setCell ⟨gb, 0, none⟩ (.int .i64 t0)).setCell ⟨gb, 1, none⟩ (.string t1)).setCell ⟨gb, 2, none⟩ (.int .i64 t2)).setCell ⟨gb, 3, none⟩ (.int .i64 t3)).setCell ⟨gb, 4, none⟩ (.int .i64 t4)).setCell ⟨gb, 5, none⟩ (.int .i64 t5)).setCell ⟨gb, 6, none⟩ (.int .i64 t6)).setCell ⟨gb, 7, none⟩ (.int .i64 t7)) = W := ⟨_, rfl⟩
        rw [hwq]
        obtain ⟨q5, b5, s5⟩ := tok_box HBX.out.2.1 t0 t1 t2 t3 t4 t5 t6 t7 hwq
        have hbq : Below wr.heap.size wr wq := HBX.out.2.2.trans (b5.mono (by rw [HBX.out.1]; exact Nat.le_refl _))
        have hR5 := Kd.R_below HL.out.1 hbq
        have hB5 : Below w6.heap.size w6 wq := HL.out.2.trans (hbq.mono HL.out.2.size)
        clear hwq fb z0 z1 z2 z3 z4 z5 z6 z7
        have z0 : wq.cell? ⟨gb, 0, none⟩ = some (.int .i64 t0) := (cell_of_heap q5 0).trans rfl
        have z1 : wq.cell? ⟨gb, 1, none⟩ = some (.string t1) := (cell_of_heap q5 1).trans rfl
        have z2 : wq.cell? ⟨gb, 2, none⟩ = some (.int .i64 t2) := (cell_of_heap q5 2).trans rfl
        have z3 : wq.cell? ⟨gb, 3, none⟩ = some (.int .i64 t3) := (cell_of_heap q5 3).trans rfl
        have z4 : wq.cell? ⟨gb, 4, none⟩ = some (.int .i64 t4) := (cell_of_heap q5 4).trans rfl
        have z5 : wq.cell? ⟨gb, 5, none⟩ = some (.int .i64 t5) := (cell_of_heap q5 5).trans rfl
        have z6 : wq.cell? ⟨gb, 6, none⟩ = some (.int .i64 t6) := (cell_of_heap q5 6).trans rfl
        have z7 : wq.cell? ⟨gb, 7, none⟩ = some (.int .i64 t7) := (cell_of_heap q5 7).trans rfl
        have HQ := Lib.hid (And.intro hR5 hB5)
        clear q5 b5 s5 hbq hR5 hB5
        by_cases h8 : t0 = kc
        · have hst := HS.out.1
          rw [if_pos h8, List.append_nil] at hst
          have HST := Lib.hid hst
          have hb8 : (t0 != kc) = false := bne_eq_false_iff_eq.2 h8
          have H8 := Lib.hid h8
          clear hst h8
          go_wp2_with (fail)
          go_roundg (ys.length - (j + 1))
          case measure => have := HLT.out; omega
          case rel => exact ⟨j + 1, Nat.add_sub_of_le HLT.out, by go_num, by rw [HST.out]; exact HQ.out.1, HQ.out.2⟩
        · have hst := HS.out.1
          rw [if_neg h8] at hst
          have HST := Lib.hid hst
          have hb8 : (t0 != kc) = true := bne_iff_ne.2 h8
          have H8 := Lib.hid h8
          clear hst h8
          go_wp2_with (first | ((with_reducible refine gate_builtin (b := .append) (xs := #[.tmp 71, .tmp 73]) rfl ?_); at_builtin; refine Kd.R_append K.k37 (w0 := w6) w6.heap.size rfl (.tmp 71) (.tmp 73) 28 37 (.agg #[.int .i64 0, .string ⟨#[]⟩, .int .i64 0, .int .i64 0, .int .i64 0, .int .i64 0, .int .i64 0, .int .i64 0]) 72 rfl Tryd.underlying28 info37 rfl (by decide) (by omega) u15 ((ys.take j).filter (notTok kc)) ⟨t0, t1, ⟨t2, t3, t4⟩, ⟨t5, t6, t7⟩⟩ [.int .i64 t0, .string t1, .int .i64 t2, .int .i64 t3, .int .i64 t4, .int .i64 t5, .int .i64 t6, .int .i64 t7] (fun k_ => (w6.heap.size ≤ k_)) (fun _ => False) rfl rfl ?aP (fun _ hk => hk.elim) ?aF ?aO ?aB ?aS ?aL ?_; (case aP => exact K.k37_mkM _ _ _ ⟨t0, t1, ⟨t2, t3, t4⟩, ⟨t5, t6, t7⟩⟩); (case aF => intro k_ hk; have := HQ.out.2.size; omega); (case aO => exact HQ.out.1); (case aB => exact HQ.out.2); (case aS => have := HQ.out.2.size; omega); (case aL => have h1 := HX.out.2.2.2.2.2.2; have h2 := List.length_filter_le (notTok kc) (ys.take j); have h3 := List.length_take_le j ys; omega); intro v1 wz ho hb hg hat; have HAP := Lib.hid (And.intro ho hb); clear ho hb hg hat))
          go_roundg (ys.length - (j + 1))
          case measure => have := HLT.out; omega
          case rel => exact ⟨j + 1, Nat.add_sub_of_le HLT.out, by go_num, by rw [HST.out]; exact HAP.out.1, HAP.out.2⟩
      · obtain rfl : j = ys.length := by omega
        have hall : (ys.take ys.length).filter (notTok kc) = xs := by rw [List.take_length]; exact HX.out.2.2.2.2.1.symm
        have hR := HL.out.1
        rw [hall] at hR
        obtain ⟨A9, c9, e9, hc9, hC9⟩ := Kd.R_reads hR
        subst e9
        have HR9 := Lib.hid (And.intro hc9 hC9)
        clear hall hR hc9 hC9
        go_wp2_with (first
          | (go_at_call 23; refine (works_at w _ (HB6.out.1.trans (HL.out.2.mono HB6.out.1.size)) HH.out.2.1).mono ?_; rintro e w7 ⟨rfl, hb7⟩; have HB7 := Lib.hid (And.intro (HL.out.2.trans (hb7.mono HL.out.2.size)) (Kd.C_below HR9.out.2 hb7)); clear hb7)
          | (go_at_call 29; refine (same_at _ A A9 c c9 xs xs (Kd.C_below HB6.out.2.1 HB7.out.1) HB5.out.2.2.1 HB7.out.2 HR9.out.1 _ HX.out.2.2.2.2.2.1).mono ?_; rintro e w8 ⟨rfl, hb8⟩; have HB8 := Lib.hid (HB7.out.1.trans (hb8.mono HB7.out.1.size)); clear hb8))
        go_ret
        exact ⟨rfl, HB6.out.1.trans (HB8.out.mono HB6.out.1.size)⟩
  · have HH := Lib.hid hf
    clear hs hv hf hbw
    go_enter Tryd.func14, Tryd.ntmps14
    go_wp2_with (first
      | (go_at_call 20; refine (fits_no _ s HH.out).mono ?_; rintro e w1 ⟨rfl, hb1⟩))
    go_ret
    exact ⟨rfl, (boxed w s).trans (hb1.mono (Nat.le_of_lt (boxed_lt _ _)))⟩
end Go.Proofs.YtmfihkgbfoapaaaDoor
