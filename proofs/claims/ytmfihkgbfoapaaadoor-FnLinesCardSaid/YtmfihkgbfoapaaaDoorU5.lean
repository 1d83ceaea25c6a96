/- laws.FnCover, walked. -/
import Derived.Test.YtmfihkgbfoapaaaDoorU3
import Derived.Test.YtmfihkgbfoapaaaDoorP1
namespace Go.Proofs.YtmfihkgbfoapaaaDoor
set_option linter.unusedVariables false
set_option linter.unusedSimpArgs false
open Go Go.RowKit Go.Lib Go.BigFrame Go.Proofs.YtmfihkgbfoapaaaDoorW.PrintWords

def isBom (src : List UInt8) : Bool := decide (2 < src.length) && decide (gb src 0 = 239) && decide (gb src 1 = 187) && decide (gb src 2 = 191)
theorem start_nobom {src : List UInt8} (h : isBom src = false) : startL src = items src := by
  unfold startL
  rw [if_neg]
  intro hc
  have h0 : 0 < src.length := by
    rcases Nat.eq_zero_or_pos src.length with h0 | h0
    · rw [List.eq_nil_of_length_eq_zero h0, items_nil, chOf_nil] at hc; cases hc
    · exact h0
  rw [items_cons h0] at hc
  have hr : (hd src).1 = 65279 := by have : (((hd src).1 : Nat) : Int) = 65279 := hc; omega
  have hb0 := gb_lt src 0
  have hb1 := gb_lt src 1
  have hb2 := gb_lt src 2
  have hb3 := gb_lt src 3
  have : 2 < src.length ∧ gb src 0 = 239 ∧ gb src 1 = 187 ∧ gb src 2 = 191 := by
    unfold hd decodeN at hr
    repeat' split at hr
    all_goals simp only at hr
    all_goals omega
  unfold isBom at h
  rw [decide_eq_true this.1, decide_eq_true this.2.1, decide_eq_true this.2.2.1, decide_eq_true this.2.2.2] at h
  cases h

theorem strOf_ints (t : ByteArray) : strOfNums (ints t.data.toList) = t := by
  unfold strOfNums ints
  rw [List.map_map]
  have : ((fun n : Int => UInt8.ofNat n.toNat) ∘ fun b : UInt8 => (b.toNat : Int)) = id := by funext b; simp
  first | rw [this, List.map_id] | simp [this]
theorem sub_text {B : Nat} {w : World} {a : Option Addr} {k : Nat} {src : List UInt8} (hs : SrcAt B w a k src) {p q : Nat} (hpq : p < q) (hq : q ≤ src.length) {t : ByteArray} (ht : t.data.toList = (src.drop p).take (q - p)) : ∀ w' : World, Below B w w' →
    (convert 22 9 (.slice (a.map fun x => x.add p) (q - p) (k - p))).run Tryd.prog w' = .ok (.string t) w' := by
  intro w' hb
  have hr := (hs.up hb (Nat.le_refl _)).reads
  have hd := hr.drop_ (c := k) p (by omega) hs.1
  rw [if_neg (by have := hs.1; omega), ints_drop] at hd
  have htk := hd.take_ (q - p) (by omega)
  rw [show (ints (src.drop p)).take (q - p) = ints ((src.drop p).take (q - p)) by simp [ints, List.map_take], ← ht] at htk
  have := Kd.C_string (P := Tryd.prog) (src := 22) (dst := 9) (c := k - p) Tryd.underlying22 Tryd.underlying5 Tryd.underlying9 (Kd.C_of_reads (readsInt_of.1 htk))
  rw [this, strOf_ints]
theorem tok_loads {W : World} {q : Nat} {t0 : Int} {t1 : ByteArray} {t2 t3 t4 t5 t6 t7 : Int} (h : W.heap[q]? = some (Obj.cells (tcells t0 t1 t2 t3 t4 t5 t6 t7) 37 (0, 0))) :
    W.cell? ⟨q, 0, none⟩ = some (.int .i64 t0) ∧ W.cell? ⟨q, 1, none⟩ = some (.string t1) ∧ W.cell? ⟨q, 2, none⟩ = some (.int .i64 t2) ∧ W.cell? ⟨q, 3, none⟩ = some (.int .i64 t3) ∧ W.cell? ⟨q, 4, none⟩ = some (.int .i64 t4) ∧ W.cell? ⟨q, 5, none⟩ = some (.int .i64 t5) ∧ W.cell? ⟨q, 6, none⟩ = some (.int .i64 t6) ∧ W.cell? ⟨q, 7, none⟩ = some (.int .i64 t7) :=
  ⟨(cell_of_heap h 0).trans rfl, (cell_of_heap h 1).trans rfl, (cell_of_heap h 2).trans rfl, (cell_of_heap h 3).trans rfl, (cell_of_heap h 4).trans rfl, (cell_of_heap h 5).trans rfl, (cell_of_heap h 6).trans rfl, (cell_of_heap h 7).trans rfl⟩
theorem isBom_eq {src : List UInt8} (h2 : 2 < src.length) : isBom src = (decide (gb src 0 = 239) && decide (gb src 1 = 187) && (((gb src 2 : Nat) : Int) == 191)) := by
  unfold isBom
  rw [decide_eq_true h2, Bool.true_and]
  congr 1
  by_cases h : gb src 2 = 191
  · rw [h]; rfl
  · rw [decide_eq_false h]; exact (beq_eq_false_iff_ne.2 (by omega)).symm
theorem src_bytes {B : Nat} {w : World} {a : Option Addr} {k : Nat} {src : List UInt8} (h : SrcAt B w a k src) (h2 : 2 < src.length) :
    (∃ g o, a = some ⟨g, o, none⟩ ∧ w.cell? ⟨g, o, none⟩ = some (.int .u8 (gb src 0 : Nat)) ∧ w.cell? ⟨g, o + 1, none⟩ = some (.int .u8 (gb src 1 : Nat)) ∧ w.cell? ⟨g, o + 2, none⟩ = some (.int .u8 (gb src 2 : Nat))) ∧ True ∧ True := by
  obtain ⟨g, o, ha, _, hc⟩ := h.2.2 (by omega)
  exact ⟨⟨g, o, ha, hc 0 (by omega), hc 1 (by omega), hc 2 (by omega)⟩, trivial, trivial⟩
set_option maxRecDepth 100000 in
set_option maxHeartbeats 1600000 in
theorem fncover (w : World) (a : Option Addr) (k : Nat) (src : List UInt8) (s : Stp) (hs : SrcAt w.heap.size w a k src) (hv : Vars w.heap.size w) :
    Calls Tryd.prog 4 #[.slice a src.length k, .agg #[.bool s.d, .int .i64 s.m, .int .u64 s.wh, .bool s.cu, .string s.f1, .string s.f2]] w fun e w' => e = .returned (.bool true) ∧ Below w.heap.size w w' := by
  by_cases hbig : (2147483647 : Int) < src.length
  · clear hs hv
    go_enter Tryd.func4, Tryd.ntmps4
    go_wp2_with (fail)
    go_ret
    exact ⟨rfl, boxed w s⟩
  by_cases hf : s.f1.size ≤ 2147483647 ∧ s.f2.size ≤ 2147483647
  · have HH := Lib.hid (And.intro hs (And.intro hv (And.intro hf hbig)))
    clear hs hv hf
    go_enter Tryd.func4, Tryd.ntmps4
    go_upto_region 3 with (first
      | (go_at_call 20; refine (fits_yes _ s HH.out.2.2.1.1 HH.out.2.2.1.2).mono ?_; rintro e w1 ⟨rfl, hb1⟩))
    have hB1 : Below w.heap.size w w1 := (boxed w s).trans (hb1.mono (Nat.le_of_lt (boxed_lt _ _)))
    have hn1 := (hb1.block _ (boxed_lt _ _)).trans (heap_alloc_new w _)
    have HB := Lib.hid (And.intro hB1 hn1)
    clear hb1 hB1 hn1
    go_cut [39] (fun t wr => t = .bool (isBom src) ∧ wr = w1)
    case first =>
      by_cases h2 : 2 < src.length
      · obtain ⟨b0, b1, b2⟩ := src_bytes (HH.out.1.up HB.out.1 HB.out.1.size) h2
        obtain ⟨g, o, rfl, c0, c1, c2⟩ := b0
        have hk3 : 2 < k := by have := HH.out.1.1; omega
        obtain ⟨x0, e0⟩ : ∃ x, gb src 0 = x := ⟨_, rfl⟩
        obtain ⟨x1, e1⟩ : ∃ x, gb src 1 = x := ⟨_, rfl⟩
        obtain ⟨x2, e2⟩ : ∃ x, gb src 2 = x := ⟨_, rfl⟩
        rw [e0] at c0
        rw [e1] at c1
        rw [e2] at c2
        have HE := Lib.hid (And.intro e0 (And.intro e1 e2))
        clear e0 e1 e2 b1 b2
        have H2 := Lib.hid h2
        go_wp2_with (fail)
        all_goals go_meet
        · refine ⟨?_, rfl⟩
          rw [isBom_eq H2.out, HE.out.1, HE.out.2.1, HE.out.2.2, decide_eq_true (show x0 = 239 by omega), decide_eq_true (show x1 = 187 by omega)]; rfl
        · refine ⟨?_, rfl⟩
          rw [isBom_eq H2.out, HE.out.2.1, decide_eq_false (show ¬ x1 = 187 by omega)]; simp
        · refine ⟨?_, rfl⟩
          rw [isBom_eq H2.out, HE.out.1, decide_eq_false (show ¬ x0 = 239 by omega)]; simp
      · go_wp2_with (fail)
        go_meet
        refine ⟨?_, rfl⟩
        unfold isBom; rw [decide_eq_false h2]; rfl
    case rest =>
      obtain ⟨rfl, rfl⟩ := hcut
      cases hbm : isBom src with
      | true =>
        go_wp2_with (fail)
        go_ret
        exact ⟨rfl, HB.out.1⟩
      | false =>
        have HBM := Lib.hid hbm
        clear hbm
        obtain ⟨c0, c1, c2, c3, c4, c5⟩ := set_loads HB.out.2
        obtain ⟨F, hF⟩ : ∃ F, s.fit = F := ⟨_, rfl⟩
        have HF := Lib.hid hF
        clear hF
        obtain ⟨ts, hts⟩ : ∃ ts, (toks F.cfg src (startL src)).map (tokOf src) = ts := ⟨_, rfl⟩
        have hcov : Covers src 0 ts := by
          rw [← hts, start_nobom HBM.out]
          exact covers_toks _ _ _ (List.suffix_refl _) 0 (Nat.zero_le _)
        have htl : ts.length ≤ 2147483648 := by
          rw [← hts, List.length_map]
          have h1 := toks_len F.cfg src (startL src)
          have h2 := startL_le src
          have := HH.out.2.2.2
          omega
        obtain ⟨er, her⟩ : ∃ er, errNum F.cfg src = er := ⟨_, rfl⟩
        have HT := Lib.hid (And.intro hts (And.intro her (And.intro hcov htl)))
        clear hts her hcov htl
        go_upto_region 8 with (first
          | (go_at_call 21; refine (fit_spec _ s (by have := HH.out.2.2.1.1; omega) (by have := HH.out.2.2.1.2; omega)).mono ?_; rw [HF.out]; rintro e w2 ⟨rfl, hb2⟩; have HB2 := Lib.hid (HB.out.1.trans (hb2.mono HB.out.1.size)); clear hb2 c0 c1 c2 c3 c4 c5)
          | (go_at_call 24; refine (tokens_at w _ a none k 0 src [] F (by rw [← HF.out]; exact s.fit_ok) HB2.out HH.out.1 (SzAt.nil _ _) (by have := HH.out.2.2.2; omega) HH.out.2.1).mono ?_; unfold TokPost; rw [HT.out.1, HT.out.2.1]; rintro e w3 ⟨A, c, rfl, hc, hC, hb3⟩; have HB3 := Lib.hid (And.intro (HB2.out.trans (hb3.mono HB2.out.size)) (And.intro hc hC)); clear hb3 hC hc))
        go_wp2_with (fail)
        go_loopg [8, 50] ts.length (fun kk v i wr => ∃ j a0 : Nat, j + kk = ts.length ∧ i = .int .i64 (j : Nat) ∧ v = .int .i64 (a0 : Nat) ∧ a0 ≤ src.length ∧ Covers src a0 (ts.drop j) ∧ Below w3.heap.size w3 wr)
        case atStart => exact ⟨0, 0, by omega, rfl, rfl, Nat.zero_le _, HT.out.2.2.1, Below.refl _ _⟩
        case round =>
          obtain ⟨j, a0, hj, rfl, rfl, ha0, hcv, hb⟩ := hrel
          have hlt : j < ts.length := by
            rcases Nat.lt_or_ge j ts.length with h | h
            · exact h
            · rw [List.drop_eq_nil_of_le h] at hcv; exact hcv.elim
          have hjb : (j : Int) ≤ 2147483648 := by have := HT.out.2.2.2; omega
          have HL := Lib.hid hb
          have HLT := Lib.hid hlt
          obtain ⟨ad, e, -⟩ := K.at_T37 HB3.out.2.2 (j : Int) (by omega) (by omega)
          cases e
          have hC := Kd.C_below HB3.out.2.2 HL.out
          have hdr : ts.drop j = K.rd_T37 ts (j : Int) :: ts.drop (j + 1) := by
            rw [List.drop_eq_getElem_cons hlt]
            congr 1
            unfold K.rd_T37; simp [List.getD_eq_getElem?_getD, List.getElem?_eq_getElem hlt]
          rw [hdr] at hcv
          obtain ⟨T, hT⟩ : ∃ T, K.rd_T37 ts (j : Int) = T := ⟨_, rfl⟩
          rw [hT] at hcv
          obtain ⟨ad', e, x0, x1, x2, x3, x4, x5, x6, x7⟩ := K.at_T37 hC (j : Int) (by omega) (by omega)
          cases e
          rw [hT] at x0 x1 x2 x3 x4 x5 x6 x7
          obtain ⟨t0, t1, ⟨t2, t3, t4⟩, ⟨t5, t6, t7⟩⟩ := T
          simp only [Int.toNat_natCast] at x0 x1 x2 x3 x4 x5 x6 x7
          have HCV := Lib.hid hcv
          clear hcv hdr hT hC hb hlt
          go_upto_region 10 with (first
            | ((with_reducible refine gate_dst (N := 10) rfl ?_); refine box_event ?hg (N := 10) ?hd (cs := #[.int .i64 0, .string (⟨#[]⟩ : ByteArray), .int .i64 0, .int .i64 0, .int .i64 0, .int .i64 0, .int .i64 0, .int .i64 0]) (t := 37) ?hr ?_; (case hd => rfl); (case hg => rfl); (case hr => first | (go_simp; done) | (go_simp; rfl)); intro gb hg wb hbox hbb; clear x0 x1 x2 x3 x4 x5 x6 x7; have HBX := Lib.hid (And.intro hg (And.intro hbox hbb)); have fb := frozen_of_heap hbox; have z0 := cell_of_heap (j := 0) hbox; have z1 := cell_of_heap (j := 1) hbox; have z2 := cell_of_heap (j := 2) hbox; have z3 := cell_of_heap (j := 3) hbox; have z4 := cell_of_heap (j := 4) hbox; have z5 := cell_of_heap (j := 5) hbox; have z6 := cell_of_heap (j := 6) hbox; have z7 := cell_of_heap (j := 7) hbox; simp at z0 z1 z2 z3 z4 z5 z6 z7; clear hg hbox hbb))
          obtain ⟨wq, hwq⟩ : ∃ W, ((((((((wb.setCell ⟨gb, 0, none⟩ (.int .i64 t0)).setCell ⟨gb, 1, none⟩ (.string t1)).setCell ⟨gb, 2, none⟩ (.int .i64 t2)).setCell ⟨gb, 3, none⟩ (.int .i64 t3)).setCell ⟨gb, 4, none⟩ (.int .i64 t4)).setCell ⟨gb, 5, none⟩ (.int .i64 t5)).setCell ⟨gb, 6, none⟩ (.int .i64 t6)).setCell ⟨gb, 7, none⟩ (.int .i64 t7)) = W := ⟨_, rfl⟩
          rw [hwq]
          obtain ⟨q5, b5, s5⟩ := tok_box HBX.out.2.1 t0 t1 t2 t3 t4 t5 t6 t7 hwq
          have hbq : Below wr.heap.size wr wq := HBX.out.2.2.trans (b5.mono (by rw [HBX.out.1]; exact Nat.le_refl _))
          have hB5 : Below w3.heap.size w3 wq := HL.out.trans (hbq.mono HL.out.size)
          clear hwq fb z0 z1 z2 z3 z4 z5 z6 z7
          have HQ := Lib.hid (And.intro q5 hB5)
          clear q5 b5 s5 hbq hB5
          rcases Nat.lt_or_ge (j + 1) ts.length with hl2 | hl2
          · have hb1 : ((j : Int) == wrap64 ((ts.length : Int) - 1)) = false := by rw [wrap64_id (by omega) (by have := HT.out.2.2.2; omega)]; exact beq_eq_false_iff_ne.2 (by omega)
            obtain ⟨u, us, hus⟩ : ∃ u us, ts.drop (j + 1) = u :: us := by
              cases hx : ts.drop (j + 1) with
              | nil => have := List.drop_eq_nil_iff.1 hx; omega
              | cons u us => exact ⟨u, us, rfl⟩
            have hcv := HCV.out
            rw [hus] at hcv
            obtain ⟨g1, g2, g3, g4, g5⟩ := hcv
            have g1' : (a0 : Int) ≤ t2 := g1
            have g2' : t2 < t5 := g2
            have g3' : t5 ≤ src.length := g3
            obtain ⟨p, rfl⟩ : ∃ p : Nat, t2 = p := ⟨t2.toNat, by omega⟩
            obtain ⟨q, rfl⟩ : ∃ q : Nat, t5 = q := ⟨t5.toNat, by omega⟩
            have g4' : t1.data.toList = (src.drop p).take (q - p) := g4
            have g5' : Covers src q (ts.drop (j + 1)) := by rw [hus]; exact g5
            have hpq : p < q := by omega
            have hql : q ≤ src.length := by omega
            have hap : a0 ≤ p := by omega
            have hsk : src.length ≤ k := HH.out.1.1
            have HG := Lib.hid (And.intro g4' g5')
            have HCV2 := Lib.hid (sub_text (HH.out.1.up HB3.out.1 HB3.out.1.size) hpq hql g4')
            clear g1 g2 g3 g4 g5 g1' g2' g3' g4' g5' hus hl2
            obtain ⟨z0, z1, z2, z3, z4, z5, z6, z7⟩ := tok_loads HQ.out.1
            go_upto_region 12 with (fail)
            have hcv := fun n => HCV2.out (wq.drewN n) ⟨HQ.out.2.os, HQ.out.2.tape, HQ.out.2.output, HQ.out.2.size, HQ.out.2.block⟩
            have hd1 : decide (p < a0) = false := decide_eq_false (by omega)
            have hd2 : decide (q ≤ p) = false := decide_eq_false (by omega)
            have hd3 : decide (src.length < q) = false := decide_eq_false (by omega)
            have hpk : p < k := by omega
            refine wp_region_quiet_lit (by kernel_rfl) (by kernel_rfl) ?_
            repeat (go_big_quiet_step (fail))
            all_goals (refine wpQuiet_nil ?_; intro _ hw'; obtain ⟨nq, hw''⟩ := hw'; subst hw'')
            have HQ2 := Lib.hid (And.intro (show (wq.drewN nq).heap[gb]? = some (Obj.cells (tcells t0 t1 p t3 t4 q t6 t7) 37 (0, 0)) from HQ.out.1) (show Below w3.heap.size w3 (wq.drewN nq) from ⟨HQ.out.2.os, HQ.out.2.tape, HQ.out.2.output, HQ.out.2.size, HQ.out.2.block⟩))
            clear hcv z0 z1 z2 z3 z4 z5 z6 z7
            generalize wq.drewN nq = wz at HQ2 ⊢
            obtain ⟨z0, z1, z2, z3, z4, z5, z6, z7⟩ := tok_loads HQ2.out.1
            go_wp2_with (fail)
            go_roundg (ts.length - (j + 1))
            case measure => have := HLT.out; omega
            case rel => exact ⟨j + 1, q, Nat.add_sub_of_le HLT.out, by go_num, rfl, hql, HG.out.2, HQ2.out.2⟩
          · have hlast : (j : Int) = ts.length - 1 := by have := HLT.out; omega
            have hnil : ts.drop (j + 1) = [] := List.drop_eq_nil_of_le hl2
            have hcv := HCV.out
            rw [hnil] at hcv
            obtain ⟨h0, h5⟩ := hcv
            have h0' : t0 = -1 := h0
            have h5' : t5 = src.length := h5
            subst h0'
            subst h5'
            obtain ⟨z0, z1, z2, z3, z4, z5, z6, z7⟩ := tok_loads HQ.out.1
            have HHL := Lib.hid hlast
            have hb1 : ((j : Int) == wrap64 ((ts.length : Int) - 1)) = true := by rw [wrap64_id (by omega) (by have := HT.out.2.2.2; omega)]; exact beq_iff_eq.2 hlast
            clear hlast hnil h0 h5 hl2
            go_wp2_with (first
              | (go_at_call 23; refine (works_at w _ (HB3.out.1.trans (HQ.out.2.mono HB3.out.1.size)) HH.out.2.1).mono ?_; rintro e w7 ⟨rfl, hb7⟩; have hq7 := (hb7.block _ (lt_of_heap HQ.out.1)).trans HQ.out.1; obtain ⟨y0, y1, y2, y3, y4, y5, y6, y7⟩ := tok_loads hq7; have HB7 := Lib.hid (HQ.out.2.trans (hb7.mono HQ.out.2.size)); clear hb7 hq7 z0 z1 z2 z3 z4 z5 z6 z7))
            go_ret
            exact ⟨rfl, HB3.out.1.trans (HB7.out.mono HB3.out.1.size)⟩
  · have HH := Lib.hid hf
    clear hs hv hf
    go_enter Tryd.func4, Tryd.ntmps4
    go_wp2_with (first
      | (go_at_call 20; refine (fits_no _ s HH.out).mono ?_; rintro e w1 ⟨rfl, hb1⟩))
    go_ret
    exact ⟨rfl, (boxed w s).trans (hb1.mono (Nat.le_of_lt (boxed_lt _ _)))⟩
end Go.Proofs.YtmfihkgbfoapaaaDoor
