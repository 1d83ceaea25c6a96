/- laws.FnLines, walked. -/
import Derived.Test.YtmfihkgbfoapaaaDoorU5
import Derived.Test.YtmfihkgbfoapaaaDoorP1
namespace Go.Proofs.YtmfihkgbfoapaaaDoor
set_option linter.unusedVariables false
set_option linter.unusedSimpArgs false
open Go Go.RowKit Go.Lib Go.BigFrame Go.Proofs.YtmfihkgbfoapaaaDoorW.PrintWords

theorem nls_take {src : List UInt8} {i : Nat} (h : i < src.length) : nls (src.take (i + 1)) = nls (src.take i) + if gb src i = 10 then 1 else 0 := by
  rw [List.take_succ_eq_append_getElem h, nls_append, gb_get h]
  congr 1
  unfold nls
  by_cases h10 : src[i].toNat = 10
  · simp [h10]
  · simp [h10]
theorem place_box {w4 : World} {q : Nat} (h : w4.heap[q]? = some (Obj.cells #[.int .i64 0, .int .i64 0, .int .i64 0] 35 (0, 0))) (a b c : Int) {w5 : World}
    (hw : (((w4.setCell ⟨q, 0, none⟩ (.int .i64 a)).setCell ⟨q, 1, none⟩ (.int .i64 b)).setCell ⟨q, 2, none⟩ (.int .i64 c)) = w5) :
    w5.heap[q]? = some (Obj.cells #[.int .i64 a, .int .i64 b, .int .i64 c] 35 (0, 0)) ∧ Below q w4 w5 ∧ w5.heap.size = w4.heap.size := by
  subst hw
  have h0 := Go.Lib.heap_setCell_same (i := 0) h (.int .i64 a)
  have h1 := Go.Lib.heap_setCell_same (i := 1) h0 (.int .i64 b)
  have h2 := Go.Lib.heap_setCell_same (i := 2) h1 (.int .i64 c)
  have hq := fun (v : World) (i : Nat) (u : Value) (h : Below q w4 v) => h.setCell (p := ⟨q, i, none⟩) (Nat.le_refl q) u
  exact ⟨h2, hq _ _ _ (hq _ _ _ (hq _ _ _ (Below.refl _ _))), by simp only [World.size_setCell]⟩
set_option maxRecDepth 100000 in
set_option maxHeartbeats 1600000 in
theorem fnlines (w : World) (a : Option Addr) (k : Nat) (src : List UInt8) (s : Stp) (hs : SrcAt w.heap.size w a k src) (hv : Vars w.heap.size w) :
    Calls Tryd.prog 8 #[.slice a src.length k, .agg #[.bool s.d, .int .i64 s.m, .int .u64 s.wh, .bool s.cu, .string s.f1, .string s.f2]] w fun e w' => e = .returned (.bool true) ∧ Below w.heap.size w w' := by
  by_cases hbig : (2147483647 : Int) < src.length
  · clear hs hv
    go_enter Tryd.func8, Tryd.ntmps8
    go_wp2_with (fail)
    go_ret
    exact ⟨rfl, boxed w s⟩
  by_cases hf : s.f1.size ≤ 2147483647 ∧ s.f2.size ≤ 2147483647
  · have HH := Lib.hid (And.intro hs (And.intro hv (And.intro hf hbig)))
    clear hs hv hf
    go_enter Tryd.func8, Tryd.ntmps8
    go_upto_region 3 with (first
      | (go_at_call 20; refine (fits_yes _ s HH.out.2.2.1.1 HH.out.2.2.1.2).mono ?_; rintro e w1 ⟨rfl, hb1⟩))
    have hB1 : Below w.heap.size w w1 := (boxed w s).trans (hb1.mono (Nat.le_of_lt (boxed_lt _ _)))
    have hn1 := (hb1.block _ (boxed_lt _ _)).trans (heap_alloc_new w _)
    have HB := Lib.hid (And.intro hB1 hn1)
    clear hb1 hB1 hn1
    go_cut [43] (fun t wr => t = .bool (isBom src) ∧ wr = w1)
    case first =>
      by_cases h2 : 2 < src.length
      · obtain ⟨b0, b1, b2⟩ := src_bytes (HH.out.1.up HB.out.1 HB.out.1.size) h2
        obtain ⟨g, o, rfl, c0, c1, c2⟩ := b0
        have hk3 : 2 < k := by have := HH.out.1.1; omega
        obtain ⟨x0, e0⟩ : ∃ x, gb src 0 = x := ⟨_, rfl⟩
        obtain ⟨x1, e1⟩ : ∃ x, gb src 1 = x := ⟨_, rfl⟩
        obtain ⟨x2, e2⟩ : ∃ x, gb src 2 = x := ⟨_, rfl⟩
        rw [e0] at c0
        rw [e1] at c1
        rw [e2] at c2
        have HE := Lib.hid (And.intro e0 (And.intro e1 e2))
        clear e0 e1 e2 b1 b2
        have H2 := Lib.hid h2
        go_wp2_with (fail)
        all_goals go_meet
        · refine ⟨?_, rfl⟩
          rw [isBom_eq H2.out, HE.out.1, HE.out.2.1, HE.out.2.2, decide_eq_true (show x0 = 239 by omega), decide_eq_true (show x1 = 187 by omega)]; rfl
        · refine ⟨?_, rfl⟩
          rw [isBom_eq H2.out, HE.out.2.1, decide_eq_false (show ¬ x1 = 187 by omega)]; simp
        · refine ⟨?_, rfl⟩
          rw [isBom_eq H2.out, HE.out.1, decide_eq_false (show ¬ x0 = 239 by omega)]; simp
      · go_wp2_with (fail)
        go_meet
        refine ⟨?_, rfl⟩
        unfold isBom; rw [decide_eq_false h2]; rfl
    case rest =>
      obtain ⟨rfl, rfl⟩ := hcut
      cases hbm : isBom src with
      | true =>
        go_wp2_with (fail)
        go_ret
        exact ⟨rfl, HB.out.1⟩
      | false =>
        have HBM := Lib.hid hbm
        clear hbm
        obtain ⟨c0, c1, c2, c3, c4, c5⟩ := set_loads HB.out.2
        obtain ⟨F, hF⟩ : ∃ F, s.fit = F := ⟨_, rfl⟩
        have HF := Lib.hid hF
        clear hF
        obtain ⟨ts, hts⟩ : ∃ ts, (toks F.cfg src (startL src)).map (tokOf src) = ts := ⟨_, rfl⟩
        have hcov : ∀ t ∈ ts, LinesOk src t := by
          rw [← hts]
          obtain ⟨pre, hp⟩ := startL_pre src
          exact lines_toks _ _ _ ⟨pre, hp.symm⟩
        have htl : ts.length ≤ 2147483648 := by
          rw [← hts, List.length_map]
          have h1 := toks_len F.cfg src (startL src)
          have h2 := startL_le src
          have := HH.out.2.2.2
          omega
        obtain ⟨er, her⟩ : ∃ er, errNum F.cfg src = er := ⟨_, rfl⟩
        have HT := Lib.hid (And.intro hts (And.intro her (And.intro hcov htl)))
        clear hts her hcov htl
        go_upto_region 7 with (first
          | (go_at_call 21; refine (fit_spec _ s (by have := HH.out.2.2.1.1; omega) (by have := HH.out.2.2.1.2; omega)).mono ?_; rw [HF.out]; rintro e w2 ⟨rfl, hb2⟩; have HB2 := Lib.hid (HB.out.1.trans (hb2.mono HB.out.1.size)); clear hb2 c0 c1 c2 c3 c4 c5)
          | (go_at_call 24; refine (tokens_at w _ a none k 0 src [] F (by rw [← HF.out]; exact s.fit_ok) HB2.out HH.out.1 (SzAt.nil _ _) (by have := HH.out.2.2.2; omega) HH.out.2.1).mono ?_; unfold TokPost; rw [HT.out.1, HT.out.2.1]; rintro e w3 ⟨A, c, rfl, hc, hC, hb3⟩; have HB3 := Lib.hid (And.intro (HB2.out.trans (hb3.mono HB2.out.size)) (And.intro hc hC)); clear hb3 hC hc))
        have hpos : 0 < ts.length := by
          obtain ⟨x, xs, hx⟩ := toks_ne F.cfg src (startL src)
          rw [← HT.out.1, hx]; exact Nat.succ_pos _
        have HPOS := Lib.hid hpos
        clear hpos
        go_wp2_with (fail)
        go_loopg [54] ts.length (fun kk i wr => ∃ j : Nat, j + kk = ts.length ∧ i = .int .i64 (j : Nat) ∧ Below w3.heap.size w3 wr)
        case atStart => exact ⟨0, by omega, rfl, Below.refl _ _⟩
        case round =>
          obtain ⟨j, hj, rfl, hb⟩ := hrel
          have HL := Lib.hid hb
          have hjb : (j : Int) ≤ 2147483648 := by have := HT.out.2.2.2; omega
          by_cases hlt : j < ts.length
          · have HLT := Lib.hid hlt
            obtain ⟨ad, e, -⟩ := K.at_T37 HB3.out.2.2 (j : Int) (by omega) (by omega)
            cases e
            have hC := Kd.C_below HB3.out.2.2 HL.out
            obtain ⟨T, hT⟩ : ∃ T, K.rd_T37 ts (j : Int) = T := ⟨_, rfl⟩
            have hok : LinesOk src T := by
              rw [← hT]
              refine HT.out.2.2.1 _ ?_
              unfold K.rd_T37; simp [List.getD_eq_getElem?_getD, List.getElem?_eq_getElem hlt]
            obtain ⟨ad', e, x0, x1, x2, x3, x4, x5, x6, x7⟩ := K.at_T37 hC (j : Int) (by omega) (by omega)
            cases e
            rw [hT] at x0 x1 x2 x3 x4 x5 x6 x7
            obtain ⟨t0, t1, ⟨t2, t3, t4⟩, ⟨t5, t6, t7⟩⟩ := T
            simp only [Int.toNat_natCast] at x0 x1 x2 x3 x4 x5 x6 x7
            have HOK := Lib.hid hok
            clear hok hT hC hb hlt
            go_upto_region 9 with (first
              | ((with_reducible refine gate_dst (N := 9) rfl ?_); refine box_event ?hg (N := 9) ?hd (cs := #[.int .i64 0, .string (⟨#[]⟩ : ByteArray), .int .i64 0, .int .i64 0, .int .i64 0, .int .i64 0, .int .i64 0, .int .i64 0]) (t := 37) ?hr ?_; (case hd => rfl); (case hg => rfl); (case hr => first | (go_simp; done) | (go_simp; rfl)); intro gb hg wb hbox hbb; clear x0 x1 x2 x3 x4 x5 x6 x7; have HBX := Lib.hid (And.intro hg (And.intro hbox hbb)); have fb := frozen_of_heap hbox; have z0 := cell_of_heap (j := 0) hbox; have z1 := cell_of_heap (j := 1) hbox; have z2 := cell_of_heap (j := 2) hbox; have z3 := cell_of_heap (j := 3) hbox; have z4 := cell_of_heap (j := 4) hbox; have z5 := cell_of_heap (j := 5) hbox; have z6 := cell_of_heap (j := 6) hbox; have z7 := cell_of_heap (j := 7) hbox; simp at z0 z1 z2 z3 z4 z5 z6 z7; clear hg hbox hbb))
            obtain ⟨wq, hwq⟩ : ∃ W, ((((((((wb.setCell ⟨gb, 0, none⟩ (.int .i64 t0)).setCell ⟨gb, 1, none⟩ (.string t1)).setCell ⟨gb, 2, none⟩ (.int .i64 t2)).setCell ⟨gb, 3, none⟩ (.int .i64 t3)).setCell ⟨gb, 4, none⟩ (.int .i64 t4)).setCell ⟨gb, 5, none⟩ (.int .i64 t5)).setCell ⟨gb, 6, none⟩ (.int .i64 t6)).setCell ⟨gb, 7, none⟩ (.int .i64 t7)) = W := ⟨_, rfl⟩
            rw [hwq]
            obtain ⟨q5, b5, s5⟩ := tok_box HBX.out.2.1 t0 t1 t2 t3 t4 t5 t6 t7 hwq
            have hbq : Below wr.heap.size wr wq := HBX.out.2.2.trans (b5.mono (by rw [HBX.out.1]; exact Nat.le_refl _))
            have hB5 : Below w3.heap.size w3 wq := HL.out.trans (hbq.mono HL.out.size)
            clear hwq fb z0 z1 z2 z3 z4 z5 z6 z7
            have HQ := Lib.hid (And.intro q5 hB5)
            clear q5 b5 s5 hbq hB5
            obtain ⟨z0, z1, z2, z3, z4, z5, z6, z7⟩ := tok_loads HQ.out.1
            go_wp2_with (fail)
            obtain ⟨wp, hwp⟩ : ∃ W, wq.alloc (Obj.cells #[.int .i64 t2, .int .i64 t3, .int .i64 t4, .int .i64 t5, .int .i64 t6, .int .i64 t7] 35) = W := ⟨_, rfl⟩
            obtain ⟨gp, hgp⟩ : ∃ g, wq.heap.size = g := ⟨_, rfl⟩
            rw [hwp, hgp]
            have hp1 : wp.heap[gp]? = some (Obj.cells #[.int .i64 t2, .int .i64 t3, .int .i64 t4, .int .i64 t5, .int .i64 t6, .int .i64 t7] 35 (0, 0)) := by rw [← hwp, ← hgp]; exact heap_alloc_new _ _
            have hp2 : Below wq.heap.size wq wp := by rw [← hwp]; exact (Below.refl _ _).alloc (Nat.le_refl _) _
            have HP := Lib.hid (And.intro hp1 (And.intro ((hp2.block _ (lt_of_heap HQ.out.1)).trans HQ.out.1) (HQ.out.2.trans (hp2.mono HQ.out.2.size))))
            clear hp1 hp2 hwp hgp z0 z1 z2 z3 z4 z5 z6 z7
            go_loopg [64] 2 (fun k2 i wr2 => ∃ jj : Nat, jj + k2 = 2 ∧ i = .int .i64 (jj : Nat) ∧ Below wp.heap.size wp wr2)
            case atStart => exact ⟨0, rfl, rfl, Below.refl _ _⟩
            case round =>
              obtain ⟨jj, hjj, rfl, hb2⟩ := hrel
              have HM2 := Lib.hid (And.intro hb2 ((hb2.block _ (lt_of_heap HP.out.1)).trans HP.out.1))
              clear hb2
              have h3 : jj = 0 ∨ jj = 1 ∨ jj = 2 := by omega
              rcases h3 with rfl | rfl | rfl
              · obtain ⟨o, rfl⟩ : ∃ o : Nat, t2 = o := ⟨t2.toNat, by have := HOK.out.1; have h1 : 0 ≤ t2 := this.1; omega⟩
                have hol : o ≤ src.length := by have := HOK.out.1; have h1 : ((o : Nat) : Int) ≤ src.length := this.2; omega
                have hsk : src.length ≤ k := HH.out.1.1
                have hmm : src.length ≤ 2147483647 := by have := HH.out.2.2.2; omega
                have y0 : wr.cell? ⟨gp, 0, none⟩ = some (.int .i64 (o : Nat)) := (cell_of_heap HM2.out.2 0).trans rfl
                have y1 : wr.cell? ⟨gp, 1, none⟩ = some (.int .i64 t3) := (cell_of_heap HM2.out.2 1).trans rfl
                have y2 : wr.cell? ⟨gp, 2, none⟩ = some (.int .i64 t4) := (cell_of_heap HM2.out.2 2).trans rfl
                go_upto_region 12 with (first
                  | ((with_reducible refine gate_dst (N := 11) rfl ?_); refine box_event ?hg (N := 11) ?hd (cs := #[.int .i64 0, .int .i64 0, .int .i64 0]) (t := 35) ?hr ?_; (case hd => rfl); (case hg => rfl); (case hr => first | (go_simp; done) | (go_simp; rfl)); intro gc hg wc hbox hbb; clear y0 y1 y2; have HBC := Lib.hid (And.intro hg (And.intro hbox hbb)); have fb := frozen_of_heap hbox; have v0 := cell_of_heap (j := 0) hbox; have v1 := cell_of_heap (j := 1) hbox; have v2 := cell_of_heap (j := 2) hbox; simp at v0 v1 v2; clear hg hbox hbb))
                obtain ⟨wd, hwd⟩ : ∃ W, (((wc.setCell ⟨gc, 0, none⟩ (.int .i64 (o : Nat))).setCell ⟨gc, 1, none⟩ (.int .i64 t3)).setCell ⟨gc, 2, none⟩ (.int .i64 t4)) = W := ⟨_, rfl⟩
                rw [hwd]
                have hd := place_box HBC.out.2.1 (o : Nat) t3 t4 hwd
                have hbd : Below wr.heap.size wr wd := HBC.out.2.2.trans (hd.2.1.mono (by rw [HBC.out.1]; exact Nat.le_refl _))
                clear hwd fb v0 v1 v2
                have v0 : wd.cell? ⟨gc, 0, none⟩ = some (.int .i64 (o : Nat)) := (cell_of_heap hd.1 0).trans rfl
                have HD := Lib.hid (And.intro hd.1 (And.intro (HM2.out.1.trans (hbd.mono HM2.out.1.size)) hbd))
                clear hd hbd
                go_wp2_with (fail)
                go_loopg [12, 77] o (fun k3 ln i wx => ∃ ii : Nat, ii + k3 = o ∧ i = .int .i64 (ii : Nat) ∧ ln = .int .i64 (1 + (nls (src.take ii) : Nat)) ∧ wx = wd)
                case atStart => exact ⟨0, by omega, rfl, rfl, rfl⟩
                case round =>
                  obtain ⟨ii, hii, rfl, rfl, hwx⟩ := hrel
                  have HWX := Lib.hid hwx
                  have hnl : nls (src.take ii) ≤ 2147483647 := by
                    have h1 : nls (src.take ii) ≤ (src.take ii).length := List.length_filter_le _ _
                    rw [List.length_take] at h1; omega
                  by_cases hlo : ii < o
                  · have HLO := Lib.hid hlo
                    obtain ⟨g, ob, rfl, -, hc⟩ := HH.out.1.2.2 (by omega)
                    have hci := hc ii (by omega)
                    have hbl : Below w.heap.size w wr := by rw [HWX.out]; exact HB3.out.1.trans (HP.out.2.2.trans (HD.out.2.1.mono HP.out.2.2.size) |>.mono HB3.out.1.size)
                    have hcw := (hbl.cell (World.block_lt_of_cell? w _ hci)).trans hci
                    have hst := nls_take (show ii < src.length by omega)
                    have HST := Lib.hid hst
                    obtain ⟨x, hx⟩ : ∃ x, Go.Proofs.YtmfihkgbfoapaaaDoor.gb src ii = x := ⟨_, rfl⟩
                    rw [hx] at hcw
                    have HX := Lib.hid hx
                    clear hc hci hbl hst hx hwx
                    by_cases h10 : x = 10
                    · subst h10
                      go_wp2_with (fail)
                      go_roundg (o - (ii + 1))
                      case measure => have := HLO.out; omega
                      case rel => exact ⟨ii + 1, Nat.add_sub_of_le HLO.out, by go_num, by rw [HST.out, HX.out, if_pos rfl]; go_num, HWX.out⟩
                    · have hb10 : (((x : Nat) : Int) == 10) = false := beq_eq_false_iff_ne.2 (by omega)
                      go_wp2_with (fail)
                      go_roundg (o - (ii + 1))
                      case measure => have := HLO.out; omega
                      case rel => exact ⟨ii + 1, Nat.add_sub_of_le HLO.out, by go_num, by rw [HST.out, HX.out, if_neg h10]; rfl, HWX.out⟩
                  · obtain rfl : ii = o := by omega
                    subst hwx
                    obtain ⟨q0, q1, q2, q3, q4, q5, q6, q7⟩ := tok_loads ((HD.out.2.1.block _ (lt_of_heap HP.out.2.1)).trans HP.out.2.1)
                    have v1 : wr.cell? ⟨gc, 1, none⟩ = some (.int .i64 t3) := (cell_of_heap HD.out.1 1).trans rfl
                    by_cases hm1 : t0 = -1
                    · have hbm : (t0 != (-1 : Int)) = false := bne_eq_false_iff_eq.2 hm1
                      have HM1 := Lib.hid hm1
                      clear hm1
                      go_wp2_with (fail)
                      go_roundg (2 - 1)
                      case measure => omega
                      case rel => exact ⟨1, rfl, by go_num, HD.out.2.1⟩
                    · have hbm : (t0 != (-1 : Int)) = true := bne_iff_ne.2 hm1
                      have hl : t3 = 1 + (nls (src.take ii) : Nat) := (HOK.out.2.2 hm1).1
                      have HM1 := Lib.hid hm1
                      clear hm1
                      subst hl
                      go_wp2_with (fail)
                      go_roundg (2 - 1)
                      case measure => omega
                      case rel => exact ⟨1, rfl, by go_num, HD.out.2.1⟩
              · obtain ⟨o, rfl⟩ : ∃ o : Nat, t5 = o := ⟨t5.toNat, by have := HOK.out.2.1; have h1 : 0 ≤ t5 := this.1; omega⟩
                have hol : o ≤ src.length := by have := HOK.out.2.1; have h1 : ((o : Nat) : Int) ≤ src.length := this.2; omega
                have hsk : src.length ≤ k := HH.out.1.1
                have hmm : src.length ≤ 2147483647 := by have := HH.out.2.2.2; omega
                have y0 : wr.cell? ⟨gp, 3, none⟩ = some (.int .i64 (o : Nat)) := (cell_of_heap HM2.out.2 3).trans rfl
                have y1 : wr.cell? ⟨gp, 4, none⟩ = some (.int .i64 t6) := (cell_of_heap HM2.out.2 4).trans rfl
                have y2 : wr.cell? ⟨gp, 5, none⟩ = some (.int .i64 t7) := (cell_of_heap HM2.out.2 5).trans rfl
                go_upto_region 12 with (first
                  | ((with_reducible refine gate_dst (N := 11) rfl ?_); refine box_event ?hg (N := 11) ?hd (cs := #[.int .i64 0, .int .i64 0, .int .i64 0]) (t := 35) ?hr ?_; (case hd => rfl); (case hg => rfl); (case hr => first | (go_simp; done) | (go_simp; rfl)); intro gc hg wc hbox hbb; clear y0 y1 y2; have HBC := Lib.hid (And.intro hg (And.intro hbox hbb)); have fb := frozen_of_heap hbox; have v0 := cell_of_heap (j := 0) hbox; have v1 := cell_of_heap (j := 1) hbox; have v2 := cell_of_heap (j := 2) hbox; simp at v0 v1 v2; clear hg hbox hbb))
                obtain ⟨wd, hwd⟩ : ∃ W, (((wc.setCell ⟨gc, 0, none⟩ (.int .i64 (o : Nat))).setCell ⟨gc, 1, none⟩ (.int .i64 t6)).setCell ⟨gc, 2, none⟩ (.int .i64 t7)) = W := ⟨_, rfl⟩
                rw [hwd]
                have hd := place_box HBC.out.2.1 (o : Nat) t6 t7 hwd
                have hbd : Below wr.heap.size wr wd := HBC.out.2.2.trans (hd.2.1.mono (by rw [HBC.out.1]; exact Nat.le_refl _))
                clear hwd fb v0 v1 v2
                have v0 : wd.cell? ⟨gc, 0, none⟩ = some (.int .i64 (o : Nat)) := (cell_of_heap hd.1 0).trans rfl
                have HD := Lib.hid (And.intro hd.1 (And.intro (HM2.out.1.trans (hbd.mono HM2.out.1.size)) hbd))
                clear hd hbd
                go_wp2_with (fail)
                go_loopg [12, 77] o (fun k3 ln i wx => ∃ ii : Nat, ii + k3 = o ∧ i = .int .i64 (ii : Nat) ∧ ln = .int .i64 (1 + (nls (src.take ii) : Nat)) ∧ wx = wd)
                case atStart => exact ⟨0, by omega, rfl, rfl, rfl⟩
                case round =>
                  obtain ⟨ii, hii, rfl, rfl, hwx⟩ := hrel
                  have HWX := Lib.hid hwx
                  have hnl : nls (src.take ii) ≤ 2147483647 := by
                    have h1 : nls (src.take ii) ≤ (src.take ii).length := List.length_filter_le _ _
                    rw [List.length_take] at h1; omega
                  by_cases hlo : ii < o
                  · have HLO := Lib.hid hlo
                    obtain ⟨g, ob, rfl, -, hc⟩ := HH.out.1.2.2 (by omega)
                    have hci := hc ii (by omega)
                    have hbl : Below w.heap.size w wr := by rw [HWX.out]; exact HB3.out.1.trans (HP.out.2.2.trans (HD.out.2.1.mono HP.out.2.2.size) |>.mono HB3.out.1.size)
                    have hcw := (hbl.cell (World.block_lt_of_cell? w _ hci)).trans hci
                    have hst := nls_take (show ii < src.length by omega)
                    have HST := Lib.hid hst
                    obtain ⟨x, hx⟩ : ∃ x, Go.Proofs.YtmfihkgbfoapaaaDoor.gb src ii = x := ⟨_, rfl⟩
                    rw [hx] at hcw
                    have HX := Lib.hid hx
                    clear hc hci hbl hst hx hwx
                    by_cases h10 : x = 10
                    · subst h10
                      go_wp2_with (fail)
                      go_roundg (o - (ii + 1))
                      case measure => have := HLO.out; omega
                      case rel => exact ⟨ii + 1, Nat.add_sub_of_le HLO.out, by go_num, by rw [HST.out, HX.out, if_pos rfl]; go_num, HWX.out⟩
                    · have hb10 : (((x : Nat) : Int) == 10) = false := beq_eq_false_iff_ne.2 (by omega)
                      go_wp2_with (fail)
                      go_roundg (o - (ii + 1))
                      case measure => have := HLO.out; omega
                      case rel => exact ⟨ii + 1, Nat.add_sub_of_le HLO.out, by go_num, by rw [HST.out, HX.out, if_neg h10]; rfl, HWX.out⟩
                  · obtain rfl : ii = o := by omega
                    subst hwx
                    obtain ⟨q0, q1, q2, q3, q4, q5, q6, q7⟩ := tok_loads ((HD.out.2.1.block _ (lt_of_heap HP.out.2.1)).trans HP.out.2.1)
                    have v1 : wr.cell? ⟨gc, 1, none⟩ = some (.int .i64 t6) := (cell_of_heap HD.out.1 1).trans rfl
                    by_cases hm1 : t0 = -1
                    · have hbm : (t0 != (-1 : Int)) = false := bne_eq_false_iff_eq.2 hm1
                      have HM1 := Lib.hid hm1
                      clear hm1
                      go_wp2_with (fail)
                      go_roundg (2 - 2)
                      case measure => omega
                      case rel => exact ⟨2, rfl, by go_num, HD.out.2.1⟩
                    · have hbm : (t0 != (-1 : Int)) = true := bne_iff_ne.2 hm1
                      have hl : t6 = 1 + (nls (src.take ii) : Nat) := (HOK.out.2.2 hm1).2
                      have HM1 := Lib.hid hm1
                      clear hm1
                      subst hl
                      go_wp2_with (fail)
                      go_roundg (2 - 2)
                      case measure => omega
                      case rel => exact ⟨2, rfl, by go_num, HD.out.2.1⟩
              · go_wp2_with (fail)
                go_roundg (ts.length - (j + 1))
                case measure => have := HLT.out; omega
                case rel => exact ⟨j + 1, Nat.add_sub_of_le HLT.out, by go_num, HP.out.2.2.trans (HM2.out.1.mono HP.out.2.2.size)⟩
          · clear hb
            have hp0 := HPOS.out
            go_wp2_with (first
              | (go_at_call 23; refine (works_at w _ (HB3.out.1.trans (HL.out.mono HB3.out.1.size)) HH.out.2.1).mono ?_; rintro e w7 ⟨rfl, hb7⟩; have HB7 := Lib.hid (HL.out.trans (hb7.mono HL.out.size)); clear hb7))
            go_ret
            exact ⟨rfl, HB3.out.1.trans (HB7.out.mono HB3.out.1.size)⟩
  · have HH := Lib.hid hf
    clear hs hv hf
    go_enter Tryd.func8, Tryd.ntmps8
    go_wp2_with (first
      | (go_at_call 20; refine (fits_no _ s HH.out).mono ?_; rintro e w1 ⟨rfl, hb1⟩))
    go_ret
    exact ⟨rfl, (boxed w s).trans (hb1.mono (Nat.le_of_lt (boxed_lt _ _)))⟩
end Go.Proofs.YtmfihkgbfoapaaaDoor
