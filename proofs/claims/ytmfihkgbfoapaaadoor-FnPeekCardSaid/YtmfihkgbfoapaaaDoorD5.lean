/- The token's text. -/
import Derived.Test.YtmfihkgbfoapaaaDoorD4
import Derived.Laws.IdiomStrings
namespace Go.Proofs.YtmfihkgbfoapaaaDoor
open Go Go.RowKit Go.Lib Go.BigFrame

theorem save_part {src : List UInt8} {r : Regs} {so sp se tp te st : Nat} (g : Good src r so sp se) (hb : r.buf.length = 1025) (ht : tp ≤ te) (hte : te ≤ sp) (hst : st ≤ so + tp) :
    (src.drop st).take (so + tp - st) ++ (r.buf.drop tp).take (te - tp) = (src.drop st).take (so + te - st) := by
  have g' : Good src { r with srcPos := (te : Int) } so te se := ⟨g.off, rfl, g.end_, by have := g.spse; omega, g.se4, g.len, g.buf, g.sent, g.rem, g.calls⟩
  exact save_text (r := { r with srcPos := (te : Int) }) g' hb ht hst

/-- The bytes of the buffer, as the conversion to a string reads them. -/
theorem conv_buf {E : Env} {w : World} {r : Regs} (h : Raw E w r) (tp n c : Nat) (hn : tp + n ≤ 1025) :
    (convert 22 9 (.slice (some ⟨E.b, 1 + tp, none⟩) n c)).run Tryd.prog w = .ok (.string ⟨((r.buf.drop tp).take n).toArray⟩) w := by
  have hl : ((r.buf.drop tp).take n).length = n := by have := h.blen; simp only [List.length_take, List.length_drop]; omega
  have := run_convert_bytes_back (P := Tryd.prog) w 22 9 5 ⟨E.b, 1 + tp, none⟩ c ((r.buf.drop tp).take n) Tryd.underlying22 Tryd.underlying5 Tryd.underlying9 (fun j hj => by
    have h2 := h.c_buf (tp + j) (by rw [hl] at hj; omega)
    have e1 : (⟨E.b, 1 + tp, none⟩ : Addr).add j = ⟨E.b, 1 + (tp + j), none⟩ := by cases j <;> simp [Addr.add, Nat.add_assoc]
    rw [e1, h2]
    have hb := h.blen
    rw [gb_get (by rw [hl] at hj; omega)]
    simp only [List.getElem_take, List.getElem_drop])
  rw [hl] at this
  exact this

set_option maxRecDepth 100000 in
set_option maxHeartbeats 1600000 in
theorem tokenText_raw (E : Env) (src : List UInt8) (r : Regs) (w : World) (so sp se tp te st : Nat) (h : Raw E w r) (g : Good src r so sp se) (h1 : r.tokPos = tp) (h2 : r.tokEnd = te) (ht : tp ≤ te) (hte : te ≤ sp) (hst : st ≤ so + tp)
    (htb : r.tb = (src.drop st).take (so + tp - st)) (hlen : Fits src) :
    Calls Tryd.prog 46 #[.pointer (some ⟨E.b, 0, none⟩)] w fun e w' => e = .returned (.string ⟨((src.drop st).take (so + te - st)).toArray⟩) ∧
      (Raw E w' r ∨ Raw E w' { r with tb := (src.drop st).take (so + te - st), tokPos := te }) := by
  have hs := save_part g h.blen ht hte hst
  rw [← htb] at hs
  have hse := g.se4; have hle := g.spse
  have q1 : ((tp : Nat) : Int) ≤ ((te : Nat) : Int) := by omega
  have q2 : ((te : Nat) : Int) ≤ 1025 := by omega
  have c1 := h.c_tokPos
  have c2 := h.c_tokEnd
  rw [h1] at c1; rw [h2] at c2
  have hf := h.frozen
  have hd0 : decide ((tp : Int) < 0) = false := decide_eq_false (by omega)
  have hd1 : decide ((te : Int) < (tp : Int)) = false := decide_eq_false (by omega)
  have HS := Lib.hid hs
  have htbl := Lib.hid htb
  have H := Lib.hid h
  clear h hs g htb
  by_cases h0 : r.tb.length = 0
  · have hz : (((r.tb.length : Nat) : Int) == 0) = true := by rw [h0]; rfl
    have H0 := Lib.hid h0
    clear h0
    go_enter Tryd.func46, Tryd.ntmps46
    go_wp2_with (first
      | (go_at_call 77; refine (len_spec E _ _ (H.out.drewN _)).mono ?_; rintro e w' ⟨rfl, nq2, rfl⟩)
      | (go_quiet (fail)))
    refine wp_region_tail 11 (by kernel_rfl) (by kernel_rfl) ?_
    intro wx e1 e2 e3 e4
    have hx := Raw.like H.out wx e1 e2 e3 e4
    clear c1 c2 hf
    have c1 := hx.c_tokPos
    have c2 := hx.c_tokEnd
    rw [h1] at c1; rw [h2] at c2
    have hf := hx.frozen
    have hcv := conv_buf hx tp (te - tp) (1025 - tp) (by omega)
    have HX := Lib.hid hx
    clear hx
    simp only [List.take_succ_cons, List.take_zero, List.drop_succ_cons, List.drop_zero]
    repeat (go_big_quiet_step (fail))
    refine wpQuiet_nil ?_
    go_wp2_with (fail)
    go_ret
    have hh := HS.out
    rw [List.eq_nil_of_length_eq_zero H0.out, List.nil_append] at hh
    rw [← hh]
    exact ⟨rfl, .inl HX.out⟩
  · have hz : (((r.tb.length : Nat) : Int) == 0) = false := beq_eq_false_iff_ne.2 (by omega)
    clear h0
    go_enter Tryd.func46, Tryd.ntmps46
    go_wp2_with (first
      | (go_at_call 77; refine (len_spec E _ _ (H.out.drewN _)).mono ?_; rintro e w' ⟨rfl, nq2, rfl⟩)
      | (go_not_at_region 7; go_quiet (fail)))
    refine wp_region_call 15 rfl rfl (by kernel_rfl) (by kernel_rfl) ?_
    intro wx e1 e2 e3 e4
    have hx := Raw.like H.out wx e1 e2 e3 e4
    clear c1 c2 hf
    have c1 := hx.c_tokPos
    have c2 := hx.c_tokEnd
    rw [h1] at c1; rw [h2] at c2
    have hf := hx.frozen
    have HX := Lib.hid hx
    clear hx
    simp only [List.take_succ_cons, List.take_zero, List.drop_succ_cons, List.drop_zero]
    repeat (go_big_quiet_step (fail))
    refine wpQuiet_nil ?_
    intro K hK
    go_wp2_with (fail)
    refine (write_spec E r wx tp (te - tp) _ HX.out (by omega) ?_).mono ?_
    · rw [htbl.out]; unfold Fits at hlen; simp only [List.length_take, List.length_drop]; omega
    rintro e w' ⟨rfl, hw⟩
    refine hK _ _ ?_
    clear hK K
    repeat (go_big_quiet_step (fail))
    refine wpQuiet_nil ?_
    rw [HS.out] at hw
    clear c1 c2 hf
    have c1 := hw.c_tokPos
    have c2 := hw.c_tokEnd
    have hf := hw.frozen
    simp only [h1, h2] at c1 c2
    have HW := Lib.hid hw
    clear hw
    go_wp2_with (first
      | (go_at_call 79; refine (string_spec E _ _ (HW.out.set_tokPos _)).mono ?_; rintro e w' ⟨rfl, nq3, rfl⟩))
    go_ret
    exact ⟨rfl, .inr ((HW.out.set_tokPos _).drewN _)⟩

/-- The byte at which the characters l begin; the text from a byte up to there. -/
def offOf (src : List UInt8) (l : List Item) : Nat := src.length - (bytesOf l).length
def txt (src : List UInt8) (st : Nat) (l : List Item) : List UInt8 := (src.drop st).take (offOf src l - st)
theorem offOf_pre {src : List UInt8} {pre l : List Item} (h : items src = pre ++ l) : offOf src l = (bytesOf pre).length := by
  have := items_len h; unfold offOf; omega

theorem tokenText_st (E : Env) (src : List UInt8) (w : World) (l : List Item) (x : Sx) (st : Nat) (h : St E src w l x) (hx : x.tok = some st) (hlen : Fits src) :
    Calls Tryd.prog 46 #[.pointer (some ⟨E.b, 0, none⟩)] w fun e w' => e = .returned (.string ⟨(txt src st l).toArray⟩) ∧ St E src w' l x := by
  obtain ⟨pre, r, hR, hd, hX, hte⟩ := h
  have ht := hX.tok
  simp only [hx, TokIs] at ht
  obtain ⟨⟨so, tp, sp, t1, t2, t3, t4, t5, t6⟩, t7⟩ := ht
  obtain ⟨so', sp', se, g, hA⟩ := hd.at_
  have es : so' = so := by have := g.off; omega
  have ep : sp' = sp := by have := g.pos; omega
  subst es ep
  have hlcl := hd.lcl
  have hle := hd.le
  have hap := bytesOf_append pre (l.take 1)
  have hA2 : (bytesOf pre).length + (bytesOf (l.take 1)).length = so' + sp' := by rw [hA, hap, List.length_append]
  have hoff := offOf_pre hd.split
  obtain ⟨te, hte1⟩ : ∃ te : Nat, r.tokEnd = te := ⟨(r.tokEnd).toNat, by omega⟩
  have hte2 : so' + te = (bytesOf pre).length := by omega
  refine (tokenText_raw E src r w so' sp' se tp te st hR g t2 hte1 (by omega) (by omega) t5 t6 hlen).mono ?_
  rintro e w' ⟨rfl, hw⟩
  refine ⟨by unfold txt; rw [hoff, hte2], ?_⟩
  rcases hw with hw | hw
  · exact ⟨pre, r, hw, hd, hX, hte⟩
  · refine ⟨pre, _, hw, ⟨hd.split, ⟨so', sp', se, ⟨g.off, g.pos, g.end_, g.spse, g.se4, g.len, g.buf, g.sent, g.rem, g.calls⟩, hA⟩, hd.lcl, hd.le, hd.pos⟩, ⟨hX.ec, hX.cnt, hX.ch, hX.mode, hX.white, hX.offs, hX.ln, hX.co, ?_⟩, hte⟩
    simp only [hx, TokIs]
    exact ⟨⟨so', te, sp', t1, rfl, t3, by omega, by omega, rfl⟩, by omega⟩
end Go.Proofs.YtmfihkgbfoapaaaDoor
