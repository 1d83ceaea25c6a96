/- The scanner's next, at a character that is one byte. -/
import Derived.Test.YtmfihkgbfoapaaaDoorC0
import Derived.Test.YtmfihkgbfoapaaaDoorA2
namespace Go.Proofs.YtmfihkgbfoapaaaDoor
open Go Go.RowKit Go.Lib

set_option maxRecDepth 100000 in
set_option maxHeartbeats 1000000 in
theorem next_fast (E : Env) (src : List UInt8) (r : Regs) (w : World) (so sp se c : Nat) (h : Raw E w r) (g : Good src r so sp se) (hc : gb r.buf sp = c) (hc1 : c < 128) (h0 : c ≠ 0) (h10 : c ≠ 10)
    (hcol : 0 ≤ r.col ∧ r.col ≤ 4611686018427387904) (hline : 0 ≤ r.line ∧ r.line ≤ 4611686018427387904) :
    Calls Tryd.prog 67 #[.pointer (some ⟨E.b, 0, none⟩)] w (NextPost E src (so + sp) r) := by
  have hse := g.se4; have hle := g.spse
  have c1 := h.c_srcPos; have c2 := h.c_col; have c3 := h.c_lcl
  have c5 := h.c_line; have c6 := h.c_lll
  have c4 := h.c_buf sp (by omega)
  rw [g.pos] at c1
  have hlt : sp < se := by
    rcases Nat.lt_or_eq_of_le hle with h1 | h1
    · exact h1
    · have := g.sent; rw [← h1, hc] at this; omega
  have hdn : hd (src.drop (so + sp)) = (c, 1) := by
    have e0 : gb (src.drop (so + sp)) 0 = c := by rw [gb_drop, Nat.add_zero, ← g.buf sp hlt]; exact hc
    rw [hd_ascii (by omega), e0]
  rw [hc] at c4
  have hf := h.frozen
  obtain ⟨hcol0, hcol1⟩ := hcol
  obtain ⟨hline0, hline1⟩ := hline
  have hcz : ((c : Int) == 0) = false := beq_eq_false_iff_ne.2 (by omega)
  have hct : ((c : Int) == 10) = false := beq_eq_false_iff_ne.2 (by omega)
  have hd1 : decide ((128 : Int) ≤ (c : Int)) = false := decide_eq_false (by omega)
  have H := Lib.hid h; have G := Lib.hid g; have Hc := Lib.hid hc; have HD := Lib.hid hdn
  clear h g hc hdn
  go_enter Tryd.func67, Tryd.ntmps67
  go_wp2_with (go_quiet (fail))
  go_ret
  exact post_char rfl (Mid.refl ⟨so, sp, se, G.out, rfl⟩) G.out ((((H.out.drewN nq).set_srcPos _).set_lcl _).set_col _) HD.out (by omega) (by omega) rfl rfl rfl rfl rfl rfl rfl rfl rfl rfl rfl rfl rfl rfl rfl
    rfl (by rw [if_neg h10]) (by rw [if_neg h10]) (by rw [if_neg h10]) (by rw [if_neg (by omega)]) (by rw [if_neg (by omega)])

set_option maxRecDepth 100000 in
set_option maxHeartbeats 1000000 in
theorem next_fast_nl (E : Env) (src : List UInt8) (r : Regs) (w : World) (so sp se c : Nat) (h : Raw E w r) (g : Good src r so sp se) (hc : gb r.buf sp = c) (hc1 : c < 128) (h10 : c = 10)
    (hcol : 0 ≤ r.col ∧ r.col ≤ 4611686018427387904) (hline : 0 ≤ r.line ∧ r.line ≤ 4611686018427387904) :
    Calls Tryd.prog 67 #[.pointer (some ⟨E.b, 0, none⟩)] w (NextPost E src (so + sp) r) := by
  have hse := g.se4; have hle := g.spse
  have c1 := h.c_srcPos; have c2 := h.c_col; have c3 := h.c_lcl
  have c5 := h.c_line; have c6 := h.c_lll
  have c4 := h.c_buf sp (by omega)
  rw [g.pos] at c1
  have hlt : sp < se := by
    rcases Nat.lt_or_eq_of_le hle with h1 | h1
    · exact h1
    · have := g.sent; rw [← h1, hc] at this; omega
  have hdn : hd (src.drop (so + sp)) = (c, 1) := by
    have e0 : gb (src.drop (so + sp)) 0 = c := by rw [gb_drop, Nat.add_zero, ← g.buf sp hlt]; exact hc
    rw [hd_ascii (by omega), e0]
  rw [hc] at c4
  have hf := h.frozen
  obtain ⟨hcol0, hcol1⟩ := hcol
  obtain ⟨hline0, hline1⟩ := hline
  have hcz : ((c : Int) == 0) = false := beq_eq_false_iff_ne.2 (by omega)
  have hct : ((c : Int) == 10) = true := beq_iff_eq.2 (by omega)
  have hd1 : decide ((128 : Int) ≤ (c : Int)) = false := decide_eq_false (by omega)
  have H := Lib.hid h; have G := Lib.hid g; have Hc := Lib.hid hc; have HD := Lib.hid hdn
  clear h g hc hdn
  have H10 := Lib.hid h10
  clear h10
  go_enter Tryd.func67, Tryd.ntmps67
  go_wp2_with (go_quiet (fail))
  go_ret
  have h10 := H10.out
  exact post_char (r' := { r with srcPos := (sp : Int) + 1, lcl := 1, col := 0, line := r.line + 1, lll := r.col + 1 }) rfl (Mid.refl ⟨so, sp, se, G.out, rfl⟩) G.out (((((((H.out.drewN nq).set_srcPos _).set_lcl _).set_col _).set_line _).set_lll _).set_col _) HD.out (by omega) (by omega) rfl rfl rfl rfl rfl rfl rfl rfl rfl rfl rfl rfl rfl rfl rfl
    rfl (by rw [if_pos h10]) (by rw [if_pos h10]) (by rw [if_pos h10]) (by rw [if_neg (by omega)]) (by rw [if_neg (by omega)])

set_option maxRecDepth 100000 in
set_option maxHeartbeats 1000000 in
theorem next_fast_nul (E : Env) (src : List UInt8) (r : Regs) (w : World) (so sp se c : Nat) (h : Raw E w r) (g : Good src r so sp se) (hc : gb r.buf sp = c) (hc1 : c < 128) (h0 : c = 0)
    (hcol : 0 ≤ r.col ∧ r.col ≤ 4611686018427387904) (hline : 0 ≤ r.line ∧ r.line ≤ 4611686018427387904) :
    Calls Tryd.prog 67 #[.pointer (some ⟨E.b, 0, none⟩)] w (NextPost E src (so + sp) r) := by
  have hse := g.se4; have hle := g.spse
  have c1 := h.c_srcPos; have c2 := h.c_col; have c3 := h.c_lcl
  have c5 := h.c_line; have c6 := h.c_lll
  have c4 := h.c_buf sp (by omega)
  rw [g.pos] at c1
  have hlt : sp < se := by
    rcases Nat.lt_or_eq_of_le hle with h1 | h1
    · exact h1
    · have := g.sent; rw [← h1, hc] at this; omega
  have hdn : hd (src.drop (so + sp)) = (c, 1) := by
    have e0 : gb (src.drop (so + sp)) 0 = c := by rw [gb_drop, Nat.add_zero, ← g.buf sp hlt]; exact hc
    rw [hd_ascii (by omega), e0]
  rw [hc] at c4
  have hf := h.frozen
  obtain ⟨hcol0, hcol1⟩ := hcol
  obtain ⟨hline0, hline1⟩ := hline
  have hcz : ((c : Int) == 0) = true := beq_iff_eq.2 (by omega)
  have hd1 : decide ((128 : Int) ≤ (c : Int)) = false := decide_eq_false (by omega)
  have H := Lib.hid h; have G := Lib.hid g; have Hc := Lib.hid hc; have HD := Lib.hid hdn
  clear h g hc hdn
  have H0 := Lib.hid h0
  clear h0
  go_enter Tryd.func67, Tryd.ntmps67
  go_wp2_with (first
    | (go_quiet (fail))
    | (go_at_call 90; refine (error_spec E _ _ _ ((((H.out.drewN nq).set_srcPos _).set_lcl _).set_col _)).mono ?_; rintro e w' ⟨rfl, h'⟩))
  go_ret
  have h0 := H0.out
  exact post_char rfl (Mid.refl ⟨so, sp, se, G.out, rfl⟩) G.out h' HD.out (by omega) (by omega) rfl rfl rfl rfl rfl rfl rfl rfl rfl rfl rfl rfl rfl rfl rfl
    rfl (by rw [if_neg (by omega)]) (by rw [if_neg (by omega)]) (by rw [if_neg (by omega)]) (by rw [if_pos (by omega)]) (by rw [if_pos (by omega)])

end Go.Proofs.YtmfihkgbfoapaaaDoor
