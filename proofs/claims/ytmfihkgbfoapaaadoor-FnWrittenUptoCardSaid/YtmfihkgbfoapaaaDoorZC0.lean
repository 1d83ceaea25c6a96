/- Own texts C0 C1 of this claim, cut to what the claim uses. -/
import Derived.Test.YtmfihkgbfoapaaaDoorZB4
import Derived.Test.YtmfihkgbfoapaaaDoorZA1
namespace Go.Proofs.YtmfihkgbfoapaaaDoor
open Go Go.RowKit Go.Lib
structure Good (src : List UInt8) (r : Regs) (so sp se : Nat) : Prop where
  off : r.off = so
  pos : r.srcPos = sp
  end_ : r.srcEnd = se
  spse : sp ≤ se
  se4 : se ≤ 1024
  len : so + se ≤ src.length
  buf : ∀ j, j < se → gb r.buf j = gb src (so + j)
  sent : gb r.buf se = 128
  rem : r.rem = src.drop (so + se)
  calls : 0 ≤ r.calls ∧ r.calls + r.rem.length ≤ 4611686018427387904
def At (src : List UInt8) (r : Regs) (A : Nat) : Prop := ∃ so sp se, Good src r so sp se ∧ so + sp = A
def TokAt (src : List UInt8) (r : Regs) (st : Nat) : Prop :=
  ∃ so tp sp : Nat, r.off = so ∧ r.tokPos = tp ∧ r.srcPos = sp ∧ tp ≤ sp ∧ st ≤ so + tp ∧ r.tb = (src.drop st).take (so + tp - st)
structure Kept (r r' : Regs) : Prop where
  ch : r'.ch = r.ch
  mode : r'.mode = r.mode
  white : r'.white = r.white
  offs : r'.offs = r.offs
  ln : r'.ln = r.ln
  co : r'.co = r.co
  tokneg : r.tokPos < 0 → r'.tokPos = r.tokPos
theorem Kept.refl (r : Regs) : Kept r r := ⟨rfl, rfl, rfl, rfl, rfl, rfl, fun _ => rfl⟩
theorem Kept.trans {a b c : Regs} (h : Kept a b) (k : Kept b c) : Kept a c :=
  ⟨k.ch.trans h.ch, k.mode.trans h.mode, k.white.trans h.white, k.offs.trans h.offs, k.ln.trans h.ln, k.co.trans h.co, fun h0 => (k.tokneg (by rw [h.tokneg h0]; exact h0)).trans (h.tokneg h0)⟩
structure NextEof (src : List UInt8) (A : Nat) (r r' : Regs) : Prop where
  kept : Kept r r'
  at_ : At src r' A
  lcl : r'.lcl = 0
  col : r'.col = if 0 < r.lcl then r.col + 1 else r.col
  line : r'.line = r.line
  lll : r'.lll = r.lll
  ec : r'.ec = r.ec
  cnt : r'.cnt = r.cnt
  tok : ∀ st, TokAt src r st → TokAt src r' st
structure NextChar (src : List UInt8) (A c n : Nat) (r r' : Regs) : Prop where
  kept : Kept r r'
  at_ : At src r' (A + n)
  lcl : r'.lcl = n
  le : r'.lcl ≤ r'.srcPos
  tokle : ∀ st, TokAt src r st → r'.tokPos + r'.lcl ≤ r'.srcPos
  col : r'.col = if c = 10 then 0 else r.col + 1
  line : r'.line = if c = 10 then r.line + 1 else r.line
  lll : r'.lll = if c = 10 then r.col + 1 else r.lll
  ec : r'.ec = if (c = 65533 ∧ n = 1) ∨ c = 0 then wrap64 (r.ec + 1) else r.ec
  cnt : r'.cnt = if (c = 65533 ∧ n = 1) ∨ c = 0 then wrap64 (r.cnt + 1) else r.cnt
  tok : ∀ st, TokAt src r st → TokAt src r' st
def NextPost (E : Env) (src : List UInt8) (A : Nat) (r : Regs) (e : Ending) (w' : World) : Prop :=
  ∃ r', Raw E w' r' ∧ ((src.length ≤ A ∧ e = .returned (.int .i32 (-1)) ∧ NextEof src A r r') ∨
    (A < src.length ∧ e = .returned (.int .i32 ((hd (src.drop A)).1 : Nat)) ∧ NextChar src A (hd (src.drop A)).1 (hd (src.drop A)).2 r r'))
structure Mid (src : List UInt8) (A : Nat) (r r' : Regs) : Prop where
  kept : Kept r r'
  at_ : At src r' A
  lcl : r'.lcl = r.lcl
  col : r'.col = r.col
  line : r'.line = r.line
  lll : r'.lll = r.lll
  ec : r'.ec = r.ec
  cnt : r'.cnt = r.cnt
  tok : ∀ st, TokAt src r st → TokAt src r' st
  has : (r.tokPos < 0 ∨ ∃ st, TokAt src r st) → r'.tokPos < 0 ∨ ∃ st, TokAt src r' st
theorem Mid.refl {src : List UInt8} {A : Nat} {r : Regs} (h : At src r A) : Mid src A r r := ⟨.refl r, h, rfl, rfl, rfl, rfl, rfl, rfl, fun _ h => h, fun h => h⟩
theorem Mid.trans {src : List UInt8} {A : Nat} {a b c : Regs} (h : Mid src A a b) (k : Mid src A b c) : Mid src A a c :=
  ⟨h.kept.trans k.kept, k.at_, k.lcl.trans h.lcl, k.col.trans h.col, k.line.trans h.line, k.lll.trans h.lll, k.ec.trans h.ec, k.cnt.trans h.cnt, fun st h0 => k.tok st (h.tok st h0), fun h0 => k.has (h.has h0)⟩
theorem hd_ascii {l : List UInt8} (h : gb l 0 < 128) : hd l = (gb l 0, 1) := by
  unfold hd decodeN; rw [if_pos h]
theorem Good.prefix {src : List UInt8} {r : Regs} {so sp se : Nat} (h : Good src r so sp se) (hb : r.buf.length = 1025) : (r.buf.drop sp).take (se - sp) = (src.drop (so + sp)).take (se - sp) := by
  apply List.ext_getElem?
  intro j
  have h1 := h.se4
  have h2 := h.len
  by_cases hj : j < se - sp
  · rw [List.getElem?_take_of_lt hj, List.getElem?_take_of_lt hj, List.getElem?_drop, List.getElem?_drop]
    have h3 := h.buf (sp + j) (by omega)
    rw [show so + (sp + j) = so + sp + j by omega] at h3
    have e1 : sp + j < r.buf.length := by omega
    have e2 : so + sp + j < src.length := by omega
    rw [gb_get e1, gb_get e2] at h3
    rw [List.getElem?_eq_getElem e1, List.getElem?_eq_getElem e2, UInt8.toNat.inj h3]
  · rw [List.getElem?_eq_none (by simp only [List.length_take, List.length_drop]; omega), List.getElem?_eq_none (by simp only [List.length_take, List.length_drop]; omega)]
theorem Good.advance {src : List UInt8} {r : Regs} {so sp se n : Nat} (h : Good src r so sp se) (hn : sp + n ≤ se) {r' : Regs} (e1 : r'.off = r.off) (e2 : r'.srcPos = ((sp + n : Nat) : Int)) (e3 : r'.srcEnd = r.srcEnd) (e4 : r'.buf = r.buf)
    (e5 : r'.rem = r.rem) (e6 : r'.calls = r.calls) : At src r' (so + sp + n) :=
  ⟨so, sp + n, se, ⟨e1.trans h.off, e2, e3.trans h.end_, hn, h.se4, h.len, by rw [e4]; exact h.buf, by rw [e4]; exact h.sent, e5.trans h.rem, by rw [e5, e6]; exact h.calls⟩, by omega⟩
theorem TokAt.advance {src : List UInt8} {r r' : Regs} {st : Nat} (h : TokAt src r st) {sp sp' : Nat} (hp : r.srcPos = sp) (hp' : r'.srcPos = sp') (hle : sp ≤ sp') (e1 : r'.off = r.off) (e2 : r'.tokPos = r.tokPos) (e3 : r'.tb = r.tb) : TokAt src r' st := by
  obtain ⟨so, tp, s, h1, h2, h3, h4, h5, h6⟩ := h
  have : s = sp := by rw [hp] at h3; exact (Int.ofNat.inj h3).symm
  exact ⟨so, tp, sp', e1.trans h1, e2.trans h2, hp', by omega, h5, e3.trans h6⟩
theorem post_char {E : Env} {src : List UInt8} {r r0 r' : Regs} {w' : World} {so sp se c n A : Nat} (hA : so + sp = A) (hm : Mid src A r r0) (g : Good src r0 so sp se) (hR : Raw E w' r') (hdn : hd (src.drop A) = (c, n)) (hn : sp + n ≤ se) (hn1 : 1 ≤ n) {e : Ending} (he : e = .returned (.int .i32 (c : Nat)))
    (f1 : r'.off = r0.off) (f2 : r'.srcPos = ((sp + n : Nat) : Int)) (f3 : r'.srcEnd = r0.srcEnd) (f4 : r'.buf = r0.buf) (f5 : r'.rem = r0.rem) (f6 : r'.calls = r0.calls) (f7 : r'.tokPos = r0.tokPos) (f8 : r'.tb = r0.tb)
    (k1 : r'.ch = r0.ch) (k2 : r'.mode = r0.mode) (k3 : r'.white = r0.white) (k4 : r'.offs = r0.offs) (k5 : r'.ln = r0.ln) (k6 : r'.co = r0.co)
    (l1 : r'.lcl = n) (l2 : r'.col = if c = 10 then 0 else r0.col + 1) (l3 : r'.line = if c = 10 then r0.line + 1 else r0.line) (l4 : r'.lll = if c = 10 then r0.col + 1 else r0.lll)
    (l5 : r'.ec = if (c = 65533 ∧ n = 1) ∨ c = 0 then wrap64 (r0.ec + 1) else r0.ec) (l6 : r'.cnt = if (c = 65533 ∧ n = 1) ∨ c = 0 then wrap64 (r0.cnt + 1) else r0.cnt) :
    NextPost E src A r e w' := by
  subst hA
  have hlt : so + sp < src.length := by have := g.len; omega
  refine ⟨r', hR, .inr ⟨hlt, by rw [hdn]; exact he, ?_⟩⟩
  rw [hdn]
  exact ⟨hm.kept.trans ⟨k1, k2, k3, k4, k5, k6, fun _ => f7⟩, g.advance hn f1 f2 f3 f4 f5 f6, l1, by rw [l1, f2]; omega, fun st h => by obtain ⟨_, tp, s', _, t2, t3, t4, _⟩ := hm.tok st h; have := g.pos; rw [f7, t2, l1, f2]; omega, by rw [l2, hm.col], by rw [l3, hm.line], by rw [l4, hm.col, hm.lll], by rw [l5, hm.ec], by rw [l6, hm.cnt],
    fun st h => (hm.tok st h).advance g.pos f2 (by omega) f1 f7 f8⟩
theorem hd_big {l : List UInt8} (h : 128 ≤ gb l 0) : 128 ≤ (hd l).1 := by
  unfold hd decodeN
  rw [if_neg (by omega)]
  repeat' split
  all_goals simp only
  all_goals omega
theorem Good.hd {src : List UInt8} {r : Regs} {so sp se : Nat} (h : Good src r so sp se) (hlt : sp < se) (hc : sp + 4 ≤ se ∨ full ((src.drop (so + sp)).take (se - sp)) = true ∨ so + se = src.length) :
    hd (src.drop (so + sp)) = YtmfihkgbfoapaaaDoor.hd ((src.drop (so + sp)).take (se - sp)) ∧ sp + (YtmfihkgbfoapaaaDoor.hd ((src.drop (so + sp)).take (se - sp))).2 ≤ se := by
  have hl := h.len
  have hpl : ((src.drop (so + sp)).take (se - sp)).length = se - sp := by simp only [List.length_take, List.length_drop]; omega
  have hw := hd_le (l := (src.drop (so + sp)).take (se - sp)) (by omega)
  refine ⟨?_, by omega⟩
  conv => lhs; rw [← List.take_append_drop (se - sp) (src.drop (so + sp))]
  refine hd_prefix (by omega) ?_
  rcases hc with h1 | h1 | h1
  · exact .inl (by omega)
  · exact .inr (.inl h1)
  · refine .inr (.inr (List.eq_nil_of_length_eq_zero ?_))
    simp only [List.length_drop]; omega
end Go.Proofs.YtmfihkgbfoapaaaDoor
namespace Go.Proofs.YtmfihkgbfoapaaaDoor
open Go Go.RowKit Go.Lib
set_option maxRecDepth 100000 in
set_option maxHeartbeats 1000000 in
theorem next_fast (E : Env) (src : List UInt8) (r : Regs) (w : World) (so sp se c : Nat) (h : Raw E w r) (g : Good src r so sp se) (hc : gb r.buf sp = c) (hc1 : c < 128) (h0 : c ≠ 0) (h10 : c ≠ 10)
    (hcol : 0 ≤ r.col ∧ r.col ≤ 4611686018427387904) (hline : 0 ≤ r.line ∧ r.line ≤ 4611686018427387904) :
    Calls Tryd.prog 67 #[.pointer (some ⟨E.b, 0, none⟩)] w (NextPost E src (so + sp) r) := by
  have hse := g.se4; have hle := g.spse
  have c1 := h.c_srcPos; have c2 := h.c_col; have c3 := h.c_lcl
  have c5 := h.c_line; have c6 := h.c_lll
  have c4 := h.c_buf sp (by omega)
  rw [g.pos] at c1
  have hlt : sp < se := by
    rcases Nat.lt_or_eq_of_le hle with h1 | h1
    · exact h1
    · have := g.sent; rw [← h1, hc] at this; omega
  have hdn : hd (src.drop (so + sp)) = (c, 1) := by
    have e0 : gb (src.drop (so + sp)) 0 = c := by rw [gb_drop, Nat.add_zero, ← g.buf sp hlt]; exact hc
    rw [hd_ascii (by omega), e0]
  rw [hc] at c4
  have hf := h.frozen
  obtain ⟨hcol0, hcol1⟩ := hcol
  obtain ⟨hline0, hline1⟩ := hline
  have hcz : ((c : Int) == 0) = false := beq_eq_false_iff_ne.2 (by omega)
  have hct : ((c : Int) == 10) = false := beq_eq_false_iff_ne.2 (by omega)
  have hd1 : decide ((128 : Int) ≤ (c : Int)) = false := decide_eq_false (by omega)
  have H := Lib.hid h; have G := Lib.hid g; have Hc := Lib.hid hc; have HD := Lib.hid hdn
  clear h g hc hdn
  go_enter Tryd.func67, Tryd.ntmps67
  go_wp2_with (go_quiet (fail))
  go_ret
  exact post_char rfl (Mid.refl ⟨so, sp, se, G.out, rfl⟩) G.out ((((H.out.drewN nq).set_srcPos _).set_lcl _).set_col _) HD.out (by omega) (by omega) rfl rfl rfl rfl rfl rfl rfl rfl rfl rfl rfl rfl rfl rfl rfl
    rfl (by rw [if_neg h10]) (by rw [if_neg h10]) (by rw [if_neg h10]) (by rw [if_neg (by omega)]) (by rw [if_neg (by omega)])
set_option maxRecDepth 100000 in
set_option maxHeartbeats 1000000 in
theorem next_fast_nl (E : Env) (src : List UInt8) (r : Regs) (w : World) (so sp se c : Nat) (h : Raw E w r) (g : Good src r so sp se) (hc : gb r.buf sp = c) (hc1 : c < 128) (h10 : c = 10)
    (hcol : 0 ≤ r.col ∧ r.col ≤ 4611686018427387904) (hline : 0 ≤ r.line ∧ r.line ≤ 4611686018427387904) :
    Calls Tryd.prog 67 #[.pointer (some ⟨E.b, 0, none⟩)] w (NextPost E src (so + sp) r) := by
  have hse := g.se4; have hle := g.spse
  have c1 := h.c_srcPos; have c2 := h.c_col; have c3 := h.c_lcl
  have c5 := h.c_line; have c6 := h.c_lll
  have c4 := h.c_buf sp (by omega)
  rw [g.pos] at c1
  have hlt : sp < se := by
    rcases Nat.lt_or_eq_of_le hle with h1 | h1
    · exact h1
    · have := g.sent; rw [← h1, hc] at this; omega
  have hdn : hd (src.drop (so + sp)) = (c, 1) := by
    have e0 : gb (src.drop (so + sp)) 0 = c := by rw [gb_drop, Nat.add_zero, ← g.buf sp hlt]; exact hc
    rw [hd_ascii (by omega), e0]
  rw [hc] at c4
  have hf := h.frozen
  obtain ⟨hcol0, hcol1⟩ := hcol
  obtain ⟨hline0, hline1⟩ := hline
  have hcz : ((c : Int) == 0) = false := beq_eq_false_iff_ne.2 (by omega)
  have hct : ((c : Int) == 10) = true := beq_iff_eq.2 (by omega)
  have hd1 : decide ((128 : Int) ≤ (c : Int)) = false := decide_eq_false (by omega)
  have H := Lib.hid h; have G := Lib.hid g; have Hc := Lib.hid hc; have HD := Lib.hid hdn
  clear h g hc hdn
  have H10 := Lib.hid h10
  clear h10
  go_enter Tryd.func67, Tryd.ntmps67
  go_wp2_with (go_quiet (fail))
  go_ret
  have h10 := H10.out
  exact post_char (r' := { r with srcPos := (sp : Int) + 1, lcl := 1, col := 0, line := r.line + 1, lll := r.col + 1 }) rfl (Mid.refl ⟨so, sp, se, G.out, rfl⟩) G.out (((((((H.out.drewN nq).set_srcPos _).set_lcl _).set_col _).set_line _).set_lll _).set_col _) HD.out (by omega) (by omega) rfl rfl rfl rfl rfl rfl rfl rfl rfl rfl rfl rfl rfl rfl rfl
    rfl (by rw [if_pos h10]) (by rw [if_pos h10]) (by rw [if_pos h10]) (by rw [if_neg (by omega)]) (by rw [if_neg (by omega)])
set_option maxRecDepth 100000 in
set_option maxHeartbeats 1000000 in
theorem next_fast_nul (E : Env) (src : List UInt8) (r : Regs) (w : World) (so sp se c : Nat) (h : Raw E w r) (g : Good src r so sp se) (hc : gb r.buf sp = c) (hc1 : c < 128) (h0 : c = 0)
    (hcol : 0 ≤ r.col ∧ r.col ≤ 4611686018427387904) (hline : 0 ≤ r.line ∧ r.line ≤ 4611686018427387904) :
    Calls Tryd.prog 67 #[.pointer (some ⟨E.b, 0, none⟩)] w (NextPost E src (so + sp) r) := by
  have hse := g.se4; have hle := g.spse
  have c1 := h.c_srcPos; have c2 := h.c_col; have c3 := h.c_lcl
  have c5 := h.c_line; have c6 := h.c_lll
  have c4 := h.c_buf sp (by omega)
  rw [g.pos] at c1
  have hlt : sp < se := by
    rcases Nat.lt_or_eq_of_le hle with h1 | h1
    · exact h1
    · have := g.sent; rw [← h1, hc] at this; omega
  have hdn : hd (src.drop (so + sp)) = (c, 1) := by
    have e0 : gb (src.drop (so + sp)) 0 = c := by rw [gb_drop, Nat.add_zero, ← g.buf sp hlt]; exact hc
    rw [hd_ascii (by omega), e0]
  rw [hc] at c4
  have hf := h.frozen
  obtain ⟨hcol0, hcol1⟩ := hcol
  obtain ⟨hline0, hline1⟩ := hline
  have hcz : ((c : Int) == 0) = true := beq_iff_eq.2 (by omega)
  have hd1 : decide ((128 : Int) ≤ (c : Int)) = false := decide_eq_false (by omega)
  have H := Lib.hid h; have G := Lib.hid g; have Hc := Lib.hid hc; have HD := Lib.hid hdn
  clear h g hc hdn
  have H0 := Lib.hid h0
  clear h0
  go_enter Tryd.func67, Tryd.ntmps67
  go_wp2_with (first
    | (go_quiet (fail))
    | (go_at_call 90; refine (error_spec E _ _ _ ((((H.out.drewN nq).set_srcPos _).set_lcl _).set_col _)).mono ?_; rintro e w' ⟨rfl, h'⟩))
  go_ret
  have h0 := H0.out
  exact post_char rfl (Mid.refl ⟨so, sp, se, G.out, rfl⟩) G.out h' HD.out (by omega) (by omega) rfl rfl rfl rfl rfl rfl rfl rfl rfl rfl rfl rfl rfl rfl rfl
    rfl (by rw [if_neg (by omega)]) (by rw [if_neg (by omega)]) (by rw [if_neg (by omega)]) (by rw [if_pos (by omega)]) (by rw [if_pos (by omega)])
end Go.Proofs.YtmfihkgbfoapaaaDoor
