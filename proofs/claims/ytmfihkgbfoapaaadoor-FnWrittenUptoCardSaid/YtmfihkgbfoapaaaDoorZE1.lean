/- Own texts E1 of this claim, cut to what the claim uses. -/
import Derived.Test.YtmfihkgbfoapaaaDoorZN0
namespace Go.Proofs.YtmfihkgbfoapaaaDoor
open Go Go.RowKit Go.Lib
theorem Good.like {src : List UInt8} {r r' : Regs} {so sp se : Nat} (g : Good src r so sp se) (e1 : r'.off = r.off) (e2 : r'.srcPos = r.srcPos) (e3 : r'.srcEnd = r.srcEnd) (e4 : r'.buf = r.buf) (e5 : r'.rem = r.rem) (e6 : r'.calls = r.calls) : Good src r' so sp se :=
  ⟨e1.trans g.off, e2.trans g.pos, e3.trans g.end_, g.spse, g.se4, g.len, by rw [e4]; exact g.buf, by rw [e4]; exact g.sent, e5.trans g.rem, by rw [e5, e6]; exact g.calls⟩
theorem Rd.like {src : List UInt8} {pre l : List Item} {r r' : Regs} (h : Rd src pre l r) (e1 : r'.off = r.off) (e2 : r'.srcPos = r.srcPos) (e3 : r'.srcEnd = r.srcEnd) (e4 : r'.buf = r.buf) (e5 : r'.rem = r.rem) (e6 : r'.calls = r.calls)
    (e7 : r'.lcl = r.lcl) (e8 : r'.line = r.line) (e9 : r'.col = r.col) (e10 : r'.lll = r.lll) : Rd src pre l r' := by
  obtain ⟨so, sp, se, g, hA⟩ := h.at_
  refine ⟨h.split, ⟨so, sp, se, g.like e1 e2 e3 e4 e5 e6, hA⟩, e7.trans h.lcl, by rw [e7, e2]; exact h.le, ?_⟩
  have hp := h.pos
  unfold PosAt at hp ⊢
  cases l <;> simp only at hp ⊢ <;> rw [e8, e9, e10] <;> exact hp
theorem Rd0.like {src : List UInt8} {r r' : Regs} (h : Rd0 src r) (e1 : r'.off = r.off) (e2 : r'.srcPos = r.srcPos) (e3 : r'.srcEnd = r.srcEnd) (e4 : r'.buf = r.buf) (e5 : r'.rem = r.rem) (e6 : r'.calls = r.calls)
    (e7 : r'.lcl = r.lcl) (e8 : r'.line = r.line) (e9 : r'.col = r.col) (e10 : r'.lll = r.lll) : Rd0 src r' := by
  obtain ⟨so, sp, se, g, hA⟩ := h.at_
  exact ⟨⟨so, sp, se, g.like e1 e2 e3 e4 e5 e6, hA⟩, e7.trans h.lcl, e8.trans h.line, e9.trans h.col, e10.trans h.lll⟩
theorem TokIs.like {src : List UInt8} {r r' : Regs} {t : Option Nat} (h : TokIs src r t) (e1 : r'.off = r.off) (e2 : r'.srcPos = r.srcPos) (e3 : r'.tokPos = r.tokPos) (e4 : r'.tb = r.tb) (e5 : r'.lcl = r.lcl) : TokIs src r' t := by
  cases t with
  | none => simp only [TokIs] at h ⊢; rw [e3]; exact h
  | some st =>
    simp only [TokIs] at h ⊢
    obtain ⟨⟨so, tp, sp, t1, t2, t3, t4, t5, t6⟩, t7⟩ := h
    exact ⟨⟨so, tp, sp, e1.trans t1, e3.trans t2, e2.trans t3, t4, t5, e4.trans t6⟩, by rw [e3, e5, e2]; exact t7⟩
section
variable {E : Env} {src : List UInt8} {w : World} {l : List Item} {x : Sx}
theorem Sl.set_ch (h : Sl E src w l x) (c : Int) : Sl E src (w.setCell ⟨E.b, 1038, none⟩ (.int .i32 c)) l { x with ch := c } := by
  obtain ⟨pre, r, hR, hd, hX⟩ := h
  exact ⟨pre, _, hR.set_ch c, hd.like rfl rfl rfl rfl rfl rfl rfl rfl rfl rfl, ⟨hX.ec, hX.cnt, rfl, hX.mode, hX.white, hX.offs, hX.ln, hX.co, hX.tok.like rfl rfl rfl rfl rfl⟩⟩
theorem Sl.set_ln (h : Sl E src w l x) (c : Int) : Sl E src (w.setCell ⟨E.b, 1046, none⟩ (.int .i64 c)) l { x with ln := c } := by
  obtain ⟨pre, r, hR, hd, hX⟩ := h
  exact ⟨pre, _, hR.set_ln c, hd.like rfl rfl rfl rfl rfl rfl rfl rfl rfl rfl, ⟨hX.ec, hX.cnt, hX.ch, hX.mode, hX.white, hX.offs, rfl, hX.co, hX.tok.like rfl rfl rfl rfl rfl⟩⟩
theorem Sl.set_offs (h : Sl E src w l x) (c : Int) : Sl E src (w.setCell ⟨E.b, 1045, none⟩ (.int .i64 c)) l { x with offs := c } := by
  obtain ⟨pre, r, hR, hd, hX⟩ := h
  exact ⟨pre, _, hR.set_offs c, hd.like rfl rfl rfl rfl rfl rfl rfl rfl rfl rfl, ⟨hX.ec, hX.cnt, hX.ch, hX.mode, hX.white, rfl, hX.ln, hX.co, hX.tok.like rfl rfl rfl rfl rfl⟩⟩
theorem Sl.set_co (h : Sl E src w l x) (c : Int) : Sl E src (w.setCell ⟨E.b, 1047, none⟩ (.int .i64 c)) l { x with co := c } := by
  obtain ⟨pre, r, hR, hd, hX⟩ := h
  exact ⟨pre, _, hR.set_co c, hd.like rfl rfl rfl rfl rfl rfl rfl rfl rfl rfl, ⟨hX.ec, hX.cnt, hX.ch, hX.mode, hX.white, hX.offs, hX.ln, rfl, hX.tok.like rfl rfl rfl rfl rfl⟩⟩
theorem Sl.set_mode (h : Sl E src w l x) (c : Int) : Sl E src (w.setCell ⟨E.b, 1041, none⟩ (.int .u64 c)) l { x with mode := c } := by
  obtain ⟨pre, r, hR, hd, hX⟩ := h
  exact ⟨pre, _, hR.set_mode c, hd.like rfl rfl rfl rfl rfl rfl rfl rfl rfl rfl, ⟨hX.ec, hX.cnt, hX.ch, rfl, hX.white, hX.offs, hX.ln, hX.co, hX.tok.like rfl rfl rfl rfl rfl⟩⟩
theorem Sl.set_white (h : Sl E src w l x) (c : Int) : Sl E src (w.setCell ⟨E.b, 1042, none⟩ (.int .u64 c)) l { x with white := c } := by
  obtain ⟨pre, r, hR, hd, hX⟩ := h
  exact ⟨pre, _, hR.set_white c, hd.like rfl rfl rfl rfl rfl rfl rfl rfl rfl rfl, ⟨hX.ec, hX.cnt, hX.ch, hX.mode, rfl, hX.offs, hX.ln, hX.co, hX.tok.like rfl rfl rfl rfl rfl⟩⟩
theorem Sl.set_none (h : Sl E src w l x) : Sl E src (w.setCell ⟨E.b, 1036, none⟩ (.int .i64 (-1))) l { x with tok := none } := by
  obtain ⟨pre, r, hR, hd, hX⟩ := h
  exact ⟨pre, _, hR.set_tokPos (-1), hd.like rfl rfl rfl rfl rfl rfl rfl rfl rfl rfl, ⟨hX.ec, hX.cnt, hX.ch, hX.mode, hX.white, hX.offs, hX.ln, hX.co, rfl⟩⟩
theorem St.set_ch (h : St E src w l x) (c : Int) : St E src (w.setCell ⟨E.b, 1038, none⟩ (.int .i32 c)) l { x with ch := c } := by
  obtain ⟨pre, r, hR, hd, hX, he⟩ := h
  exact ⟨pre, _, hR.set_ch c, hd.like rfl rfl rfl rfl rfl rfl rfl rfl rfl rfl, ⟨hX.ec, hX.cnt, rfl, hX.mode, hX.white, hX.offs, hX.ln, hX.co, hX.tok.like rfl rfl rfl rfl rfl⟩, he⟩
theorem Sl.c_ch (h : Sl E src w l x) : w.cell? ⟨E.b, 1038, none⟩ = some (.int .i32 x.ch) := by
  obtain ⟨pre, r, hR, _, hX⟩ := h; rw [hR.c_ch, hX.ch]
theorem Sl.c_tokPos (h : Sl E src w l x) : ∃ t : Int, w.cell? ⟨E.b, 1036, none⟩ = some (.int .i64 t) := by
  obtain ⟨pre, r, hR, _, hX⟩ := h; exact ⟨_, hR.c_tokPos⟩
theorem Sl.c_ln (h : Sl E src w l x) : w.cell? ⟨E.b, 1046, none⟩ = some (.int .i64 x.ln) := by
  obtain ⟨pre, r, hR, _, hX⟩ := h; rw [hR.c_ln, hX.ln]
theorem Sl.c_co (h : Sl E src w l x) : w.cell? ⟨E.b, 1047, none⟩ = some (.int .i64 x.co) := by
  obtain ⟨pre, r, hR, _, hX⟩ := h; rw [hR.c_co, hX.co]
theorem Sl.c_offs (h : Sl E src w l x) : w.cell? ⟨E.b, 1045, none⟩ = some (.int .i64 x.offs) := by
  obtain ⟨pre, r, hR, _, hX⟩ := h; rw [hR.c_offs, hX.offs]
theorem Sl.c_white (h : Sl E src w l x) : w.cell? ⟨E.b, 1042, none⟩ = some (.int .u64 x.white) := by
  obtain ⟨pre, r, hR, _, hX⟩ := h; rw [hR.c_white, hX.white]
theorem Sl.c_file (h : Sl E src w l x) : w.cell? ⟨E.b, 1044, none⟩ = some (.string ⟨#[]⟩) := by
  obtain ⟨pre, r, hR, _, hX⟩ := h; exact hR.c_file
theorem Sl.frozen' (h : Sl E src w l x) : ∀ i, w.frozen? ⟨E.b, i, none⟩ = false := by
  obtain ⟨pre, r, hR, _, hX⟩ := h; exact hR.frozen
theorem Sl0.c_ch (h : Sl0 E src w x) : w.cell? ⟨E.b, 1038, none⟩ = some (.int .i32 x.ch) := by
  obtain ⟨r, hR, _, hX⟩ := h; rw [hR.c_ch, hX.ch]
theorem Sl0.frozen (h : Sl0 E src w x) : ∀ i, w.frozen? ⟨E.b, i, none⟩ = false := by
  obtain ⟨r, hR, _, hX⟩ := h; exact hR.frozen
theorem Sl0.c_ln (h : Sl0 E src w x) : w.cell? ⟨E.b, 1046, none⟩ = some (.int .i64 x.ln) := by
  obtain ⟨r, hR, _, hX⟩ := h; rw [hR.c_ln, hX.ln]
theorem Sl0.set_none (h : Sl0 E src w x) : Sl0 E src (w.setCell ⟨E.b, 1036, none⟩ (.int .i64 (-1))) { x with tok := none } := by
  obtain ⟨r, hR, hd, hX⟩ := h
  exact ⟨_, hR.set_tokPos (-1), hd.like rfl rfl rfl rfl rfl rfl rfl rfl rfl rfl, ⟨hX.ec, hX.cnt, hX.ch, hX.mode, hX.white, hX.offs, hX.ln, hX.co, rfl⟩⟩
theorem Sl0.set_ln (h : Sl0 E src w x) (c : Int) : Sl0 E src (w.setCell ⟨E.b, 1046, none⟩ (.int .i64 c)) { x with ln := c } := by
  obtain ⟨r, hR, hd, hX⟩ := h
  exact ⟨_, hR.set_ln c, hd.like rfl rfl rfl rfl rfl rfl rfl rfl rfl rfl, ⟨hX.ec, hX.cnt, hX.ch, hX.mode, hX.white, hX.offs, rfl, hX.co, hX.tok.like rfl rfl rfl rfl rfl⟩⟩
theorem Sl0.set_mode (h : Sl0 E src w x) (c : Int) : Sl0 E src (w.setCell ⟨E.b, 1041, none⟩ (.int .u64 c)) { x with mode := c } := by
  obtain ⟨r, hR, hd, hX⟩ := h
  exact ⟨_, hR.set_mode c, hd.like rfl rfl rfl rfl rfl rfl rfl rfl rfl rfl, ⟨hX.ec, hX.cnt, hX.ch, rfl, hX.white, hX.offs, hX.ln, hX.co, hX.tok.like rfl rfl rfl rfl rfl⟩⟩
theorem Sl0.set_white (h : Sl0 E src w x) (c : Int) : Sl0 E src (w.setCell ⟨E.b, 1042, none⟩ (.int .u64 c)) { x with white := c } := by
  obtain ⟨r, hR, hd, hX⟩ := h
  exact ⟨_, hR.set_white c, hd.like rfl rfl rfl rfl rfl rfl rfl rfl rfl rfl, ⟨hX.ec, hX.cnt, hX.ch, hX.mode, rfl, hX.offs, hX.ln, hX.co, hX.tok.like rfl rfl rfl rfl rfl⟩⟩
end
theorem next_first (E : Env) (src : List UInt8) (w : World) (x : Sx) (h : Sl0 E src w x) (gl : Glob E) (hlen : Fits src) :
    Calls Tryd.prog 67 #[.pointer (some ⟨E.b, 0, none⟩)] w fun e w' => e = .returned (.int .i32 (chOf (items src))) ∧ Sl E src w' (items src) x := by
  obtain ⟨r, hR, hd, hX⟩ := h
  refine (next_regs E src r w 0 hR gl hd.at_ hX.has (by rw [hd.col]; decide) (by rw [hd.line]; decide) hlen).mono ?_
  rintro e w' ⟨r', hR', hcase⟩
  rcases hcase with ⟨hA, rfl, hn⟩ | ⟨hA, rfl, hn⟩
  · have hs : items src = [] := by rw [List.eq_nil_of_length_eq_zero (Nat.le_zero.1 hA), items_nil]
    rw [hs]
    refine ⟨rfl, [], r', hR', ⟨by rw [hs]; rfl, by simpa [bytesOf_nil] using hn.at_, ?_, ?_, ?_⟩, ?_⟩
    · rw [hn.lcl]; rfl
    · rw [hn.lcl]; obtain ⟨_, _, _, g, _⟩ := hn.at_; rw [g.pos]; omega
    · simp only [PosAt]
      rw [hn.line, hn.col, hn.lll, hd.line, hd.col, hd.lll, hd.lcl]
      exact ⟨rfl, rfl, rfl⟩
    · have := hX.of_eof hn
      simpa [lexErrs] using this
  · rw [items_cons hA] at *
    have hs : items src = [] ++ _ := items_cons hA
    obtain ⟨q1, q2, q3⟩ := items_head hs
    simp only [bytesOf_nil, List.length_nil] at q2
    rw [q2] at hn ⊢
    refine ⟨rfl, [], r', hR', ⟨hs, ?_, ?_, hn.le, ?_⟩, ?_⟩
    · have := hn.at_
      simp only [List.take_succ_cons, List.take_zero, List.nil_append, bytesOf_cons, bytesOf_nil, List.append_nil]
      rw [Nat.zero_add] at this
      exact this
    · rw [hn.lcl]; simp only [List.take_succ_cons, List.take_zero, bytesOf_cons, bytesOf_nil, List.append_nil]; rfl
    · simp only [PosAt]
      rw [hn.line, hn.col, hn.lll, hd.line, hd.col, hd.lll, List.nil_append]
      unfold posOf posStep
      simp only [List.foldl_cons, List.foldl_nil]
      split <;> simp_all
    · have := hX.of_char hn
      simpa [lexErrs] using this
def Ready (E : Env) (src : List UInt8) (w : World) (l : List Item) (x : Sx) : Prop := (Sl E src w l x ∧ x.ch = chOf l) ∨ (Sl0 E src w x ∧ x.ch = -2 ∧ l = startL src)
theorem startL_bom {src : List UInt8} (h : chOf (items src) = 65279) : startL src = (items src).tail := by unfold startL; rw [if_pos h]
theorem startL_no {src : List UInt8} (h : ¬ chOf (items src) = 65279) : startL src = items src := by unfold startL; rw [if_neg h]
set_option maxRecDepth 100000 in
set_option maxHeartbeats 400000 in
theorem peek_sl (E : Env) (src : List UInt8) (w : World) (l : List Item) (x : Sx) (h : Ready E src w l x) (gl : Glob E) (hlen : Fits src) :
    Calls Tryd.prog 56 #[.pointer (some ⟨E.b, 0, none⟩)] w fun e w' => e = .returned (.int .i32 (chOf l)) ∧ Sl E src w' l { x with ch := chOf l } := by
  rcases h with ⟨h, hc⟩ | ⟨h, hc, hl⟩
  · have c1 := h.c_ch
    have hf := h.frozen'
    have hr := h.range
    have hx : ({ x with ch := chOf l } : Sx) = x := by rw [← hc]
    rw [hx]
    rw [hc] at c1
    have hne : (chOf l == -2) = false := beq_eq_false_iff_ne.2 (by omega)
    have H := Lib.hid h
    clear h hx
    go_enter Tryd.func56, Tryd.ntmps56
    go_wp2_with (fail)
    go_ret
    exact ⟨rfl, H.out⟩
  · have c1 := h.c_ch
    have hf := h.frozen
    rw [hc] at c1
    have H := Lib.hid h
    have HL := Lib.hid hl
    clear h hl
    go_enter Tryd.func56, Tryd.ntmps56
    go_wp2_with (first
      | (go_at_call 67; refine (next_first E src _ _ H.out gl hlen).mono ?_; clear c1 hf; rintro e w' ⟨rfl, h'⟩; have H1 := Lib.hid (h'.set_ch (chOf (items src))); have c1 := h'.c_ch; have hf := h'.frozen'; clear h' H; have H := H1; clear H1)
      | (go_at_call 67; refine (next_sl E src _ _ _ H.out gl hlen).mono ?_; clear c1 hf; rintro e w' ⟨rfl, h'⟩; have H1 := Lib.hid (h'.set_ch (chOf (items src).tail)); have c1 := h'.c_ch; have hf := h'.frozen'; clear h' H; have H := H1; clear H1))
    · go_ret
      have hl := HL.out
      rw [startL_bom (eq_of_beq ‹(chOf (items src) == 65279) = true›)] at hl
      subst hl
      exact ⟨rfl, H.out⟩
    · go_ret
      have hl := HL.out
      rw [startL_no (beq_eq_false_iff_ne.1 ‹(chOf (items src) == 65279) = false›)] at hl
      subst hl
      exact ⟨rfl, H.out⟩
theorem Ready.set_none {E : Env} {src : List UInt8} {w : World} {l : List Item} {x : Sx} (h : Ready E src w l x) : Ready E src (w.setCell ⟨E.b, 1036, none⟩ (.int .i64 (-1))) l { x with tok := none } :=
  h.elim (fun ⟨h1, h2⟩ => .inl ⟨h1.set_none, h2⟩) fun ⟨h1, h2⟩ => .inr ⟨h1.set_none, h2⟩
theorem Ready.set_ln {E : Env} {src : List UInt8} {w : World} {l : List Item} {x : Sx} (h : Ready E src w l x) (c : Int) : Ready E src (w.setCell ⟨E.b, 1046, none⟩ (.int .i64 c)) l { x with ln := c } :=
  h.elim (fun ⟨h1, h2⟩ => .inl ⟨h1.set_ln c, h2⟩) fun ⟨h1, h2⟩ => .inr ⟨h1.set_ln c, h2⟩
theorem Ready.set_mode {E : Env} {src : List UInt8} {w : World} {l : List Item} {x : Sx} (h : Ready E src w l x) (c : Int) : Ready E src (w.setCell ⟨E.b, 1041, none⟩ (.int .u64 c)) l { x with mode := c } :=
  h.elim (fun ⟨h1, h2⟩ => .inl ⟨h1.set_mode c, h2⟩) fun ⟨h1, h2⟩ => .inr ⟨h1.set_mode c, h2⟩
theorem Ready.set_white {E : Env} {src : List UInt8} {w : World} {l : List Item} {x : Sx} (h : Ready E src w l x) (c : Int) : Ready E src (w.setCell ⟨E.b, 1042, none⟩ (.int .u64 c)) l { x with white := c } :=
  h.elim (fun ⟨h1, h2⟩ => .inl ⟨h1.set_white c, h2⟩) fun ⟨h1, h2⟩ => .inr ⟨h1.set_white c, h2⟩
theorem Ready.raw {E : Env} {src : List UInt8} {w : World} {l : List Item} {x : Sx} (h : Ready E src w l x) : ∃ r, Raw E w r ∧ r.tokPos = (if x.tok = none then -1 else r.tokPos) ∧ r.ln = x.ln := by
  rcases h with ⟨⟨pre, r, hR, _, hX⟩, _⟩ | ⟨⟨r, hR, _, hX⟩, _⟩
  all_goals
    refine ⟨r, hR, ?_, hX.ln⟩
    split
    · have := hX.tok; rename_i h0; simp only [h0, TokIs] at this; exact this
    · rfl
end Go.Proofs.YtmfihkgbfoapaaaDoor
