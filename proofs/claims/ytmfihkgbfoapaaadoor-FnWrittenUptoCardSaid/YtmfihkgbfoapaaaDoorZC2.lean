/- Own texts C2 of this claim, cut to what the claim uses. -/
import Derived.Test.YtmfihkgbfoapaaaDoorZC0
import Derived.Test.YtmfihkgbfoapaaaDoorZM0
import Derived.Deep.DeepCutAuto
import Derived.Deep.CutBlock
import Derived.LaidEql
namespace Go.Proofs.YtmfihkgbfoapaaaDoor
open Go Go.RowKit Go.Lib Go.BigFrame
theorem Fr.old {E : Env} {w w1 : World} (h : Fr E w) (hB : E.B ≤ w.heap.size) (hb : Below w.heap.size w w1) : Fr E w1 :=
  ⟨h.1.trans (hb.mono hB), fun k o h0 h1 h2 h3 h4 => by
    have := h.2 k o h0 h1 h2 h3 h4
    rw [hb.block k (Array.getElem?_eq_some_iff.1 this).1]; exact this⟩
theorem Raw.old {E : Env} {w w1 : World} {r : Regs} (h : Raw E w r) (hb : Below w.heap.size w w1) : Raw E w1 r := by
  have hB : ∀ j, j < E.B → w1.heap[j]? = w.heap[j]? := fun j hj => hb.block j (by have := h.Bsize; omega)
  exact ⟨h.buf.old hb, h.blen, h.rd.of (hb.block _ h.ltR) hB rfl rfl, (hb.block _ h.ltC).trans h.cnt, (hb.block _ h.ltE).trans h.cap, h.BR, h.BC, h.szs.of hB, h.fr.old h.Bsize hb⟩
theorem Raw.like {E : Env} {w : World} {r : Regs} (h : Raw E w r) (w1 : World) (e1 : w1.heap = w.heap) (e2 : w1.tape = w.tape) (e3 : w1.os = w.os) (e4 : w1.output = w.output) : Raw E w1 r :=
  h.old ⟨e3, e2, e4, by rw [e1]; exact Nat.le_refl _, fun k _ => by rw [e1]⟩
structure Glob (E : Env) : Prop where
  utf8 : Utf8Tabs 2 3 E.w0
  eof : ∃ a, E.w0.cell? ⟨0, 0, none⟩ = some (.iface 177 (.pointer (some a)))
  B : 8 ≤ E.B
theorem cell_below {B : Nat} {w w' : World} (h : Below B w w') {a : Addr} (ha : a.block < B) : w'.cell? a = w.cell? a := by
  unfold World.cell?; rw [h.block a.block ha]
theorem Raw.utf8 {E : Env} {w : World} {r : Regs} (h : Raw E w r) (g : Glob E) : Utf8Tabs 2 3 w := by
  have hB := g.B
  refine ⟨fun c hc => ?_, fun i hi => ⟨?_, ?_⟩⟩
  · rw [cell_below h.fr.1 (show 2 < E.B by omega)]; exact g.utf8.1 c hc
  · rw [cell_below h.fr.1 (show 3 < E.B by omega)]; exact (g.utf8.2 i hi).1
  · rw [cell_below h.fr.1 (show 3 < E.B by omega)]; exact (g.utf8.2 i hi).2
theorem Raw.eof {E : Env} {w : World} {r : Regs} (h : Raw E w r) (g : Glob E) : ∃ a, w.cell? ⟨0, 0, none⟩ = some (.iface 177 (.pointer (some a))) := by
  obtain ⟨a, he⟩ := g.eof
  exact ⟨a, by rw [cell_below h.fr.1 (show 0 < E.B by have := g.B; omega)]; exact he⟩
def remLen (E : Env) (w : World) : Nat := match w.cell? ⟨E.bR, 0, none⟩ with | some (.slice _ n _) => n | _ => 0
theorem Raw.remLen {E : Env} {w : World} {r : Regs} (h : Raw E w r) : remLen E w = r.rem.length := by
  obtain ⟨a, c, hb, _⟩ := h.rd
  unfold YtmfihkgbfoapaaaDoor.remLen
  rw [cell_of_heap hb]; rfl
def LInv (E : Env) (src : List UInt8) (A : Nat) (r : Regs) (wr : World) : Prop := ∃ r1, Raw E wr r1 ∧ Mid src A r r1
def LOut (E : Env) (src : List UInt8) (A : Nat) (r : Regs) (wr : World) : Prop := ∃ r1 so sp se, Raw E wr r1 ∧ Mid src A r r1 ∧ Good src r1 so sp se ∧ so + sp = A ∧ sp < se ∧
  (sp + 4 ≤ se ∨ full ((src.drop (so + sp)).take (se - sp)) = true ∨ so + se = src.length)
def LTok (E : Env) (src : List UInt8) (A : Nat) (r : Regs) (so sp se : Nat) (wr : World) : Prop := ∃ r2 rm, Raw E wr r2 ∧ Mid src A r rm ∧ Good src rm so sp se ∧
  ((r2 = rm ∧ rm.tokPos < 0) ∨ ∃ st, TokAt src rm st ∧ r2 = { rm with tb := (src.drop st).take (so + sp - st), tokPos := 0 } ∧ st ≤ so + sp)
theorem save_text {src : List UInt8} {r : Regs} {so sp se tp st : Nat} (g : Good src r so sp se) (hb : r.buf.length = 1025) (ht : tp ≤ sp) (hst : st ≤ so + tp) :
    (src.drop st).take (so + tp - st) ++ (r.buf.drop tp).take (sp - tp) = (src.drop st).take (so + sp - st) := by
  have hl := g.len; have h1 := g.se4; have h2 := g.spse
  apply List.ext_getElem?
  intro j
  have e1 : ((src.drop st).take (so + tp - st)).length = so + tp - st := by simp only [List.length_take, List.length_drop]; omega
  by_cases hj : j < so + tp - st
  · rw [List.getElem?_append_left (by omega), List.getElem?_take_of_lt hj, List.getElem?_take_of_lt (by omega)]
  · rw [List.getElem?_append_right (by omega), e1]
    by_cases hj2 : j < so + sp - st
    · rw [List.getElem?_take_of_lt (by omega), List.getElem?_take_of_lt hj2, List.getElem?_drop, List.getElem?_drop]
      have h3 := g.buf (tp + (j - (so + tp - st))) (by omega)
      rw [show so + (tp + (j - (so + tp - st))) = st + j by omega] at h3
      have b1 : tp + (j - (so + tp - st)) < r.buf.length := by omega
      have b2 : st + j < src.length := by omega
      rw [gb_get b1, gb_get b2] at h3
      rw [List.getElem?_eq_getElem b1, List.getElem?_eq_getElem b2, UInt8.toNat.inj h3]
    · rw [List.getElem?_eq_none (by simp only [List.length_take, List.length_drop]; omega), List.getElem?_eq_none (by simp only [List.length_take, List.length_drop]; omega)]
theorem gb_append_right {p q : List UInt8} {i : Nat} (h : p.length ≤ i) : gb (p ++ q) i = gb q (i - p.length) := by
  simp [gb, List.getD_eq_getElem?_getD, List.getElem?_append_right h]
theorem gb_take {l : List UInt8} {n i : Nat} (h : i < n) : gb (l.take n) i = gb l i := by
  simp [gb, List.getD_eq_getElem?_getD, List.getElem?_take_of_lt h]
theorem gb_set_ne {l : List UInt8} {n i : Nat} {x : UInt8} (h : n ≠ i) : gb (l.set n x) i = gb l i := by
  simp [gb, List.getD_eq_getElem?_getD, List.getElem?_set_ne h]
theorem gb_set_eq {l : List UInt8} {n : Nat} {x : UInt8} (h : n < l.length) : gb (l.set n x) n = x.toNat := by
  simp [gb, List.getD_eq_getElem?_getD, h]
theorem fill_buf {b rem : List UInt8} {sp k n : Nat} (hb : b.length = 1025) (hk : sp + k ≤ 1025) (hn : n ≤ rem.length) (hkn : k + n ≤ 1024) {c : List UInt8}
    (hc : c = ((((b.drop sp).take k ++ b.drop k).take k ++ rem.take n ++ ((b.drop sp).take k ++ b.drop k).drop (k + n)).set (k + n) 128)) :
    (∀ j, j < k → gb c j = gb b (sp + j)) ∧ (∀ j, j < n → gb c (k + j) = gb rem j) ∧ gb c (k + n) = 128 ∧ c.length = 1025 := by
  subst hc
  have l1 : ((b.drop sp).take k).length = k := by simp only [List.length_take, List.length_drop]; omega
  have l2 : ((b.drop sp).take k ++ b.drop k).length = 1025 := by rw [List.length_append, l1, List.length_drop]; omega
  generalize hB : (b.drop sp).take k ++ b.drop k = B7 at *
  have l3 : (B7.take k).length = k := by rw [List.length_take]; omega
  have l4 : (rem.take n).length = n := by rw [List.length_take]; omega
  refine ⟨fun j hj => ?_, fun j hj => ?_, ?_, ?_⟩
  · rw [gb_set_ne (by omega), List.append_assoc, gb_append_left (by omega), gb_take hj, ← hB, gb_append_left (by omega), gb_take hj, gb_drop]
  · rw [gb_set_ne (by omega), gb_append_left (by rw [List.length_append]; omega), gb_append_right (by omega), l3, gb_take (by omega)]; congr 1; omega
  · rw [gb_set_eq (by simp only [List.length_append, l3, l4, List.length_drop]; omega)]; rfl
  · simp only [List.length_set, List.length_append, l3, l4, List.length_drop]; omega
theorem Raw.set_buf {E : Env} {w : World} {r : Regs} (h : Raw E w r) (i : Nat) (hi : i < 1025) (x : UInt8) : Raw E (w.setCell ⟨E.b, 1 + i, none⟩ (.int .u8 x.toNat)) { r with buf := r.buf.set i x } := by
  have hlt : i < r.buf.length := by rw [h.blen]; exact hi
  refine h.set (1 + i) (by omega) (old := .int .u8 (r.buf[i].toNat : Nat)) ?_ _ _ ?_ (by simp [h.blen]) rfl rfl rfl rfl
  · unfold rcell; rw [if_neg (by omega), if_pos (by omega), show 1 + i - 1 = i by omega, List.getElem?_eq_getElem hlt]; rfl
  · funext j
    unfold rcell
    by_cases h0 : j = 0
    · rw [if_neg (by omega), if_pos h0, if_pos h0]
    · rw [if_neg h0, if_neg h0]
      by_cases h1 : j ≤ 1025
      · rw [if_pos h1, if_pos h1]
        by_cases h2 : j = 1 + i
        · subst h2; rw [if_pos rfl, show 1 + i - 1 = i by omega]; simp [hlt]
        · rw [if_neg h2, List.getElem?_set_ne (by omega)]
      · rw [if_neg h1, if_neg h1, if_neg (by omega)]
theorem method_read (a : Addr) (w : World) : (method 295 121 (.pointer (some a)) "Read").run Tryd.prog w = .ok (130, .pointer (some a)) w := by kernel_rfl
theorem neq_nil (a : Addr) (w : World) : (binOp .neq 136 (.iface 177 (.pointer (some a))) .nilIface).run Tryd.prog w = .ok (.bool true) w := by kernel_rfl
theorem neq_nil2 (w : World) : (binOp .neq 136 .nilIface .nilIface).run Tryd.prog w = .ok (.bool false) w := by kernel_rfl
theorem neq_same (a : Addr) (w : World) : (binOp .neq 136 (.iface 177 (.pointer (some a))) (.iface 177 (.pointer (some a)))).run Tryd.prog w = .ok (.bool false) w := by
  have h1 : (Tryd.prog.info? 177).map (·.comparable) = some true := by kernel_rfl
  have h2 : (Tryd.prog.info? 192).isSome = true := by kernel_rfl
  obtain ⟨i, hi, hc⟩ := Option.map_eq_some_iff.1 h1
  obtain ⟨j, hj⟩ := Option.isSome_iff_exists.1 h2
  simp only [binOp]
  simp [Op.equal, Op.maxDepth, run_equalIn_iface_ptr_same w 9998 a Tryd.underlying136 Tryd.underlying177 hi hc hj]
theorem eqGuard_same (a : Addr) (x y : Operand) (w : World) : (eqGuard .neq 136 x y (.iface 177 (.pointer (some a))) (.iface 177 (.pointer (some a)))).run Tryd.prog w = .ok () w := by kernel_rfl
theorem Raw.eof_same {E : Env} {w1 w2 : World} {r1 r2 : Regs} (h1 : Raw E w1 r1) (h2 : Raw E w2 r2) (g : Glob E) {v : Option Value} (he : w1.cell? ⟨0, 0, none⟩ = v) : w2.cell? ⟨0, 0, none⟩ = v := by
  have hB := g.B
  rw [cell_below h2.fr.1 (show 0 < E.B by omega), ← cell_below h1.fr.1 (show 0 < E.B by omega)]; exact he
theorem read_any (E : Env) (r : Regs) (w : World) (i m c : Nat) (h : Raw E w r) (h0 : 0 < r.rem.length) (hi : i + m = 1024) (hm : 1 ≤ m) (hmc : m ≤ c) (hc0 : 0 ≤ r.calls) (hc1 : r.calls + r.rem.length ≤ 4611686018427387904) :
    Calls Tryd.prog 130 #[.pointer (some ⟨E.bR, 0, none⟩), .slice (some ⟨E.b, 1 + i, none⟩) m c] w fun e w' => ∃ (n : Nat) (cl : Int), 1 ≤ n ∧ n ≤ m ∧ n ≤ r.rem.length ∧ (cl = r.calls ∨ cl = r.calls + 1) ∧ e = .returned (.tuple #[.int .i64 n, .nilIface]) ∧ Raw E w' (r.got i n cl) := by
  by_cases hs : E.sz.length = 0
  · refine (read_plain E r w i m c (Nat.min r.rem.length m) h h0 hs hi hmc rfl).mono ?_
    rintro e w' ⟨he, hR⟩
    exact ⟨_, _, Nat.le_min.2 ⟨h0, hm⟩, Nat.min_le_right _ _, Nat.min_le_left _ _, .inl rfl, he, hR⟩
  · refine (read_sized E r w i m c h h0 (by omega) hi hm hmc hc0 hc1).mono ?_
    rintro e w' ⟨n, a1, a2, a3, he, hR⟩
    exact ⟨_, _, a1, a2, a3, .inr rfl, he, hR⟩
theorem copy_self {E : Env} {r : Regs} {W : World} (h : Raw E W r) (sp se cap : Nat) (hsp : sp ≤ se) (hse : se ≤ 1024) :
    ∃ W', (Builtin.copy_ #[22, 22] 3 #[.slice (some ⟨E.b, 1, none⟩) 1025 1025, .slice (some ⟨E.b, 1 + sp, none⟩) (se - sp) cap]).run Tryd.prog W = .ok (.int .i64 ((se - sp : Nat) : Int)) W' ∧
      Raw E W' { r with buf := (r.buf.drop sp).take (se - sp) ++ r.buf.drop (se - sp) } := by
  obtain ⟨cur, hcur⟩ := h.tagb
  have hsz2 : 1035 < cur.size := by
    obtain ⟨hB, v, lr, ⟨cs, hb1, _, _, c2, _⟩, _⟩ := h.buf
    obtain rfl : cs = cur := by rw [hb1] at hcur; injection hcur with e; injection e
    exact (Array.getElem?_eq_some_iff.1 c2).1
  have hbl := h.blen
  have hl : ((r.buf.drop sp).take (se - sp)).length = se - sp := by simp only [List.length_take, List.length_drop]; omega
  have hlen : (byteCells ((r.buf.drop sp).take (se - sp))).length = se - sp := by rw [byteCells_len, hl]
  have hr := run_copy_row (P := Tryd.prog) W 22 22 3 5 E.b 1 1025 1025 ⟨E.b, 1 + sp, none⟩ (se - sp) cap cur 111 (byteCells ((r.buf.drop sp).take (se - sp))) Tryd.underlying22 info5 hcur (by rw [hlen]; exact (Nat.min_eq_left (by omega)).symm) (fun j v hj => by
    have hjn : j < se - sp := by have := (List.getElem?_eq_some_iff.1 hj).1; omega
    rw [add_at, show 1 + sp + j = 1 + (sp + j) by omega, h.c_buf (sp + j) (by omega), ← hj, byteCells_getElem?, List.getElem?_take_of_lt hjn, List.getElem?_drop]
    simp [gb, List.getD_eq_getElem?_getD, show sp + j < r.buf.length by omega]) (by rw [hlen]; omega) (byteCells_cell _)
  have hc := h.copyIn 0 ((r.buf.drop sp).take (se - sp)) (by rw [hl]; omega) cur hcur
  rw [hl, List.take_zero, List.nil_append, Nat.zero_add] at hc
  rw [hlen] at hr
  rw [Nat.add_zero, hlen] at hc
  exact ⟨_, hr, hc⟩
theorem eof_regs {src : List UInt8} {A : Nat} {r r3 r4 : Regs} {so se : Nat} (hm : Mid src A r r3) (g : Good src r3 so 0 se) (hA : so = A)
    (f1 : r4.off = r3.off) (f2 : r4.srcPos = r3.srcPos) (f3 : r4.srcEnd = r3.srcEnd) (f4 : r4.buf = r3.buf) (f5 : r4.rem = r3.rem) (f6 : r4.calls = r3.calls) (f7 : r4.tokPos = r3.tokPos) (f8 : r4.tb = r3.tb)
    (k1 : r4.ch = r3.ch) (k2 : r4.mode = r3.mode) (k3 : r4.white = r3.white) (k4 : r4.offs = r3.offs) (k5 : r4.ln = r3.ln) (k6 : r4.co = r3.co)
    (l1 : r4.lcl = 0) (l2 : r4.col = if 0 < r3.lcl then r3.col + 1 else r3.col) (l3 : r4.line = r3.line) (l4 : r4.lll = r3.lll) (l5 : r4.ec = r3.ec) (l6 : r4.cnt = r3.cnt) : NextEof src A r r4 := by
  subst hA
  have G4 : Good src r4 so 0 se := ⟨f1.trans g.off, f2.trans g.pos, f3.trans g.end_, g.spse, g.se4, g.len, by rw [f4]; exact g.buf, by rw [f4]; exact g.sent, f5.trans g.rem, by rw [f5, f6]; exact g.calls⟩
  exact ⟨hm.kept.trans ⟨k1, k2, k3, k4, k5, k6, fun _ => f7⟩, ⟨_, _, _, G4, by omega⟩, l1, by rw [l2, hm.lcl, hm.col], l3.trans hm.line, l4.trans hm.lll, l5.trans hm.ec, l6.trans hm.cnt,
    fun st h => (hm.tok st h).advance g.pos (by rw [f2]; exact g.pos) (Nat.le_refl _) f1 f7 f8⟩
theorem mid_fill {src : List UInt8} {A : Nat} {r rm r2 r3 : Regs} {so sp se n : Nat} (hm : Mid src A r rm) (g : Good src rm so sp se) (hA : so + sp = A) (hn : n ≤ rm.rem.length) (hn4 : se - sp + n ≤ 1024)
    (h2 : (r2 = rm ∧ rm.tokPos < 0) ∨ ∃ st, TokAt src rm st ∧ r2 = { rm with tb := (src.drop st).take (so + sp - st), tokPos := 0 } ∧ st ≤ so + sp)
    (hb : rm.buf.length = 1025)
    (f1 : r3.off = ((so + sp : Nat) : Int)) (f2 : r3.srcPos = 0) (f3 : r3.srcEnd = ((se - sp + n : Nat) : Int)) (f4 : ∀ j, j < se - sp → gb r3.buf j = gb rm.buf (sp + j)) (f4' : ∀ j, j < n → gb r3.buf (se - sp + j) = gb rm.rem j) (f4'' : gb r3.buf (se - sp + n) = 128)
    (f5 : r3.rem = rm.rem.drop n) (f6 : rm.calls ≤ r3.calls ∧ (r3.calls = rm.calls ∨ (r3.calls = rm.calls + 1 ∧ 1 ≤ n))) (f7 : r3.tokPos = r2.tokPos) (f8 : r3.tb = r2.tb)
    (k1 : r3.ch = rm.ch) (k2 : r3.mode = rm.mode) (k3 : r3.white = rm.white) (k4 : r3.offs = rm.offs) (k5 : r3.ln = rm.ln) (k6 : r3.co = rm.co)
    (l1 : r3.lcl = rm.lcl) (l2 : r3.col = rm.col) (l3 : r3.line = rm.line) (l4 : r3.lll = rm.lll) (l5 : r3.ec = rm.ec) (l6 : r3.cnt = rm.cnt) :
    Mid src A r r3 ∧ Good src r3 (so + sp) 0 (se - sp + n) := by
  have hl := g.len
  have hle := g.spse
  have hrl : rm.rem.length = src.length - (so + se) := by rw [g.rem, List.length_drop]
  have G3 : Good src r3 (so + sp) 0 (se - sp + n) := by
    clear h2 k1 k2 k3 k4 k5 k6 l1 l2 l3 l4 l5 l6 f7 f8
    refine ⟨f1, f2, f3, Nat.zero_le _, hn4, by omega, fun j hj => ?_, f4'', ?_, ?_⟩
    · by_cases h1 : j < se - sp
      · rw [f4 j h1, g.buf (sp + j) (by omega)]; congr 1; omega
      · have := f4' (j - (se - sp)) (by omega)
        rw [show se - sp + (j - (se - sp)) = j by omega] at this
        rw [this, g.rem, gb_drop]; congr 1; omega
    · rw [f5, g.rem, List.drop_drop]; congr 1; omega
    · have hc := g.calls
      have h5 : r3.rem.length = rm.rem.length - n := by rw [f5, List.length_drop]
      rw [h5]
      rcases f6 with ⟨_, h6 | ⟨h6, h7⟩⟩ <;> omega
  refine ⟨hm.trans ⟨⟨k1, k2, k3, k4, k5, k6, fun hneg => ?_⟩, ⟨_, _, _, G3, by omega⟩, l1, l2, l3, l4, l5, l6, fun st ht => ?_, fun _ => ?_⟩, G3⟩
  · rcases h2 with ⟨rfl, _⟩ | ⟨st, ⟨_, tp, _, _, h3, _⟩, _⟩
    · exact f7
    · omega
  · rcases h2 with ⟨rfl, hneg⟩ | ⟨st', ht', rfl, hst⟩
    · obtain ⟨_, tp, _, _, h3, _⟩ := ht; omega
    · have hu : st = st' := by
        obtain ⟨a1, b1, c1, p1, q1, s1, t1, u1, v1⟩ := ht
        obtain ⟨a2, b2, c2, p2, q2, s2, t2, u2, v2⟩ := ht'
        have ea : a1 = a2 := by omega
        have eb : b1 = b2 := by omega
        subst ea eb
        have e1 := congrArg List.length v1
        have e2 := congrArg List.length v2
        have ho := g.off
        have hp := g.pos
        simp only [List.length_take, List.length_drop] at e1 e2
        omega
      subst hu
      exact ⟨so + sp, 0, 0, f1, f7, f2, Nat.le_refl _, hst, by rw [f8]; rfl⟩
  · rcases h2 with ⟨rfl, hneg⟩ | ⟨st', ht', rfl, hst⟩
    · exact .inl (by rw [f7]; exact hneg)
    · exact .inr ⟨st', so + sp, 0, 0, f1, f7, f2, Nat.le_refl _, hst, by rw [f8]; rfl⟩
theorem fullRune_at {E : Env} {src : List UInt8} {r : Regs} {w : World} {so sp se : Nat} (h : Raw E w r) (gl : Glob E) (g : Good src r so sp se) (c : Nat) (v : Bool) (hv : full ((src.drop (so + sp)).take (se - sp)) = v) :
    Calls Tryd.prog 89 #[.slice (some ⟨E.b, 1 + sp, none⟩) (se - sp) c] w (FullPost w v) := by
  subst hv
  have hl := g.len
  have hs := g.se4
  have hle := g.spse
  have hpl : ((src.drop (so + sp)).take (se - sp)).length = se - sp := by simp only [List.length_take, List.length_drop]; omega
  have hq := fullRune_spec ((src.drop (so + sp)).take (se - sp)) E.b (1 + sp) c w (h.utf8 gl) (by omega) (fun j hj => by
    rw [show 1 + sp + j = 1 + (sp + j) by omega, h.c_buf (sp + j) (by omega), g.buf (sp + j) (by omega)]
    simp only [gb, List.getD_eq_getElem?_getD, List.getElem?_take_of_lt (show j < se - sp by omega), List.getElem?_drop, show so + (sp + j) = so + sp + j by omega])
  rw [hpl] at hq
  exact hq
theorem decodeRune_at {E : Env} {src : List UInt8} {r : Regs} {w : World} {so sp se : Nat} (h : Raw E w r) (gl : Glob E) (g : Good src r so sp se) (hlt : sp < se) (c y n : Nat) (hv : hd ((src.drop (so + sp)).take (se - sp)) = (y, n)) :
    Calls Tryd.prog 91 #[.slice (some ⟨E.b, 1 + sp, none⟩) (se - sp) c] w fun e w' => e = .returned (.tuple #[.int .i32 y, .int .i64 n]) ∧ Below w.heap.size w w' := by
  have hl := g.len
  have hs := g.se4
  have hpl : ((src.drop (so + sp)).take (se - sp)).length = se - sp := by simp only [List.length_take, List.length_drop]; omega
  have hq := decodeRune_spec ((src.drop (so + sp)).take (se - sp)) E.b (1 + sp) c w (h.utf8 gl) (by omega) (fun j hj => by
    rw [show 1 + sp + j = 1 + (sp + j) by omega, h.c_buf (sp + j) (by omega), g.buf (sp + j) (by omega)]
    simp only [gb, List.getD_eq_getElem?_getD, List.getElem?_take_of_lt (show j < se - sp by omega), List.getElem?_drop, show so + (sp + j) = so + sp + j by omega])
  rw [hpl, hv] at hq
  exact hq
set_option maxRecDepth 100000 in
set_option maxHeartbeats 8000000 in
theorem next_slow (E : Env) (src : List UInt8) (r : Regs) (w : World) (so sp se c : Nat) (h : Raw E w r) (gl : Glob E) (g : Good src r so sp se) (hc : gb r.buf sp = c) (hc1 : 128 ≤ c) (htk : r.tokPos < 0 ∨ ∃ st, TokAt src r st)
    (hcol : 0 ≤ r.col ∧ r.col ≤ 4611686018427387904) (hline : 0 ≤ r.line ∧ r.line ≤ 4611686018427387904) (hlen : src.length ≤ 70368744177664) :
    Calls Tryd.prog 67 #[.pointer (some ⟨E.b, 0, none⟩)] w (NextPost E src (so + sp) r) := by
  have hse := g.se4; have hle := g.spse
  have c1 := h.c_srcPos
  have c4 := h.c_buf sp (by omega)
  rw [g.pos] at c1
  rw [hc] at c4
  have hc256 : c < 256 := by rw [← hc]; exact gb_lt _ _
  have hd1 : decide ((128 : Int) ≤ (c : Int)) = true := decide_eq_true (by omega)
  have H := Lib.hid h; have G := Lib.hid g; have HL : LInv E src (so + sp) r w := ⟨r, h, Mid.refl ⟨so, sp, se, g, rfl⟩⟩
  have Htk := Lib.hid htk
  clear h g hc htk
  go_enter Tryd.func67, Tryd.ntmps67
  go_upto_block 0 with (go_quiet (fail))
  go_cut [] (fun w' => LOut E src (so + sp) r w')
  case rest =>
    clear H G HL c1 c4 hd1 hc1 hc256 hse hle
    obtain ⟨r1, so1, sp1, se1, h1, hm, g1, hA, hlt1, hpre⟩ := hcut
    have HA := Lib.hid hA; clear hA
    have hse1 := g1.se4; have hle1 := g1.spse
    have q1 : ((sp1 : Nat) : Int) ≤ ((se1 : Nat) : Int) := by omega
    have q2 : ((se1 : Nat) : Int) ≤ 1025 := by omega
    have q4 : IntKind.i64.wrap ((sp1 : Int) + 4) = (sp1 : Int) + 4 := IntWalk.i64_in _ (by omega)
    have c1 := h1.c_srcPos; have c2 := h1.c_srcEnd; have c3 := h1.c_col; have c5 := h1.c_line; have c6 := h1.c_lll; have c7 := h1.c_lcl
    rw [g1.pos] at c1
    rw [g1.end_] at c2
    have hf := h1.frozen
    have hcol1 : 0 ≤ r1.col ∧ r1.col ≤ 4611686018427387904 := by rw [hm.col]; exact hcol
    have hline1 : 0 ≤ r1.line ∧ r1.line ≤ 4611686018427387904 := by rw [hm.line]; exact hline
    clear hcol hline
    obtain ⟨hcol10, hcol11⟩ := hcol1
    obtain ⟨hline10, hline11⟩ := hline1
    have H1 := Lib.hid h1; have G1 := Lib.hid g1; have M1 := Lib.hid hm
    clear h1 g1 hm
    have HP := Lib.hid hpre
    clear hpre
    have c4 := H1.out.c_buf sp1 (by omega)
    obtain ⟨x, hc⟩ : ∃ x, gb r1.buf sp1 = x := ⟨_, rfl⟩
    have hx256 : x < 256 := by rw [← hc]; exact gb_lt _ _
    rw [hc] at c4
    have hlt : sp1 < se1 ∨ 128 ≤ x := by
      rcases Nat.lt_or_eq_of_le G1.out.spse with h1 | h1
      · exact .inl h1
      · have := G1.out.sent; rw [← h1, hc] at this; exact .inr (by omega)
    have hg0 : sp1 < se1 → gb (src.drop (so1 + sp1)) 0 = x := fun h => by rw [gb_drop, Nat.add_zero, ← G1.out.buf sp1 h]; exact hc
    have Hg0 := Lib.hid hg0; have Hlt := Lib.hid hlt
    clear hg0 hc hlt
    by_cases hc128 : x < 128
    · have hlt1 : sp1 < se1 := by have := Hlt.out; omega
      have HD : Hid (hd (src.drop (so1 + sp1)) = (x, 1)) := Lib.hid (by rw [hd_ascii (by rw [Hg0.out hlt1]; omega), Hg0.out hlt1])
      have hd1 : decide ((128 : Int) ≤ (x : Int)) = false := decide_eq_false (by omega)
      by_cases h0 : x = 0
      · have hcz : ((x : Int) == 0) = true := beq_iff_eq.2 (by omega)
        have H0 := Lib.hid h0
        clear h0
        go_wp2_with (go_quiet (fail))
        refine (error_spec E _ _ _ ((((Raw.like H1.out _ (by rfl) (by rfl) (by rfl) (by rfl)).set_srcPos _).set_lcl _).set_col _)).mono ?_
        rintro e w' ⟨rfl, h'⟩
        go_wp2_with (fail)
        go_ret
        have h0 := H0.out
        exact post_char (r' := { r1 with srcPos := (sp1 : Int) + 1, lcl := 1, col := r1.col + 1, tokEnd := wrap64 ((sp1 : Int) + 1 - 1), ec := wrap64 (r1.ec + 1), cnt := wrap64 (r1.cnt + 1) }) (c := x) (n := 1) HA.out M1.out G1.out h' (by rw [← HA.out]; exact HD.out) (by omega) (by omega) rfl rfl rfl rfl rfl rfl rfl rfl rfl rfl rfl rfl rfl rfl rfl
          rfl (by rw [if_neg (by omega)]) (by rw [if_neg (by omega)]) (by rw [if_neg (by omega)]) (by rw [if_pos (by omega)]) (by rw [if_pos (by omega)])
      · have hcz : ((x : Int) == 0) = false := beq_eq_false_iff_ne.2 (by omega)
        by_cases h10 : x = 10
        · have hct : ((x : Int) == 10) = true := beq_iff_eq.2 (by omega)
          have H10 := Lib.hid h10
          clear h10
          go_wp2_with (go_quiet (fail))
          go_ret
          have h10 := H10.out
          exact post_char (r' := { r1 with srcPos := (sp1 : Int) + 1, lcl := 1, col := 0, line := r1.line + 1, lll := r1.col + 1 }) (c := x) (n := 1) HA.out M1.out G1.out (((((((Raw.like H1.out _ (by rfl) (by rfl) (by rfl) (by rfl)).set_srcPos _).set_lcl _).set_col _).set_line _).set_lll _).set_col _) (by rw [← HA.out]; exact HD.out) (by omega) (by omega) rfl rfl rfl rfl rfl rfl rfl rfl rfl rfl rfl rfl rfl rfl rfl
            rfl (by rw [if_pos h10]) (by rw [if_pos h10]) (by rw [if_pos h10]) (by rw [if_neg (by omega)]) (by rw [if_neg (by omega)])
        · have hct : ((x : Int) == 10) = false := beq_eq_false_iff_ne.2 (by omega)
          go_wp2_with (go_quiet (fail))
          go_ret
          exact post_char (r' := { r1 with srcPos := (sp1 : Int) + 1, lcl := 1, col := r1.col + 1 }) (c := x) (n := 1) HA.out M1.out G1.out ((((Raw.like H1.out _ (by rfl) (by rfl) (by rfl) (by rfl)).set_srcPos _).set_lcl _).set_col _) (by rw [← HA.out]; exact HD.out) (by omega) (by omega) rfl rfl rfl rfl rfl rfl rfl rfl rfl rfl rfl rfl rfl rfl rfl
            rfl (by rw [if_neg h10]) (by rw [if_neg h10]) (by rw [if_neg h10]) (by rw [if_neg (by omega)]) (by rw [if_neg (by omega)])
    · have hd1 : decide ((128 : Int) ≤ (x : Int)) = true := decide_eq_true (by omega)
      have hlt1 : sp1 < se1 := hlt1
      obtain ⟨hq1, hq2⟩ := G1.out.hd hlt1 HP.out
      obtain ⟨y, n, hy⟩ : ∃ y n, hd ((src.drop (so1 + sp1)).take (se1 - sp1)) = (y, n) := ⟨_, _, rfl⟩
      have hy128 : 128 ≤ y := by
        have := hd_big (l := src.drop (so1 + sp1)) (by rw [Hg0.out hlt1]; omega)
        rw [hq1, hy] at this; exact this
      have hn1 : 1 ≤ n := by have := hd_pos ((src.drop (so1 + sp1)).take (se1 - sp1)); rw [hy] at this; exact this
      have hn4 : n ≤ 4 := by have := hd_le4 ((src.drop (so1 + sp1)).take (se1 - sp1)); rw [hy] at this; exact this
      have hy1 : y ≤ 1114111 := by have := hd_rune ((src.drop (so1 + sp1)).take (se1 - sp1)); rw [hy] at this; exact this
      rw [hy] at hq1 hq2
      have hns : sp1 + n ≤ se1 := hq2
      have HD := Lib.hid hq1; have Hy := Lib.hid hy
      clear hq1 hy hq2
      go_wp2_with (go_quiet (fail))
      clear c3 c4 c5 c6 c7
      refine wp_region_call 12 rfl rfl (by kernel_rfl) (by kernel_rfl) ?_
      intro wx e1 e2 e3 e4
      have hx := Raw.like H1.out wx e1 e2 e3 e4
      clear e1 e2 e3 e4 c1 c2 hf
      have c1 := hx.c_srcPos; have c2 := hx.c_srcEnd
      rw [G1.out.pos] at c1
      rw [G1.out.end_] at c2
      have HX := Lib.hid hx
      clear hx
      simp only [List.take_succ_cons, List.take_zero, List.drop_succ_cons, List.drop_zero]
      repeat (go_big_quiet_step (fail))
      refine wpQuiet_nil ?_
      intro K hK
      go_wp2_with (fail)
      refine (decodeRune_at HX.out gl G1.out hlt1 _ y n Hy.out).mono ?_
      rintro e w3 ⟨rfl, hb3⟩
      have h3 := HX.out.old hb3
      clear hb3 c1 c2
      refine hK _ _ ?_
      clear hK K
      repeat (go_big_quiet_step (fail))
      refine wpQuiet_nil ?_
      have c1 := h3.c_srcPos; have c2 := h3.c_srcEnd; have c3 := h3.c_col; have c5 := h3.c_line; have c6 := h3.c_lll; have c7 := h3.c_lcl
      rw [G1.out.pos] at c1
      rw [G1.out.end_] at c2
      have hf := h3.frozen
      have H3 := Lib.hid h3
      clear h3
      by_cases hbad : y = 65533 ∧ n = 1
      · have hb1 : ((y : Int) == 65533) = true := beq_iff_eq.2 (by omega)
        have hb2 : ((n : Int) == 1) = true := beq_iff_eq.2 (by omega)
        have HB := Lib.hid hbad
        clear hbad
        go_wp2_with (fail)
        refine (error_spec E _ _ _ ((((Raw.like H3.out _ (by rfl) (by rfl) (by rfl) (by rfl)).set_srcPos _).set_lcl _).set_col _)).mono ?_
        rintro e w' ⟨rfl, h'⟩
        go_wp2_with (fail)
        go_ret
        have hbad := HB.out
        exact post_char (r' := { r1 with srcPos := (sp1 : Int) + (n : Int), lcl := (n : Int), col := r1.col + 1, tokEnd := wrap64 ((sp1 : Int) + (n : Int) - (n : Int)), ec := wrap64 (r1.ec + 1), cnt := wrap64 (r1.cnt + 1) }) (c := y) (n := n) HA.out M1.out G1.out h' (by rw [← HA.out]; exact HD.out) hns hn1 rfl rfl (by show (sp1 : Int) + (n : Int) = _; omega) rfl rfl rfl rfl rfl rfl rfl rfl rfl rfl rfl rfl
          rfl (by rw [if_neg (by omega)]) (by rw [if_neg (by omega)]) (by rw [if_neg (by omega)]) (by rw [if_pos (by omega)]) (by rw [if_pos (by omega)])
      · have hcz : ((y : Int) == 0) = false := beq_eq_false_iff_ne.2 (by omega)
        have hct : ((y : Int) == 10) = false := beq_eq_false_iff_ne.2 (by omega)
        have HB := Lib.hid hbad
        have hb3 : ((y : Int) == 65533) = false ∨ (((y : Int) == 65533) = true ∧ ((n : Int) == 1) = false) := by
          by_cases e : y = 65533
          · exact .inr ⟨beq_iff_eq.2 (by omega), beq_eq_false_iff_ne.2 (by omega)⟩
          · exact .inl (beq_eq_false_iff_ne.2 (by omega))
        clear hbad
        rcases hb3 with hb1 | ⟨hb1, hb2⟩
        all_goals
          go_wp2_with (fail)
          go_ret
          have hbad := HB.out
          exact post_char (r' := { r1 with srcPos := (sp1 : Int) + (n : Int), lcl := (n : Int), col := r1.col + 1 }) (c := y) (n := n) HA.out M1.out G1.out ((((Raw.like H3.out _ (by rfl) (by rfl) (by rfl) (by rfl)).set_srcPos _).set_lcl _).set_col _) (by rw [← HA.out]; exact HD.out) hns hn1 rfl rfl (by show (sp1 : Int) + (n : Int) = _; omega) rfl rfl rfl rfl rfl rfl rfl rfl rfl rfl rfl rfl
            rfl (by rw [if_neg (by omega)]) (by rw [if_neg (by omega)]) (by rw [if_neg (by omega)]) (by rw [if_neg (by omega)]) (by rw [if_neg (by omega)])
  go_wp2_with (fail)
  go_loopw [5] (fun _ wr => LInv E src (so + sp) r (wr)) (fun _ wr => remLen E wr)
  case atStart => exact ⟨r, H.out.drewN nq, Mid.refl ⟨so, sp, se, G.out, rfl⟩⟩
  case round =>
    obtain ⟨r1, h1, hm⟩ := hrel
    obtain ⟨so1, sp1, se1, g1, hA⟩ := hm.at_
    clear H G HL c1 c4 hd1 hc1 hc256 hse hle
    have HA := Lib.hid hA; clear hA
    have hse1 := g1.se4; have hle1 := g1.spse
    have q1 : ((sp1 : Nat) : Int) ≤ ((se1 : Nat) : Int) := by omega
    have q2 : ((se1 : Nat) : Int) ≤ 1025 := by omega
    have q4 : IntKind.i64.wrap ((sp1 : Int) + 4) = (sp1 : Int) + 4 := IntWalk.i64_in _ (by omega)
    have c1 := h1.c_srcPos; have c2 := h1.c_srcEnd; have c3 := h1.c_col; have c5 := h1.c_line; have c6 := h1.c_lll; have c7 := h1.c_lcl
    rw [g1.pos] at c1
    rw [g1.end_] at c2
    have hf := h1.frozen
    have hcol1 : 0 ≤ r1.col ∧ r1.col ≤ 4611686018427387904 := by rw [hm.col]; exact hcol
    have hline1 : 0 ≤ r1.line ∧ r1.line ≤ 4611686018427387904 := by rw [hm.line]; exact hline
    clear hcol hline
    obtain ⟨hcol10, hcol11⟩ := hcol1
    obtain ⟨hline10, hline11⟩ := hline1
    have H1 := Lib.hid h1; have G1 := Lib.hid g1; have M1 := Lib.hid hm
    clear h1 g1 hm
    by_cases h4 : sp1 + 4 ≤ se1
    · have hg4 : decide ((se1 : Int) < (sp1 : Int) + 4) = false := decide_eq_false (by omega)
      go_wp2_with (go_quiet (fail))
      go_meet
      exact ⟨r1, so1, sp1, se1, Raw.like H1.out _ (by rfl) (by rfl) (by rfl) (by rfl), M1.out, G1.out, HA.out, by omega, .inl h4⟩
    · have hg4 : decide ((se1 : Int) < (sp1 : Int) + 4) = true := decide_eq_true (by omega)
      cases hfull : full ((src.drop (so1 + sp1)).take (se1 - sp1)) with
      | true =>
        have hlt1 : sp1 < se1 := by
          have hl := G1.out.len
          have : 0 < ((src.drop (so1 + sp1)).take (se1 - sp1)).length := by
            simp only [full, Bool.and_eq_true, decide_eq_true_eq] at hfull; exact hfull.1
          simp only [List.length_take, List.length_drop] at this; omega
        have HF := Lib.hid hfull
        clear hfull
        go_wp2_with (fail)
        refine wp_region_tail 23 (by kernel_rfl) (by kernel_rfl) ?_
        intro wx e1 e2 e3 e4
        have hx := Raw.like H1.out wx e1 e2 e3 e4
        clear e1 e2 e3 e4 c1 c2 c3 c5 c6 c7 hf
        have c1 := hx.c_srcPos; have c2 := hx.c_srcEnd
        rw [G1.out.pos] at c1
        rw [G1.out.end_] at c2
        have HX := Lib.hid hx
        clear hx
        simp only [List.take_succ_cons, List.take_zero, List.drop_succ_cons, List.drop_zero]
        repeat (go_big_quiet_step (fail))
        refine wpQuiet_nil ?_
        go_wp2_with (fail)
        refine (fullRune_at HX.out gl G1.out _ true HF.out).mono ?_
        intro e w2 hfp
        obtain ⟨rfl, hb2⟩ := hfp
        have h2 := HX.out.old hb2
        clear hb2 c1 c2
        have H2 := Lib.hid h2
        clear h2
        go_wp2_with (fail)
        go_meet
        exact ⟨r1, so1, sp1, se1, Raw.like H2.out _ (by rfl) (by rfl) (by rfl) (by rfl), M1.out, G1.out, HA.out, hlt1, .inr (.inl HF.out)⟩
      | false =>
        have HF := Lib.hid hfull
        clear hfull
        go_wp2_with (fail)
        refine wp_region_tail 23 (by kernel_rfl) (by kernel_rfl) ?_
        intro wx e1 e2 e3 e4
        have hx := Raw.like H1.out wx e1 e2 e3 e4
        clear e1 e2 e3 e4 c1 c2 c3 c5 c6 c7 hf
        have c1 := hx.c_srcPos; have c2 := hx.c_srcEnd
        rw [G1.out.pos] at c1
        rw [G1.out.end_] at c2
        have HX := Lib.hid hx
        clear hx
        simp only [List.take_succ_cons, List.take_zero, List.drop_succ_cons, List.drop_zero]
        repeat (go_big_quiet_step (fail))
        refine wpQuiet_nil ?_
        go_wp2_with (fail)
        refine (fullRune_at HX.out gl G1.out _ false HF.out).mono ?_
        intro e w2 hfp
        obtain ⟨rfl, hb2⟩ := hfp
        have h2 := HX.out.old hb2
        clear hb2 c1 c2
        have H2 := Lib.hid h2
        have c1 := h2.c_srcPos; have c2 := h2.c_srcEnd; have c3 := h2.c_tokPos
        rw [G1.out.pos] at c1
        rw [G1.out.end_] at c2
        clear h2
        go_upto_if 50 with (fail)
        go_cut [] (fun w' => LTok E src (so + sp) r so1 sp1 se1 w')
        case first =>
          by_cases htn : r1.tokPos < 0
          · have hd0 : decide (0 ≤ r1.tokPos) = false := decide_eq_false (by omega)
            go_wp2_with (fail)
            go_meet
            exact ⟨r1, r1, Raw.like H2.out _ (by rfl) (by rfl) (by rfl) (by rfl), M1.out, G1.out, .inl ⟨rfl, htn⟩⟩
          · obtain ⟨st, so', tp, sp', t1, t2, t3, t4, t5, t6⟩ : ∃ st, TokAt src r1 st := (M1.out.has Htk.out).resolve_left htn
            have HT : Hid (TokAt src r1 st) := ⟨so', tp, sp', t1, t2, t3, t4, t5, t6⟩
            have es : so' = so1 := by have := G1.out.off; omega
            have ep : sp' = sp1 := by have := G1.out.pos; omega
            subst es ep
            rw [t2] at c3 ⊢
            have T1 := Lib.hid t1; have T2 := Lib.hid t2; have T3 := Lib.hid t3; have T6 := Lib.hid t6
            clear t1 t2 t3 t6
            have hd0 : decide ((0 : Int) ≤ (tp : Int)) = true := decide_eq_true (by omega)
            have q5 : ((tp : Nat) : Int) ≤ ((sp' : Nat) : Int) := by omega
            have q6 : ((sp' : Nat) : Int) ≤ 1025 := by omega
            go_wp2_with (fail)
            refine wp_region_call 15 rfl rfl (by kernel_rfl) (by kernel_rfl) ?_
            intro wx e1 e2 e3 e4
            have hx := Raw.like H2.out wx e1 e2 e3 e4
            clear e1 e2 e3 e4 c1 c2 c3
            have c1 := hx.c_srcPos; have c3 := hx.c_tokPos
            rw [G1.out.pos] at c1
            rw [T2.out] at c3
            have HX := Lib.hid hx
            clear hx
            simp only [List.take_succ_cons, List.take_zero, List.drop_succ_cons, List.drop_zero]
            repeat (go_big_quiet_step (fail))
            refine wpQuiet_nil ?_
            intro K hK
            go_wp2_with (fail)
            refine (write_spec E r1 _ tp (sp' - tp) _ HX.out (by omega) (by rw [T6.out]; simp only [List.length_take, List.length_drop]; omega)).mono ?_
            rintro e w3 ⟨rfl, h3⟩
            clear c1 c3
            have c3 := h3.c_tokPos
            have hf := h3.frozen
            have H3 := Lib.hid h3
            clear h3
            refine hK _ _ ?_
            clear hK K
            repeat (go_big_quiet_step (fail))
            refine wpQuiet_nil ?_
            go_wp2_with (fail)
            go_meet
            refine ⟨{ r1 with tb := (src.drop st).take (so' + sp' - st), tokPos := 0 }, r1, ?_, M1.out, G1.out, .inr ⟨st, HT.out, rfl, by omega⟩⟩
            have e6 : r1.tb ++ (r1.buf.drop tp).take (sp' - tp) = (src.drop st).take (so' + sp' - st) := by
              rw [T6.out]; exact save_text G1.out HX.out.blen t4 t5
            have := H3.out.set_tokPos 0
            rw [e6] at this
            exact this
        case rest =>
          obtain ⟨r2, rm, h2', hmm, gm, hr2⟩ := hcut
          have hcc : 0 ≤ r2.col ∧ r2.col ≤ 4611686018427387904 := by
            rcases hr2 with ⟨e, _⟩ | ⟨st, _, e, _⟩ <;> (rw [e]; show 0 ≤ rm.col ∧ rm.col ≤ 4611686018427387904; rw [hmm.col, ← M1.out.col]; exact ⟨hcol10, hcol11⟩)
          obtain ⟨hc20, hc21⟩ := hcc
          clear H2 M1 c1 c2 c3
          have hrs : r2.srcPos = ((sp1 : Nat) : Int) ∧ r2.srcEnd = ((se1 : Nat) : Int) ∧ r2.off = ((so1 : Nat) : Int) ∧ r2.buf = rm.buf ∧ r2.rem = rm.rem ∧ r2.calls = rm.calls := by
            rcases hr2 with ⟨rfl, _⟩ | ⟨st, _, rfl, _⟩
            · exact ⟨gm.pos, gm.end_, gm.off, rfl, rfl, rfl⟩
            · exact ⟨gm.pos, gm.end_, gm.off, rfl, rfl, rfl⟩
          have HR := Lib.hid hrs
          have c1 := h2'.c_srcPos; have c2 := h2'.c_srcEnd
          rw [hrs.1] at c1
          rw [hrs.2.1] at c2
          have H2 := Lib.hid h2'; have MM := Lib.hid hmm; have GM := Lib.hid gm; have R2 := Lib.hid hr2
          clear h2' hmm gm hr2 hrs
          go_wp2_with (fail)
          refine wp_region_tail 16 (by kernel_rfl) (by kernel_rfl) ?_
          intro wx e1 e2 e3 e4
          have hx := Raw.like H2.out wx e1 e2 e3 e4
          clear e1 e2 e3 e4 c1 c2
          have c1 := hx.c_srcPos; have c2 := hx.c_srcEnd
          rw [HR.out.1] at c1
          rw [HR.out.2.1] at c2
          obtain ⟨W7, hcp, h7⟩ := copy_self hx sp1 se1 (1025 - sp1) hle1 hse1
          have d1 := h7.c_srcPos; have d2 := h7.c_srcEnd; have d3 := h7.c_off
          have hf := h7.frozen
          rw [HR.out.1] at d1
          rw [HR.out.2.1] at d2
          rw [HR.out.2.2.1] at d3
          have H7 := Lib.hid h7
          clear h7 hx
          simp only [List.take_succ_cons, List.take_zero, List.drop_succ_cons, List.drop_zero]
          repeat (go_big_quiet_step (fail))
          refine wpQuiet_nil ?_
          go_wp2_with (fail)
          obtain ⟨k, hk⟩ : ∃ k, k = se1 - sp1 := ⟨_, rfl⟩
          have q7 : IntKind.i64.wrap ((so1 : Int) + (sp1 : Int)) = (so1 : Int) + (sp1 : Int) := IntWalk.i64_in _ (by have := GM.out.len; omega)
          have q8 : IntKind.i64.wrap ((se1 : Int) - (sp1 : Int)) = (k : Int) := by rw [IntWalk.i64_in _ (by omega)]; omega
          have hk3 : k ≤ 3 := by omega
          have q9 : (k : Int) ≤ 1024 := by omega
          have HK := Lib.hid hk
          clear hk hcp
          refine wp_region_tail 9 (by kernel_rfl) (by kernel_rfl) ?_
          intro wy e1 e2 e3 e4
          have hy := Raw.like H7.out wy e1 e2 e3 e4
          clear e1 e2 e3 e4 c1 c2 d1 d2 d3 hf
          have d1 := hy.c_srcPos; have d2 := hy.c_srcEnd; have d3 := hy.c_off; have d4 := hy.c_src
          have hf := hy.frozen
          rw [HR.out.1] at d1
          rw [HR.out.2.1] at d2
          rw [HR.out.2.2.1] at d3
          have HY := Lib.hid hy
          clear hy
          simp only [List.take_succ_cons, List.take_zero, List.drop_succ_cons, List.drop_zero]
          repeat (go_big_quiet_step (fail))
          refine wpQuiet_nil ?_
          go_wp2_with (go_quiet (fail))
          refine wp_region_call 11 rfl rfl (by kernel_rfl) (by kernel_rfl) ?_
          intro wz e1 e2 e3 e4
          have hz := Raw.like (HY.out.set_off _) wz e1 e2 e3 e4
          clear e1 e2 e3 e4 d1 d2 d3 d4 hf
          have d4 := hz.c_src; have d1 := hz.c_srcPos; have d2 := hz.c_srcEnd; have d5 := hz.c_lcl; have d6 := hz.c_col
          have hf := hz.frozen
          obtain ⟨ea, heof⟩ := hz.eof gl
          have hmr := method_read
          have HZ := Lib.hid hz
          clear hz
          simp only [List.take_succ_cons, List.take_zero, List.drop_succ_cons, List.drop_zero]
          repeat (go_big_quiet_step (fail))
          refine wpQuiet_nil ?_
          intro K hK
          by_cases hrem : rm.rem.length = 0
          · have HM := Lib.hid hrem
            clear hrem
            go_wp2_with (fail)
            refine (read_eof E _ _ _ HZ.out (by show r2.rem.length = 0; rw [HR.out.2.2.2.2.1]; exact HM.out) 177 ea heof).mono ?_
            rintro e w8 ⟨rfl, n8, rfl⟩
            refine hK _ _ ?_
            clear hK K
            repeat (go_big_quiet_step (fail))
            refine wpQuiet_nil ?_
            have hk1 : ((k : Int) == 0) = decide (k = 0) := by
              by_cases e : k = 0
              · subst e; rfl
              · simp [e]
            go_wp2_with (fail)
            refine wp_region_tail 7 (by kernel_rfl) (by kernel_rfl) ?_
            intro wq e1 e2 e3 e4
            have hq := Raw.like (((HZ.out.drewN n8).set_srcPos 0).set_srcEnd (k : Int)) wq e1 e2 e3 e4
            clear e1 e2 e3 e4 d1 d2 d4 d5 d6 hf hmr
            have d2 := hq.c_srcEnd; have d3 := hq.c_buf k (by omega)
            have hf := hq.frozen
            have h14 := hq.set_buf k (by omega) 128
            have heof' := HZ.out.eof_same h14 gl heof
            have HQ := Lib.hid hq; have H14 := Lib.hid h14; have HE := Lib.hid heof'
            clear hq h14 heof heof'
            simp only [List.take_succ_cons, List.take_zero, List.drop_succ_cons, List.drop_zero]
            repeat (go_big_quiet_step (fail))
            refine wpQuiet_nil ?_
            go_upto_region 14 with (fail)
            have h14 : Raw E (wq.setCell ⟨E.b, 1 + k, none⟩ (.int .u8 128)) { r2 with buf := ((r2.buf.drop sp1).take (se1 - sp1) ++ r2.buf.drop (se1 - sp1)).set k 128, off := (so1 : Int) + (sp1 : Int), srcPos := 0, srcEnd := (k : Int) } := H14.out
            have heof : (wq.setCell ⟨E.b, 1 + k, none⟩ (.int .u8 128)).cell? ⟨0, 0, none⟩ = some (.iface 177 (.pointer (some ea))) := HE.out
            clear H14 HE d2 d3 hf HQ
            generalize wq.setCell ⟨E.b, 1 + k, none⟩ (.int .u8 128) = w14 at h14 heof ⊢
            have d2 := h14.c_srcEnd; have d5 := h14.c_lcl; have d6 := h14.c_col
            have hf := h14.frozen
            have H14 := Lib.hid h14
            clear h14
            have n1 := neq_nil; have n2 := neq_same; have n3 := eqGuard_same
            have HF : Hid (Mid src (so + sp) r { r2 with buf := ((r2.buf.drop sp1).take (se1 - sp1) ++ r2.buf.drop (se1 - sp1)).set k 128, off := (so1 : Int) + (sp1 : Int), srcPos := 0, srcEnd := (k : Int) } ∧ Good src { r2 with buf := ((r2.buf.drop sp1).take (se1 - sp1) ++ r2.buf.drop (se1 - sp1)).set k 128, off := (so1 : Int) + (sp1 : Int), srcPos := 0, srcEnd := (k : Int) } (so1 + sp1) 0 (se1 - sp1 + 0)) := by
              refine Lib.hid ?_
              obtain rfl := HK.out
              have hbl := H2.out.blen
              have hrb := HR.out.2.2.2.1
              obtain ⟨b1, b2, b3, b4⟩ := fill_buf (b := rm.buf) (rem := rm.rem) (sp := sp1) (k := se1 - sp1) (n := 0) (c := ((rm.buf.drop sp1).take (se1 - sp1) ++ rm.buf.drop (se1 - sp1)).set (se1 - sp1) 128) (by rw [← hrb]; exact hbl) (by omega) (Nat.zero_le _) (by omega) (by
                simp only [List.take_zero, List.append_nil, Nat.add_zero, List.take_append_drop])
              rw [← hrb] at b1 b3
              refine mid_fill MM.out GM.out HA.out (Nat.zero_le _) (by omega) R2.out (by rw [← hrb]; exact hbl) (by show (so1 : Int) + (sp1 : Int) = _; omega) rfl (by show ((se1 - sp1 : Nat) : Int) = _; omega) (by rw [← hrb]; exact b1) (fun j hj => by omega) b3 (by rw [List.drop_zero]; exact HR.out.2.2.2.2.1) ⟨by rw [← HR.out.2.2.2.2.2]; exact Int.le_refl _, .inl HR.out.2.2.2.2.2⟩ rfl rfl ?_ ?_ ?_ ?_ ?_ ?_ ?_ ?_ ?_ ?_ ?_ ?_
              all_goals (rcases R2.out with ⟨e, _⟩ | ⟨st, _, e, _⟩ <;> rw [e])
            by_cases hk0 : k = 0
            · have hk2 : ((k : Int) == 0) = true := by rw [hk1]; exact decide_eq_true hk0
              have HK0 := Lib.hid hk0
              clear hk1 hk0
              by_cases hl : 0 < r2.lcl
              · go_wp2_with (fail)
                go_ret
                have hml := HF.out.1
                have hfin := (H14.out.set_col (r2.col + 1)).set_lcl 0
                refine ⟨_, hfin, .inl ⟨?_, rfl, ?_⟩⟩
                · have h1 := HK0.out; have h2 := HK.out; have h3 := GM.out.len; have h4 := GM.out.rem; have h5 := HM.out; have h6 := HA.out
                  rw [h4, List.length_drop] at h5; omega
                · exact eof_regs (r4 := { r2 with buf := ((r2.buf.drop sp1).take (se1 - sp1) ++ r2.buf.drop (se1 - sp1)).set k 128, off := (so1 : Int) + (sp1 : Int), srcPos := 0, srcEnd := (k : Int), col := r2.col + 1, lcl := 0 }) hml HF.out.2 HA.out rfl rfl rfl rfl rfl rfl rfl rfl rfl rfl rfl rfl rfl rfl rfl (by show r2.col + 1 = if 0 < r2.lcl then r2.col + 1 else r2.col; rw [if_pos (by omega)]) rfl rfl rfl rfl
              · go_wp2_with (fail)
                go_ret
                have hml := HF.out.1
                have hfin := H14.out.set_lcl 0
                refine ⟨_, hfin, .inl ⟨?_, rfl, ?_⟩⟩
                · have h1 := HK0.out; have h2 := HK.out; have h3 := GM.out.len; have h4 := GM.out.rem; have h5 := HM.out; have h6 := HA.out
                  rw [h4, List.length_drop] at h5; omega
                · exact eof_regs (r4 := { r2 with buf := ((r2.buf.drop sp1).take (se1 - sp1) ++ r2.buf.drop (se1 - sp1)).set k 128, off := (so1 : Int) + (sp1 : Int), srcPos := 0, srcEnd := (k : Int), lcl := 0 }) hml HF.out.2 HA.out rfl rfl rfl rfl rfl rfl rfl rfl rfl rfl rfl rfl rfl rfl rfl (by show r2.col = if 0 < r2.lcl then r2.col + 1 else r2.col; rw [if_neg (by omega)]) rfl rfl rfl rfl
            · have hk2 : ((k : Int) == 0) = false := by rw [hk1]; exact decide_eq_false hk0
              clear hk1
              go_wp2_with (fail)
              go_meet
              refine ⟨_, so1 + sp1, 0, se1 - sp1 + 0, H14.out, HF.out.1, HF.out.2, HA.out, by have := HK.out; omega, .inr (.inr ?_)⟩
              have h3 := GM.out.len; have h4 := GM.out.rem; have h5 := HM.out
              rw [h4, List.length_drop] at h5; omega
          · go_wp2_with (fail)
            refine (read_any E _ _ k (1024 - k) (1025 - k) HZ.out (by show 0 < r2.rem.length; rw [HR.out.2.2.2.2.1]; omega) (by omega) (by omega) (by omega) (by show 0 ≤ r2.calls; rw [HR.out.2.2.2.2.2]; exact GM.out.calls.1) (by show r2.calls + r2.rem.length ≤ _; rw [HR.out.2.2.2.2.2, HR.out.2.2.2.2.1]; exact GM.out.calls.2)).mono ?_
            rintro e w8 ⟨n, cl, hn1, hnm, hnr, hcl, rfl, h8⟩
            clear d1 d2 d4 d5 d6 hf heof hmr
            have d1 := h8.c_srcPos; have d2 := h8.c_srcEnd
            have hf := h8.frozen
            have hnr' : n ≤ rm.rem.length := by have h : n ≤ r2.rem.length := hnr; rw [HR.out.2.2.2.2.1] at h; exact h
            have H8 := Lib.hid h8; have HC := Lib.hid hcl
            clear h8 hcl hnr
            refine hK _ _ ?_
            clear hK K
            repeat (go_big_quiet_step (fail))
            refine wpQuiet_nil ?_
            go_wp2_with (fail)
            refine wp_region_tail 7 (by kernel_rfl) (by kernel_rfl) ?_
            intro wq e1 e2 e3 e4
            have hq := Raw.like ((H8.out.set_srcPos 0).set_srcEnd ((k : Int) + (n : Int))) wq e1 e2 e3 e4
            clear e1 e2 e3 e4 d1 d2 hf
            have d2 := hq.c_srcEnd; have d3 := hq.c_buf (k + n) (by omega)
            have hf := hq.frozen
            have h14 := hq.set_buf (k + n) (by omega) 128
            have HQ := Lib.hid hq; have H14 := Lib.hid h14
            clear hq h14
            simp only [List.take_succ_cons, List.take_zero, List.drop_succ_cons, List.drop_zero]
            repeat (go_big_quiet_step (fail))
            refine wpQuiet_nil ?_
            go_upto_region 14 with (fail)
            have h14 : Raw E (wq.setCell ⟨E.b, 1 + (k + n), none⟩ (.int .u8 128)) { r2 with buf := ((((r2.buf.drop sp1).take (se1 - sp1) ++ r2.buf.drop (se1 - sp1)).take k ++ r2.rem.take n ++ ((r2.buf.drop sp1).take (se1 - sp1) ++ r2.buf.drop (se1 - sp1)).drop (k + n)).set (k + n) 128), off := (so1 : Int) + (sp1 : Int), srcPos := 0, srcEnd := (k : Int) + (n : Int), rem := r2.rem.drop n, calls := cl } := H14.out
            clear H14 d2 d3 hf HQ
            generalize wq.setCell ⟨E.b, 1 + (k + n), none⟩ (.int .u8 128) = w14 at h14 ⊢
            have H14 := Lib.hid h14
            clear h14
            have n1 := neq_nil2
            go_wp2_with (fail)
            go_roundw
            case rel =>
              refine ⟨_, H14.out, ?_⟩
              obtain rfl := HK.out
              have hbl := H2.out.blen
              have hrb := HR.out.2.2.2.1
              have hrr := HR.out.2.2.2.2.1
              have hcc := HR.out.2.2.2.2.2
              obtain ⟨b1, b2, b3, b4⟩ := fill_buf (b := rm.buf) (rem := rm.rem) (sp := sp1) (k := se1 - sp1) (n := n) (by rw [← hrb]; exact hbl) (by omega) hnr' (by omega) rfl
              refine (mid_fill (n := n) (r3 := { r2 with buf := ((((r2.buf.drop sp1).take (se1 - sp1) ++ r2.buf.drop (se1 - sp1)).take (se1 - sp1) ++ r2.rem.take n ++ ((r2.buf.drop sp1).take (se1 - sp1) ++ r2.buf.drop (se1 - sp1)).drop (se1 - sp1 + n)).set (se1 - sp1 + n) 128), off := (so1 : Int) + (sp1 : Int), srcPos := 0, srcEnd := ((se1 - sp1 : Nat) : Int) + (n : Int), rem := r2.rem.drop n, calls := cl }) MM.out GM.out HA.out hnr' (by omega) R2.out (by rw [← hrb]; exact hbl) (by show (so1 : Int) + (sp1 : Int) = _; omega) rfl (by show ((se1 - sp1 : Nat) : Int) + (n : Int) = _; omega) (by rw [hrb, hrr]; exact b1) (by rw [hrb, hrr]; exact b2) (by rw [hrb, hrr]; exact b3) (by show r2.rem.drop n = _; rw [hrr]) ?_ rfl rfl ?_ ?_ ?_ ?_ ?_ ?_ ?_ ?_ ?_ ?_ ?_ ?_).1
              · have hc := HC.out
                have hc' : cl = r2.calls ∨ cl = r2.calls + 1 := hc
                rw [hcc] at hc'
                show rm.calls ≤ cl ∧ (cl = rm.calls ∨ (cl = rm.calls + 1 ∧ 1 ≤ n))
                omega
              all_goals (rcases R2.out with ⟨e, _⟩ | ⟨st, _, e, _⟩ <;> rw [e])
            case measure =>
              rw [H14.out.remLen, H1.out.remLen]
              show (r2.rem.drop n).length < r1.rem.length
              rw [HR.out.2.2.2.2.1, List.length_drop]
              have e1 := GM.out.rem; have e2 := G1.out.rem
              rw [e2, ← e1]; omega
end Go.Proofs.YtmfihkgbfoapaaaDoor
