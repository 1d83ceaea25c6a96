/- Own texts X1 X3 X6 X7 X8 X2 X4 X5 X9 X10 X11 X12 X13 X14 of this claim, cut to what the claim uses. -/
import Derived.Test.YtmfihkgbfoapaaaDoorZX0
import Derived.Test.YtmfihkgbfoapaaaDoorZS2
import Derived.Test.YtmfihkgbfoapaaaDoorZU2
import Derived.Test.YtmfihkgbfoapaaaDoorZM1
namespace Go.Proofs.YtmfihkgbfoapaaaDoor
set_option linter.unusedVariables false
set_option linter.unusedSimpArgs false
open Go Go.RowKit Go.Lib Go.BigFrame Go.Proofs.YtmfihkgbfoapaaaDoorW.PrintWords
set_option maxRecDepth 100000 in
theorem isLet_spec (w : World) (c : Int) (hc : -1 ≤ c ∧ c ≤ 1114111) (U : Uni w.heap.size w) : Calls Tryd.prog 85 #[.int .i32 c] w fun e w' => e = .returned (.bool (isLet c)) ∧ Below w.heap.size w w' := by
  have u1 := Lib.hid (U.props w (Below.refl _ _))
  have u2 := Lib.hid (U.letter w (Below.refl _ _))
  clear U
  obtain ⟨b1, h1⟩ : ∃ b, (c == 95) = b := ⟨_, rfl⟩
  obtain ⟨b2, h2⟩ : ∃ b, isLetterU c = b := ⟨_, rfl⟩
  obtain ⟨b3, h3⟩ : ∃ b, decide (0 < c) = b := ⟨_, rfl⟩
  unfold isLet
  rw [h1, h2, h3]
  have H2 := Lib.hid h2
  clear h2
  go_enter Tryd.func85, Tryd.ntmps85
  cases b1 <;> cases b3 <;> cases b2 <;>
  · go_wp2_with (go_at_call 92; refine (Tryd.unicode_IsLetter_all c w (by omega) (by omega) u1.out u2.out).mono ?_; rw [H2.out]; rintro e w1 ⟨rfl, hb1⟩)
    go_ret
    first
      | exact ⟨rfl, Below.refl _ _⟩
      | exact ⟨rfl, hb1⟩
structure Mv (q : Nat) (w w1 : World) : Prop where
  os : w1.os = w.os
  tape : w1.tape = w.tape
  output : w1.output = w.output
  size : w.heap.size ≤ w1.heap.size
  block : ∀ k, k < w.heap.size → k ≠ q → w1.heap[k]? = w.heap[k]?
theorem Mv.refl (q : Nat) (w : World) : Mv q w w := ⟨rfl, rfl, rfl, Nat.le_refl _, fun _ _ _ => rfl⟩
theorem Mv.trans {q : Nat} {w w1 w2 : World} (h : Mv q w w1) (h2 : Mv q w1 w2) : Mv q w w2 :=
  ⟨h2.os.trans h.os, h2.tape.trans h.tape, h2.output.trans h.output, Nat.le_trans h.size h2.size, fun k hk hq => (h2.block k (Nat.lt_of_lt_of_le hk h.size) hq).trans (h.block k hk hq)⟩
theorem Mv.of {q : Nat} {w w1 : World} (h : Below w.heap.size w w1) : Mv q w w1 := ⟨h.os, h.tape, h.output, h.size, fun k hk _ => h.block k hk⟩
theorem Mv.below {q n : Nat} {w w1 : World} (h : Mv q w w1) (hn : n ≤ q) (hw : n ≤ w.heap.size) : Below n w w1 := ⟨h.os, h.tape, h.output, h.size, fun k hk => h.block k (by omega) (by omega)⟩
theorem Mv.set (q i : Nat) (w : World) (v : Value) : Mv q w (w.setCell ⟨q, i, none⟩ v) :=
  ⟨rfl, rfl, rfl, by rw [World.size_setCell]; exact Nat.le_refl _, fun k _ hk => Below.heap_setCell _ _ _ _ (by exact hk)⟩
end Go.Proofs.YtmfihkgbfoapaaaDoor
namespace Go.Proofs.YtmfihkgbfoapaaaDoor
set_option linter.unusedVariables false
set_option linter.unusedSimpArgs false
open Go Go.RowKit Go.Lib Go.BigFrame Go.Proofs.YtmfihkgbfoapaaaDoorW.PrintWords
structure SpE where
  w0 : World
  q : Nat
  g : Nat
  o : Nat
  c : Nat
  src : List UInt8
  s : Stp
def SpE.n (e : SpE) : Nat := (items e.src).length
structure SpOk (e : SpE) : Prop where
  row : Kd.C K.k90 e.w0 (some ⟨e.g, e.o, none⟩) (charsOf e.src (items e.src)).length (charsOf e.src (items e.src))
  cap : e.n + 1 ≤ e.c
  q : e.w0.heap.size ≤ e.q
  small : e.src.length ≤ 10000000000
  vars : Vars e.w0.heap.size e.w0
def spCells (e : SpE) (mode white : Int) (at_ : Nat) : Array Value :=
  #[.slice (some ⟨e.g, e.o, none⟩) (e.n + 1) e.c, .int .i64 (at_ : Nat), .int .i64 mode, .int .u64 white, .bool e.s.d, .int .i64 e.s.m, .int .u64 e.s.wh, .bool e.s.cu, .string e.s.f1, .string e.s.f2]
structure Sp (e : SpE) (w : World) (mode white : Int) (l : List Item) : Prop where
  blk : w.heap[e.q]? = some (.cells (spCells e mode white (e.n - l.length)) 88 (0, 0))
  base : Below e.w0.heap.size e.w0 w
  suf : l <:+ items e.src
theorem Sp.old {e : SpE} {w w1 : World} {mode white : Int} {l : List Item} (h : Sp e w mode white l) (hb : Below w.heap.size w w1) : Sp e w1 mode white l :=
  ⟨(hb.block e.q (lt_of_heap h.blk)).trans h.blk, h.base.trans (hb.mono h.base.size), h.suf⟩
theorem Sp.len {e : SpE} {w : World} {mode white : Int} {l : List Item} (h : Sp e w mode white l) : l.length ≤ e.n := h.suf.length_le
theorem Sp.next {e : SpE} (ok : SpOk e) {w : World} {mode white : Int} {l : List Item} (h : Sp e w mode white l) (k : Nat) (hk : k ≤ l.length) {z : Int} (hz : z = ((e.n - l.length : Nat) : Int) + k) :
    Sp e (w.setCell ⟨e.q, 1, none⟩ (.int .i64 z)) mode white (l.drop k) ∧ Mv e.q w (w.setCell ⟨e.q, 1, none⟩ (.int .i64 z)) := by
  subst hz
  have hl := h.len
  have hm : Mv e.q w (w.setCell ⟨e.q, 1, none⟩ (.int .i64 (((e.n - l.length : Nat) : Int) + k))) := Mv.set _ _ _ _
  refine ⟨⟨?_, ?_, (List.drop_suffix k l).trans h.suf⟩, hm⟩
  · have := Go.Lib.heap_setCell_same (i := 1) h.blk (.int .i64 (((e.n - l.length : Nat) : Int) + k))
    rw [this]
    have e1 : ((e.n - (l.drop k).length : Nat) : Int) = ((e.n - l.length : Nat) : Int) + k := by rw [List.length_drop]; omega
    unfold spCells
    rw [e1]
    rfl
  · exact h.base.setCell (by exact ok.q) _
theorem Sp.cells {e : SpE} {w : World} {mode white : Int} {l : List Item} (h : Sp e w mode white l) :
    w.cell? ⟨e.q, 0, none⟩ = some (.slice (some ⟨e.g, e.o, none⟩) (e.n + 1) e.c) ∧ w.cell? ⟨e.q, 1, none⟩ = some (.int .i64 ((e.n - l.length : Nat) : Int)) ∧ w.cell? ⟨e.q, 2, none⟩ = some (.int .i64 mode) ∧
    w.cell? ⟨e.q, 3, none⟩ = some (.int .u64 white) ∧ w.frozen? ⟨e.q, 0, none⟩ = false :=
  ⟨(cell_of_heap h.blk 0).trans rfl, (cell_of_heap h.blk 1).trans rfl, (cell_of_heap h.blk 2).trans rfl, (cell_of_heap h.blk 3).trans rfl, frozen_of_heap h.blk 0⟩
def sBit (mode b : Int) : Bool := bits .and .i64 mode b != 0
theorem white_bit {W c : Int} (hw : 0 ≤ W ∧ W ≤ 8589934590) (hc : 0 ≤ c ∧ c ≤ 32) : (bits .and .u64 (W / 2 ^ c.toNat) 1 == 1) = isWh W c := by
  obtain ⟨n, rfl⟩ : ∃ n : Nat, W = n := ⟨W.toNat, by omega⟩
  obtain ⟨k, rfl⟩ : ∃ k : Nat, c = k := ⟨c.toNat, by omega⟩
  unfold isWh
  rw [decide_eq_true hc.1, Bool.true_and, Int.toNat_natCast, Int.toNat_natCast]
  have e1 : ((n : Int) / 2 ^ k) = ((n / 2 ^ k : Nat) : Int) := by simp
  have hl : n / 2 ^ k ≤ n := Nat.div_le_self _ _
  have h2 := (bits_nat .u64 64 (by decide) (fun m h0 h1 => by obtain ⟨x, rfl⟩ := Int.eq_ofNat_of_zero_le h0; exact u64_small (by exact_mod_cast h1)) (n / 2 ^ k) 1 (by omega) (by decide)).1
  rw [e1]
  rw [show ((1 : Nat) : Int) = 1 from rfl] at h2
  rw [h2, Nat.and_one_is_mod, Nat.testBit_eq_decide_div_mod_eq]
  by_cases h : n / 2 ^ k % 2 = 1
  · rw [h]; simp
  · have : n / 2 ^ k % 2 = 0 := by omega
    rw [this]; simp
theorem white_high {W c : Int} (hw : 0 ≤ W ∧ W ≤ 8589934590) (hc : 32 < c) : isWh W c = false := by
  obtain ⟨n, rfl⟩ : ∃ n : Nat, W = n := ⟨W.toNat, by omega⟩
  obtain ⟨k, rfl⟩ : ∃ k : Nat, c = k := ⟨c.toNat, by omega⟩
  unfold isWh
  rw [decide_eq_true (by omega), Bool.true_and, Int.toNat_natCast, Int.toNat_natCast]
  apply Nat.testBit_lt_two_pow
  have : 2 ^ 33 ≤ 2 ^ k := Nat.pow_le_pow_right (by decide) (by omega)
  omega
structure FitOk (s : Stp) : Prop where
  ok : s.Ok
  def_ : s.d = true → s.cu = false
  n1 : s.f1.size ≤ 70368744177664
  n2 : s.f2.size ≤ 70368744177664
theorem SpOk.uni {e : SpE} (ok : SpOk e) {w : World} {mode white : Int} {l : List Item} (h : Sp e w mode white l) : Uni w.heap.size w := ((ok.vars.move h.base).mono h.base.size).uni
end Go.Proofs.YtmfihkgbfoapaaaDoor
namespace Go.Proofs.YtmfihkgbfoapaaaDoor
set_option linter.unusedVariables false
set_option linter.unusedSimpArgs false
open Go Go.RowKit Go.Lib Go.BigFrame Go.Proofs.YtmfihkgbfoapaaaDoorW.PrintWords
theorem Sp.range {e : SpE} {w : World} {mode white : Int} {l : List Item} (h : Sp e w mode white l) : -1 ≤ chOf l ∧ chOf l ≤ 1114111 := by
  obtain ⟨pre, hp⟩ := h.suf
  exact chOf_range (src := e.src) (pre := pre) hp.symm
end Go.Proofs.YtmfihkgbfoapaaaDoor
namespace Go.Proofs.YtmfihkgbfoapaaaDoor
set_option linter.unusedVariables false
set_option linter.unusedSimpArgs false
open Go Go.RowKit Go.Lib Go.BigFrame Go.Proofs.YtmfihkgbfoapaaaDoorW.PrintWords
end Go.Proofs.YtmfihkgbfoapaaaDoor
namespace Go.Proofs.YtmfihkgbfoapaaaDoor
set_option linter.unusedVariables false
set_option linter.unusedSimpArgs false
open Go Go.RowKit Go.Lib Go.BigFrame Go.Proofs.YtmfihkgbfoapaaaDoorW.PrintWords
end Go.Proofs.YtmfihkgbfoapaaaDoor
namespace Go.Proofs.YtmfihkgbfoapaaaDoor
set_option linter.unusedVariables false
set_option linter.unusedSimpArgs false
open Go Go.RowKit Go.Lib Go.BigFrame Go.Proofs.YtmfihkgbfoapaaaDoorW.PrintWords
structure NmE where
  w0 : World
  b : Nat
  g : Nat
  o : Nat
  c : Nat
  t : List Item
def NmE.n (e : NmE) : Nat := e.t.length
structure NmOk (e : NmE) : Prop where
  row : ∀ (j : Nat), j < e.n → e.w0.cell? ⟨e.g, e.o + j, none⟩ = some (.int .i32 (chOf (e.t.drop j)))
  cap : e.n ≤ e.c
  b : e.w0.heap.size ≤ e.b
  small : e.n ≤ 10000000000
  rng : Rng e.t
structure Nm (e : NmE) (w : World) (l : List Item) : Prop where
  bT : w.heap[e.b]? = some (.cells #[.slice (some ⟨e.g, e.o, none⟩) e.n e.c] 130 (0, 0))
  bA : w.heap[e.b + 1]? = some (.cells #[.int .i64 ((e.n - l.length : Nat) : Int)] 3 (0, 0))
  bP : w.heap[e.b + 2]? = some (.cells #[.func (.func 102) #[] #[.pointer (some ⟨e.b + 1, 0, none⟩), .pointer (some ⟨e.b, 0, none⟩)]] 95 (0, 0))
  bD : w.heap[e.b + 3]? = some (.cells #[.func (.func 103) #[] #[.pointer (some ⟨e.b + 2, 0, none⟩), .pointer (some ⟨e.b + 1, 0, none⟩)]] 154 (0, 0))
  base : Below e.w0.heap.size e.w0 w
  suf : l <:+ e.t
theorem Nm.len {e : NmE} {w : World} {l : List Item} (h : Nm e w l) : l.length ≤ e.n := h.suf.length_le
theorem Nm.at_ {e : NmE} {w : World} {l : List Item} (h : Nm e w l) : e.t.drop (e.n - l.length) = l := by
  obtain ⟨pre, hp⟩ := h.suf
  unfold NmE.n
  rw [← hp, List.length_append, Nat.add_sub_cancel, List.drop_left]
theorem Nm.cell {e : NmE} (ok : NmOk e) {w : World} {l : List Item} (h : Nm e w l) (hl : l ≠ []) : w.cell? ⟨e.g, e.o + (e.n - l.length), none⟩ = some (.int .i32 (chOf l)) := by
  have h0 : 0 < l.length := List.length_pos_iff.2 hl
  have hle := h.len
  have hr := ok.row (e.n - l.length) (by omega)
  rw [h.at_] at hr
  exact (h.base.cell (World.block_lt_of_cell? e.w0 _ hr)).trans hr
theorem Nm.range {e : NmE} (ok : NmOk e) {w : World} {l : List Item} (h : Nm e w l) : -1 ≤ chOf l ∧ chOf l ≤ 1114111 :=
  Rng.ch fun c hc => ok.rng c (h.suf.mem hc)
theorem Nm.step {e : NmE} (ok : NmOk e) {w : World} {l : List Item} (h : Nm e w l) (k : Nat) (hk : k ≤ l.length) {z : Int} (hz : z = ((e.n - l.length : Nat) : Int) + k) :
    Nm e (w.setCell ⟨e.b + 1, 0, none⟩ (.int .i64 z)) (l.drop k) ∧ Mv (e.b + 1) w (w.setCell ⟨e.b + 1, 0, none⟩ (.int .i64 z)) := by
  subst hz
  have hl := h.len
  have hm : Mv (e.b + 1) w (w.setCell ⟨e.b + 1, 0, none⟩ (.int .i64 (((e.n - l.length : Nat) : Int) + k))) := Mv.set _ _ _ _
  have hb := ok.b
  refine ⟨⟨?_, ?_, ?_, ?_, h.base.setCell (by show e.w0.heap.size ≤ e.b + 1; omega) _, (List.drop_suffix k l).trans h.suf⟩, hm⟩
  · exact (hm.block e.b (lt_of_heap h.bT) (by omega)).trans h.bT
  · have := Go.Lib.heap_setCell_same (i := 0) h.bA (.int .i64 (((e.n - l.length : Nat) : Int) + k))
    rw [this]
    have e1 : ((e.n - (l.drop k).length : Nat) : Int) = ((e.n - l.length : Nat) : Int) + k := by rw [List.length_drop]; omega
    rw [e1]
    rfl
  · exact (hm.block (e.b + 2) (lt_of_heap h.bP) (by omega)).trans h.bP
  · exact (hm.block (e.b + 3) (lt_of_heap h.bD) (by omega)).trans h.bD
theorem Nm.cells {e : NmE} {w : World} {l : List Item} (h : Nm e w l) :
    w.cell? ⟨e.b, 0, none⟩ = some (.slice (some ⟨e.g, e.o, none⟩) e.n e.c) ∧ w.cell? ⟨e.b + 1, 0, none⟩ = some (.int .i64 ((e.n - l.length : Nat) : Int)) ∧
    w.cell? ⟨e.b + 2, 0, none⟩ = some (.func (.func 102) #[] #[.pointer (some ⟨e.b + 1, 0, none⟩), .pointer (some ⟨e.b, 0, none⟩)]) ∧ w.frozen? ⟨e.b + 1, 0, none⟩ = false ∧
    w.cell? ⟨e.b + 3, 0, none⟩ = some (.func (.func 103) #[] #[.pointer (some ⟨e.b + 2, 0, none⟩), .pointer (some ⟨e.b + 1, 0, none⟩)]) :=
  ⟨(cell_of_heap h.bT 0).trans rfl, (cell_of_heap h.bA 0).trans rfl, (cell_of_heap h.bP 0).trans rfl, frozen_of_heap h.bA 0, (cell_of_heap h.bD 0).trans rfl⟩
end Go.Proofs.YtmfihkgbfoapaaaDoor
namespace Go.Proofs.YtmfihkgbfoapaaaDoor
set_option linter.unusedVariables false
set_option linter.unusedSimpArgs false
open Go Go.RowKit Go.Lib Go.BigFrame Go.Proofs.YtmfihkgbfoapaaaDoorW.PrintWords
end Go.Proofs.YtmfihkgbfoapaaaDoor
namespace Go.Proofs.YtmfihkgbfoapaaaDoor
set_option linter.unusedVariables false
set_option linter.unusedSimpArgs false
open Go Go.RowKit Go.Lib Go.BigFrame Go.Proofs.YtmfihkgbfoapaaaDoorW.PrintWords
structure RowAt (w : World) (g o c : Nat) (t : List Item) : Prop where
  row : ∀ (j : Nat), j < t.length → w.cell? ⟨g, o + j, none⟩ = some (.int .i32 (chOf (t.drop j)))
  cap : t.length ≤ c
  small : t.length ≤ 10000000000
  rng : Rng t
  ne : t ≠ []
theorem Nm.below {e : NmE} (ok : NmOk e) {w : World} {l : List Item} (h : Nm e w l) {w1 : World} (hb : Below w.heap.size w w1) : Nm e w1 l :=
  ⟨(hb.block _ (lt_of_heap h.bT)).trans h.bT, (hb.block _ (lt_of_heap h.bA)).trans h.bA, (hb.block _ (lt_of_heap h.bP)).trans h.bP, (hb.block _ (lt_of_heap h.bD)).trans h.bD, h.base.trans (hb.mono h.base.size), h.suf⟩
structure NmP (e : NmE) (q p1 p2 p3 : Nat) : Prop where
  hq : e.b = q
  h1 : q + 1 = p1
  h2 : q + 1 + 1 = p2
  h3 : q + 1 + 1 + 1 = p3
structure NumFr (e : NmE) (w W : World) : Prop where
  nm : Nm e W e.t
  mv : Below w.heap.size w W
theorem Mv.num {e : NmE} {w W w1 : World} (h : Below w.heap.size w W) (hm : Mv (e.b + 1) W w1) (hb : w.heap.size ≤ e.b) : Below w.heap.size w w1 := h.trans (hm.below (by omega) h.size)
end Go.Proofs.YtmfihkgbfoapaaaDoor
namespace Go.Proofs.YtmfihkgbfoapaaaDoor
set_option linter.unusedVariables false
set_option linter.unusedSimpArgs false
open Go Go.RowKit Go.Lib Go.BigFrame Go.Proofs.YtmfihkgbfoapaaaDoorW.PrintWords
end Go.Proofs.YtmfihkgbfoapaaaDoor
namespace Go.Proofs.YtmfihkgbfoapaaaDoor
set_option linter.unusedVariables false
set_option linter.unusedSimpArgs false
open Go Go.RowKit Go.Lib Go.BigFrame Go.Proofs.YtmfihkgbfoapaaaDoorW.PrintWords
structure BitsAt (mode : Int) : Prop where
  b1 : hasBit (4 * mode) 4 = sBit mode 1
  b24 : hasBit (4 * mode) 24 = (sBit mode 2 || sBit mode 4)
  b4 : hasBit (4 * mode) 16 = sBit mode 4
  b8 : hasBit (4 * mode) 32 = sBit mode 8
  b16 : hasBit (4 * mode) 64 = sBit mode 16
  b32 : hasBit (4 * mode) 128 = sBit mode 32
  b64 : hasBit (4 * mode) 256 = sBit mode 64
  b128 : hasBit (4 * mode) 512 = sBit mode 128
theorem scanGo_eq {C : Cfg} {src : List UInt8} {l l' : List Item} (h : more (isWh C.white) l = more (isWh C.white) l') : scanGo C src l = scanGo C src l' := by
  cases hr : (oneAt C src (more (isWh C.white) l)).redo with
  | true =>
    have hr' := hr
    rw [h] at hr'
    rw [scanGo_redo hr, scanGo_redo hr', h]
  | false =>
    have hr' := hr
    rw [h] at hr'
    rw [scanGo_stop hr, scanGo_stop hr', h]
theorem scan_white {C : Cfg} {src : List UInt8} {l : List Item} (h : isWh C.white (chOf l) = true) : scanGo C src l = scanGo C src l.tail := scanGo_eq (more_step (isWh_end _) h).1
theorem scan_stop0 {C : Cfg} {src : List UInt8} {l l' : List Item} {k : Int} (hw : isWh C.white (chOf l) = false) (h : oneAt C src l = ⟨k, l', 0, false⟩) : scanGo C src l = ⟨k, l, l', 0⟩ := by
  have hm := more_stop (p := isWh C.white) hw
  have hr : (oneAt C src (more (isWh C.white) l)).redo = false := by rw [hm, h]
  rw [scanGo_stop hr, hm, h]
def IdClean (I : Idr) : Prop := ∀ r : Int, I.p0 r = true → isDec r = false ∧ r ≠ -1 ∧ r ≠ 34 ∧ r ≠ 39 ∧ r ≠ 46 ∧ r ≠ 47 ∧ r ≠ 96
theorem one_id {C : Cfg} {src : List UInt8} {l : List Item} (h : C.I.p0 (chOf l) = true) (hb : hasBit C.mode 4 = true) : oneAt C src l = ⟨-2, more C.I.p1 l.tail, 0, false⟩ := by
  unfold oneAt; rw [if_pos h]; unfold oneId; rw [if_pos hb]
theorem one_end {C : Cfg} {src : List UInt8} : oneAt C src [] = ⟨-1, [], 0, false⟩ := by
  unfold oneAt
  rw [chOf_nil, if_neg (by rw [C.I.e0]; simp), if_neg (by decide), if_pos rfl]
theorem one_num {C : Cfg} {src : List UInt8} {l : List Item} (hI : IdClean C.I) (h : isDec (chOf l) = true) : oneAt C src l = oneNum C src l := by
  unfold oneAt
  rw [if_neg (fun h1 => by have := (hI _ h1).1; rw [h] at this; cases this), if_pos h]
theorem one_dot {C : Cfg} {src : List UInt8} {l : List Item} (hI : IdClean C.I) (h : chOf l = 46) : oneAt C src l = oneDot C src l := by
  unfold oneAt
  rw [if_neg (fun h1 => (hI _ h1).2.2.2.2.1 h), h, if_neg (by decide), if_neg (by decide), if_neg (by decide), if_neg (by decide), if_pos rfl]
theorem one_str {C : Cfg} {src : List UInt8} {l : List Item} (hI : IdClean C.I) (h : chOf l = 34) : oneAt C src l = oneStr C l := by
  unfold oneAt
  rw [if_neg (fun h1 => (hI _ h1).2.2.1 h), h, if_neg (by decide), if_neg (by decide), if_pos rfl]
theorem one_chr {C : Cfg} {src : List UInt8} {l : List Item} (hI : IdClean C.I) (h : chOf l = 39) : oneAt C src l = oneChr C l := by
  unfold oneAt
  rw [if_neg (fun h1 => (hI _ h1).2.2.2.1 h), h, if_neg (by decide), if_neg (by decide), if_neg (by decide), if_pos rfl]
theorem one_com {C : Cfg} {src : List UInt8} {l : List Item} (hI : IdClean C.I) (h : chOf l = 47) : oneAt C src l = oneCom C l := by
  unfold oneAt
  rw [if_neg (fun h1 => (hI _ h1).2.2.2.2.2.1 h), h, if_neg (by decide), if_neg (by decide), if_neg (by decide), if_neg (by decide), if_neg (by decide), if_pos rfl]
theorem one_raw {C : Cfg} {src : List UInt8} {l : List Item} (hI : IdClean C.I) (h : chOf l = 96) : oneAt C src l = oneRaw C l := by
  unfold oneAt
  rw [if_neg (fun h1 => (hI _ h1).2.2.2.2.2.2 h), h, if_neg (by decide), if_neg (by decide), if_neg (by decide), if_neg (by decide), if_neg (by decide), if_neg (by decide), if_pos rfl]
end Go.Proofs.YtmfihkgbfoapaaaDoor
namespace Go.Proofs.YtmfihkgbfoapaaaDoor
set_option linter.unusedVariables false
set_option linter.unusedSimpArgs false
open Go Go.RowKit Go.Lib Go.BigFrame Go.Proofs.YtmfihkgbfoapaaaDoorW.PrintWords
end Go.Proofs.YtmfihkgbfoapaaaDoor
namespace Go.Proofs.YtmfihkgbfoapaaaDoor
set_option linter.unusedVariables false
set_option linter.unusedSimpArgs false
open Go Go.RowKit Go.Lib Go.BigFrame Go.Proofs.YtmfihkgbfoapaaaDoorW.PrintWords
end Go.Proofs.YtmfihkgbfoapaaaDoor
namespace Go.Proofs.YtmfihkgbfoapaaaDoor
set_option linter.unusedVariables false
set_option linter.unusedSimpArgs false
open Go Go.RowKit Go.Lib Go.BigFrame Go.Proofs.YtmfihkgbfoapaaaDoorW.PrintWords
def tokT (src : List UInt8) (g : Got) : K.S37 :=
  ⟨g.tok, ⟨(txt src (offOf src g.at_) g.l).toArray⟩, ⟨offOf src g.at_, lineAt src g.at_, colAt src g.at_⟩, ⟨offOf src g.l, lineAt src g.l, colAt src g.l⟩⟩
end Go.Proofs.YtmfihkgbfoapaaaDoor
namespace Go.Proofs.YtmfihkgbfoapaaaDoor
set_option linter.unusedVariables false
set_option linter.unusedSimpArgs false
open Go Go.RowKit Go.Lib Go.BigFrame Go.Proofs.YtmfihkgbfoapaaaDoorW.PrintWords
def Same1 (x y : K.S37) : Prop := x.f0 = y.f0 ∧ x.f1 = y.f1 ∧ x.f3 = y.f3 ∧ (x.f0 = -1 ∨ x.f2 = y.f2)
theorem same2_from (l m : List K.S37) (hlm : m.length = l.length) (hlen : l.length ≤ 4611686018427387904) (hs : ∀ i : Nat, i < l.length → Same1 (K.rd_T37 l (i : Int)) (K.rd_T37 m (i : Int))) (j : Nat) (hj : j ≤ l.length) (k : Nat) (hk : l.length - j < k) : K.laws_same.l0 k l m l (l.length : Int) j = some (decide ((l.length : Int) > 0)) := by
  induction k generalizing j with
  | zero => omega
  | succ k ih =>
    unfold K.laws_same.l0
    by_cases h : j = l.length
    · subst h
      rw [if_neg (by omega)]
    · rw [if_pos (by omega), if_pos (by omega), if_pos (by omega), if_pos (by omega)]
      have hw : wrap64 ((j : Int) + 1) = ((j + 1 : Nat) : Int) := by unfold wrap64; omega
      obtain ⟨h0, h1, h3, h2⟩ := hs j (by omega)
      rw [hw, ih (j + 1) (by omega) (by omega), ← h0, ← h1, ← h3]
      by_cases he : (K.rd_T37 l (j : Int)).f0 = -1
      · rw [if_pos he]; simp
      · rw [if_neg he, ← (h2.resolve_left he)]; simp
theorem same2 (l m : List K.S37) (hl : 0 < l.length) (hlm : m.length = l.length) (hlen : l.length ≤ 4611686018427387904) (hs : ∀ i : Nat, i < l.length → Same1 (K.rd_T37 l (i : Int)) (K.rd_T37 m (i : Int))) : K.laws_same.f (l.length + 1) l m = some true := by
  unfold K.laws_same.f
  rw [if_pos (by omega)]
  have := same2_from l m hlm hlen hs 0 (by omega) (l.length + 1) (by omega)
  rw [show ((0 : Nat) : Int) = 0 from rfl] at this
  rw [this]
  simp; omega
theorem tokT_same (C : Cfg) (src : List UInt8) : ∀ g ∈ toks C src (items src), Same1 (tokOf src g) (tokT src g) := by
  intro g hg
  by_cases h : items src = []
  · rw [h, toks, dif_neg (by simp)] at hg
    have : g = scanGo C src [] := by simpa using hg
    refine ⟨rfl, rfl, rfl, Or.inl ?_⟩
    rw [this]
    rcases scanGo_lt C src [] with h | h
    · exact h.1
    · exact absurd h.2 (by simp)
  · refine ⟨rfl, rfl, rfl, Or.inr ?_⟩
    unfold tokOf tokT tokLn tokCo
    simp only [if_neg h]
theorem toks_same2 (C : Cfg) (src : List UInt8) (hl : src.length ≤ 10000000000) : K.laws_same.f (((toks C src (items src)).map (tokOf src)).length + 1) ((toks C src (items src)).map (tokOf src)) ((toks C src (items src)).map (tokT src)) = some true := by
  have h1 := toks_len C src (items src)
  have h2 := items_le src
  refine same2 _ _ (by rw [List.length_map]; exact h1.1) (by rw [List.length_map, List.length_map]) (by rw [List.length_map]; omega) ?_
  intro i hi
  rw [List.length_map] at hi
  have hm := tokT_same C src (toks C src (items src))[i] (List.getElem_mem hi)
  unfold K.rd_T37
  rw [Int.toNat_natCast, List.getD_eq_getElem?_getD, List.getD_eq_getElem?_getD, List.getElem?_map, List.getElem?_map, List.getElem?_eq_getElem hi]
  exact hm
theorem sure_all2 {src : List UInt8} (h : sureL (items src) = true) : lexErrs (items src) = 0 ∧ startL src = items src := by
  have hok : ∀ c ∈ items src, okc c = true := by simpa [sureL] using h
  constructor
  · unfold lexErrs
    have : ∀ l : List Item, (∀ c ∈ l, okc c = true) → (l.map lexErr).sum = 0 := by
      intro l
      induction l with
      | nil => intro _; rfl
      | cons c l ih =>
        intro hl
        have h1 := hl c List.mem_cons_self
        rw [List.map_cons, List.sum_cons, ih fun x hx => hl x (List.mem_cons_of_mem _ hx)]
        unfold okc at h1
        simp at h1
        unfold lexErr
        simp [h1]
    exact this _ hok
  · unfold startL
    rw [if_neg]
    intro hc
    cases hi : items src with
    | nil => rw [hi] at hc; cases hc
    | cons c l =>
      rw [hi] at hc
      have := hok c (by rw [hi]; exact List.mem_cons_self)
      have hr : c.r = 65279 := by have : ((c.r : Nat) : Int) = 65279 := hc; omega
      unfold okc at this
      rw [hr] at this
      simp at this
theorem let_low : ((List.range 128).all fun k => !isLetterU (k : Int) || decide (65 ≤ k ∧ k ≠ 96)) = true := by kernel_rfl
theorem idGo_clean : IdClean idGo := by
  intro r h
  have h' : ((r == 95) || isLetterU r) = true := h
  by_cases h95 : r = 95
  · subst h95; exact ⟨rfl, by decide, by decide, by decide, by decide, by decide, by decide⟩
  · have hb : (r == 95) = false := beq_eq_false_iff_ne.2 h95
    rw [hb, Bool.false_or] at h'
    have hm1 : r ≠ -1 := by rintro rfl; rw [letter_end] at h'; cases h'
    by_cases hlo : 0 ≤ r ∧ r < 128
    · have ht := List.all_eq_true.1 let_low r.toNat (List.mem_range.2 (by omega))
      rw [show ((r.toNat : Nat) : Int) = r by omega, h'] at ht
      simp at ht
      refine ⟨by unfold isDec; simp; omega, hm1, by omega, by omega, by omega, by omega, by omega⟩
    · exact ⟨by unfold isDec; simp; omega, hm1, by omega, by omega, by omega, by omega, by omega⟩
theorem sure_err {C : Cfg} {src : List UInt8} (h : sureL (items src) = true) (h2 : errsOf (toks C src (items src)) = 0) : errNum C src = 0 := by
  unfold errNum
  rw [(sure_all2 h).1, (sure_all2 h).2, h2]
end Go.Proofs.YtmfihkgbfoapaaaDoor
namespace Go.Proofs.YtmfihkgbfoapaaaDoor
set_option linter.unusedVariables false
set_option linter.unusedSimpArgs false
open Go Go.RowKit Go.Lib Go.BigFrame Go.Proofs.YtmfihkgbfoapaaaDoorW.PrintWords
set_option maxRecDepth 100000 in
set_option maxHeartbeats 1600000 in
theorem scanned_at (w0 w : World) (a : Option Addr) (k : Nat) (src : List UInt8) (F : Stp) (hF : F.Ok) (A : Option Addr) (n c : Nat) (ys : List K.S37) (hn : ys.length = n)
    (hs : SrcAt w0.heap.size w0 a k src) (hl : src.length ≤ 10000000000) (hv : Vars w0.heap.size w0) (hb : Below w0.heap.size w0 w) (hC : Kd.C K.k37 w A ys.length ys) (hc : ys.length ≤ c)
    (he : errNum F.cfg src = 0) (hsm : K.laws_same.f (((toks F.cfg src (startL src)).map (tokOf src)).length + 1) ((toks F.cfg src (startL src)).map (tokOf src)) ys = some true) :
    Calls Tryd.prog 26 #[.slice a src.length k, .agg #[.bool F.d, .int .i64 F.m, .int .u64 F.wh, .bool F.cu, .string F.f1, .string F.f2], .slice A n c] w fun e w' => e = .returned (.bool true) ∧ Below w.heap.size w w' := by
  subst hn
  have hq := heap_alloc_new w (Obj.cells #[.bool F.d, .int .i64 F.m, .int .u64 F.wh, .bool F.cu, .string F.f1, .string F.f2] 25)
  have hbx := boxed w F
  obtain ⟨ts, hts⟩ : ∃ ts, (toks F.cfg src (startL src)).map (tokOf src) = ts := ⟨_, rfl⟩
  rw [hts] at hsm
  have HH := Lib.hid (And.intro hs (And.intro hl (And.intro hv (And.intro hb (And.intro hC (And.intro hc (And.intro he (And.intro hts (And.intro hsm hF)))))))))
  clear hs hl hv hb hC hc he hsm hts
  go_enter Tryd.func26, Tryd.ntmps26
  go_upto_region 1 with (fail)
  obtain ⟨w1, hw1⟩ : ∃ W, w.alloc (Obj.cells #[.bool F.d, .int .i64 F.m, .int .u64 F.wh, .bool F.cu, .string F.f1, .string F.f2] 25) = W := ⟨_, rfl⟩
  rw [hw1] at hq hbx ⊢
  obtain ⟨c0, c1, c2, c3, c4, c5⟩ := set_loads hq
  have HB := Lib.hid hbx
  clear hbx hq hw1
  go_upto_region 2 with (first
    | (go_at_call 24; refine (tokens_at w0 w1 a none k 0 src [] F HH.out.2.2.2.2.2.2.2.2.2 (HH.out.2.2.2.1.trans (HB.out.mono HH.out.2.2.2.1.size)) HH.out.1 (SzAt.nil _ _) HH.out.2.1 HH.out.2.2.1).mono ?_; unfold TokPost; rw [HH.out.2.2.2.2.2.2.2.1, HH.out.2.2.2.2.2.2.1]; rintro e w3 ⟨A1, c1, rfl, hc, hC, hb3⟩; have HB3 := Lib.hid (And.intro (HB.out.trans (hb3.mono HB.out.size)) (And.intro hc hC)); clear hb3 hC hc))
  go_wp2_with (first
    | (go_at_call 29; refine (same_at w3 A1 A c1 c ts ys HB3.out.2.2 HB3.out.2.1 (Kd.C_below HH.out.2.2.2.2.1 HB3.out.1) HH.out.2.2.2.2.2.1 _ HH.out.2.2.2.2.2.2.2.2.1).mono ?_; rintro e w4 ⟨rfl, hb4⟩; have HB4 := Lib.hid (HB3.out.1.trans (hb4.mono HB3.out.1.size)); clear hb4))
  go_ret
  exact ⟨rfl, HB4.out⟩
end Go.Proofs.YtmfihkgbfoapaaaDoor
