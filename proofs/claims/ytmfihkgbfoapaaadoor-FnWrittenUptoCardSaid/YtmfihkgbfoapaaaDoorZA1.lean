/- Own texts A1 A2 of this claim, cut to what the claim uses. -/
import Derived.Test.YtmfihkgbfoapaaaDoorRows
import Derived.Test.YtmfihkgbfoapaaaDoorZA0
import Derived.WalkKit
import Derived.WalkSpells
import Derived.WalkLawsBesides
import Derived.StillTailTactics
import Derived.Deep.QuietTactic
import Derived.BigQuiet
import Derived.Lib.BufferAt
import Derived.Lib.Hide
namespace Go.Proofs.YtmfihkgbfoapaaaDoor
open Go Go.RowKit Go.Lib
structure Env where
  b : Nat
  bR : Nat
  bC : Nat
  bE : Nat
  B : Nat
  w0 : World
  szV : Value
  sz : List Int
  ident : Value
structure Regs where
  srcPos : Int
  srcEnd : Int
  off : Int
  line : Int
  col : Int
  lll : Int
  lcl : Int
  tokPos : Int
  tokEnd : Int
  ch : Int
  ec : Int
  mode : Int
  white : Int
  offs : Int
  ln : Int
  co : Int
  buf : List UInt8
  tb : List UInt8
  rem : List UInt8
  calls : Int
  cnt : Int
def rcell (E : Env) (r : Regs) (i : Nat) : Option Value :=
  if i = 0 then some (.iface 121 (.pointer (some ⟨E.bR, 0, none⟩)))
  else if i ≤ 1025 then (r.buf[i - 1]?).map fun c => .int .u8 ((c.toNat : Nat) : Int)
  else if i = 1026 then some (.int .i64 r.srcPos)
  else if i = 1027 then some (.int .i64 r.srcEnd)
  else if i = 1028 then some (.int .i64 r.off)
  else if i = 1029 then some (.int .i64 r.line)
  else if i = 1030 then some (.int .i64 r.col)
  else if i = 1031 then some (.int .i64 r.lll)
  else if i = 1032 then some (.int .i64 r.lcl)
  else if i = 1036 then some (.int .i64 r.tokPos)
  else if i = 1037 then some (.int .i64 r.tokEnd)
  else if i = 1038 then some (.int .i32 r.ch)
  else if i = 1039 then some (.func (.func 64) #[] #[.pointer (some ⟨E.bE, 0, none⟩)])
  else if i = 1040 then some (.int .i64 r.ec)
  else if i = 1041 then some (.int .u64 r.mode)
  else if i = 1042 then some (.int .u64 r.white)
  else if i = 1043 then some (E.ident)
  else if i = 1044 then some (.string ⟨#[]⟩)
  else if i = 1045 then some (.int .i64 r.offs)
  else if i = 1046 then some (.int .i64 r.ln)
  else if i = 1047 then some (.int .i64 r.co)
  else none
theorem rcell_srcPos (E : Env) (r : Regs) (x : Int) : (fun j => if j = 1026 then some (.int .i64 x) else rcell E r j) = rcell E { r with srcPos := x } := by
  funext j; by_cases h : j = 1026 <;> simp [rcell, h]
theorem rcell_srcEnd (E : Env) (r : Regs) (x : Int) : (fun j => if j = 1027 then some (.int .i64 x) else rcell E r j) = rcell E { r with srcEnd := x } := by
  funext j; by_cases h : j = 1027 <;> simp [rcell, h]
theorem rcell_off (E : Env) (r : Regs) (x : Int) : (fun j => if j = 1028 then some (.int .i64 x) else rcell E r j) = rcell E { r with off := x } := by
  funext j; by_cases h : j = 1028 <;> simp [rcell, h]
theorem rcell_line (E : Env) (r : Regs) (x : Int) : (fun j => if j = 1029 then some (.int .i64 x) else rcell E r j) = rcell E { r with line := x } := by
  funext j; by_cases h : j = 1029 <;> simp [rcell, h]
theorem rcell_col (E : Env) (r : Regs) (x : Int) : (fun j => if j = 1030 then some (.int .i64 x) else rcell E r j) = rcell E { r with col := x } := by
  funext j; by_cases h : j = 1030 <;> simp [rcell, h]
theorem rcell_lll (E : Env) (r : Regs) (x : Int) : (fun j => if j = 1031 then some (.int .i64 x) else rcell E r j) = rcell E { r with lll := x } := by
  funext j; by_cases h : j = 1031 <;> simp [rcell, h]
theorem rcell_lcl (E : Env) (r : Regs) (x : Int) : (fun j => if j = 1032 then some (.int .i64 x) else rcell E r j) = rcell E { r with lcl := x } := by
  funext j; by_cases h : j = 1032 <;> simp [rcell, h]
theorem rcell_tokPos (E : Env) (r : Regs) (x : Int) : (fun j => if j = 1036 then some (.int .i64 x) else rcell E r j) = rcell E { r with tokPos := x } := by
  funext j; by_cases h : j = 1036 <;> simp [rcell, h]
theorem rcell_tokEnd (E : Env) (r : Regs) (x : Int) : (fun j => if j = 1037 then some (.int .i64 x) else rcell E r j) = rcell E { r with tokEnd := x } := by
  funext j; by_cases h : j = 1037 <;> simp [rcell, h]
theorem rcell_ch (E : Env) (r : Regs) (x : Int) : (fun j => if j = 1038 then some (.int .i32 x) else rcell E r j) = rcell E { r with ch := x } := by
  funext j; by_cases h : j = 1038 <;> simp [rcell, h]
theorem rcell_ec (E : Env) (r : Regs) (x : Int) : (fun j => if j = 1040 then some (.int .i64 x) else rcell E r j) = rcell E { r with ec := x } := by
  funext j; by_cases h : j = 1040 <;> simp [rcell, h]
theorem rcell_mode (E : Env) (r : Regs) (x : Int) : (fun j => if j = 1041 then some (.int .u64 x) else rcell E r j) = rcell E { r with mode := x } := by
  funext j; by_cases h : j = 1041 <;> simp [rcell, h]
theorem rcell_white (E : Env) (r : Regs) (x : Int) : (fun j => if j = 1042 then some (.int .u64 x) else rcell E r j) = rcell E { r with white := x } := by
  funext j; by_cases h : j = 1042 <;> simp [rcell, h]
theorem rcell_offs (E : Env) (r : Regs) (x : Int) : (fun j => if j = 1045 then some (.int .i64 x) else rcell E r j) = rcell E { r with offs := x } := by
  funext j; by_cases h : j = 1045 <;> simp [rcell, h]
theorem rcell_ln (E : Env) (r : Regs) (x : Int) : (fun j => if j = 1046 then some (.int .i64 x) else rcell E r j) = rcell E { r with ln := x } := by
  funext j; by_cases h : j = 1046 <;> simp [rcell, h]
theorem rcell_co (E : Env) (r : Regs) (x : Int) : (fun j => if j = 1047 then some (.int .i64 x) else rcell E r j) = rcell E { r with co := x } := by
  funext j; by_cases h : j = 1047 <;> simp [rcell, h]
def Fr (E : Env) (w : World) : Prop :=
  Below E.B E.w0 w ∧ ∀ k o, E.w0.heap[k]? = some o → k ≠ E.b → k ≠ E.bR → k ≠ E.bC → (∀ c fz, o ≠ .cells c 5 fz) → w.heap[k]? = some o
theorem Fr.refl (E : Env) : Fr E E.w0 := ⟨Below.refl _ _, fun _ _ h _ _ _ _ => h⟩
theorem Fr.setCell {E : Env} {w : World} (h : Fr E w) {p : Addr} (hp : p.block = E.b ∨ p.block = E.bR ∨ p.block = E.bC) (hB : E.B ≤ p.block) (v : Value) : Fr E (w.setCell p v) :=
  ⟨h.1.setCell hB v, fun k o h0 hb hr hc ho => by rw [Below.heap_setCell _ _ _ _ (by omega)]; exact h.2 k o h0 hb hr hc ho⟩
theorem Fr.drewN {E : Env} {w : World} (h : Fr E w) (n : Nat) : Fr E (w.drewN n) := ⟨⟨h.1.os, h.1.tape, h.1.output, h.1.size, h.1.block⟩, h.2⟩
theorem Fr.alloc {E : Env} {w : World} (h : Fr E w) (hB : E.B ≤ w.heap.size) (o : Obj) : Fr E (w.alloc o) :=
  ⟨h.1.alloc hB o, fun k x h0 hb hr hc ho => by
    have h1 := h.2 k x h0 hb hr hc ho
    rw [Below.heap_alloc _ _ _ (Array.getElem?_eq_some_iff.1 h1).1]; exact h1⟩
def SizesAt (E : Env) (w : World) : Prop :=
  ∃ a c, E.szV = .slice a E.sz.length c ∧ E.sz.length ≤ maxLen ∧ (0 < E.sz.length → ∃ g o, a = some ⟨g, o, none⟩ ∧ g < E.B ∧ ∀ j, j < E.sz.length → w.cell? ⟨g, o + j, none⟩ = some (.int .i64 (E.sz.getD j 0)))
def ReaderAt (E : Env) (w : World) (r : Regs) : Prop :=
  ∃ a cap, w.heap[E.bR]? = some (.cells #[.slice a r.rem.length cap, E.szV, .int .i64 r.calls] 123 (0, 0)) ∧ r.rem.length ≤ cap ∧ cap ≤ maxLen ∧
    (0 < r.rem.length → ∃ g o, a = some ⟨g, o, none⟩ ∧ g < E.B ∧ ∀ j, j < r.rem.length → w.cell? ⟨g, o + j, none⟩ = some (.int .u8 ((gb r.rem j : Nat) : Int)))
structure Raw (E : Env) (w : World) (r : Regs) : Prop where
  buf : LibA.IsBuffer 111 (rcell E r) 5 E.B E.b 1033 (byteCells r.tb) w
  blen : r.buf.length = 1025
  rd : ReaderAt E w r
  cnt : w.heap[E.bC]? = some (.cells #[.int .i64 r.cnt] 3 (0, 0))
  cap : w.heap[E.bE]? = some (.cells #[.pointer (some ⟨E.bC, 0, none⟩)] 93 (0, 0))
  BR : E.B ≤ E.bR
  BC : E.B ≤ E.bC
  szs : SizesAt E w
  fr : Fr E w
section
variable {E : Env} {w : World} {r : Regs}
theorem Raw.lt (h : Raw E w r) : E.b < w.heap.size := h.buf.lt
theorem Raw.Bb (h : Raw E w r) : E.B ≤ E.b := h.buf.1
theorem Raw.ltR (h : Raw E w r) : E.bR < w.heap.size := by obtain ⟨a, c, hb, _⟩ := h.rd; exact lt_of_heap hb
theorem Raw.ltC (h : Raw E w r) : E.bC < w.heap.size := lt_of_heap h.cnt
theorem Raw.ltE (h : Raw E w r) : E.bE < w.heap.size := lt_of_heap h.cap
theorem Raw.Bsize (h : Raw E w r) : E.B ≤ w.heap.size := by have := h.Bb; have := h.lt; omega
theorem Raw.tagb (h : Raw E w r) : ∃ cs, w.heap[E.b]? = some (.cells cs 111 (0, 0)) := by
  obtain ⟨_, v, lr, ⟨cs, hb, _⟩, _⟩ := h.buf; exact ⟨cs, hb⟩
theorem Raw.bR_ne (h : Raw E w r) : E.bR ≠ E.b := fun e => by
  obtain ⟨cs, hb⟩ := h.tagb; obtain ⟨a, c, hr, _⟩ := h.rd; rw [e, hb] at hr; cases hr
theorem Raw.bC_ne (h : Raw E w r) : E.bC ≠ E.b := fun e => by
  obtain ⟨cs, hb⟩ := h.tagb; have hr := h.cnt; rw [e, hb] at hr; cases hr
theorem Raw.bE_ne (h : Raw E w r) : E.bE ≠ E.b := fun e => by
  obtain ⟨cs, hb⟩ := h.tagb; have hr := h.cap; rw [e, hb] at hr; cases hr
theorem Raw.bC_ne_R (h : Raw E w r) : E.bC ≠ E.bR := fun e => by
  obtain ⟨a, c, hr, _⟩ := h.rd; have hc := h.cnt; rw [e, hr] at hc; cases hc
theorem Raw.bE_ne_R (h : Raw E w r) : E.bE ≠ E.bR := fun e => by
  obtain ⟨a, c, hr, _⟩ := h.rd; have hc := h.cap; rw [e, hr] at hc; cases hc
theorem Raw.bE_ne_C (h : Raw E w r) : E.bE ≠ E.bC := fun e => by
  have hr := h.cnt; have hc := h.cap; rw [e, hr] at hc; cases hc
theorem Raw.cell (h : Raw E w r) (i : Nat) (hi : i < 1033 ∨ 1036 ≤ i) : w.cell? ⟨E.b, i, none⟩ = rcell E r i := h.buf.rest i hi
theorem Raw.frozen (h : Raw E w r) (i : Nat) : w.frozen? ⟨E.b, i, none⟩ = false := h.buf.notFrozen i
theorem SizesAt.of (h : SizesAt E w) {w' : World} (hb : ∀ k, k < E.B → w'.heap[k]? = w.heap[k]?) : SizesAt E w' := by
  obtain ⟨a, c, h1, h2, h3⟩ := h
  refine ⟨a, c, h1, h2, fun h0 => ?_⟩
  obtain ⟨g, o, ha, hg, hc⟩ := h3 h0
  refine ⟨g, o, ha, hg, fun j hj => ?_⟩
  rw [← hc j hj]; unfold World.cell?; simp only [hb g hg]
theorem ReaderAt.of (h : ReaderAt E w r) {w' : World} (hR : w'.heap[E.bR]? = w.heap[E.bR]?) (hb : ∀ k, k < E.B → w'.heap[k]? = w.heap[k]?) {r' : Regs} (e1 : r'.rem = r.rem) (e2 : r'.calls = r.calls) : ReaderAt E w' r' := by
  obtain ⟨a, c, h1, h2, hm, h3⟩ := h
  rw [← e1, ← e2] at h1
  rw [← e1] at h2 h3
  refine ⟨a, c, hR.trans h1, h2, hm, fun h0 => ?_⟩
  obtain ⟨g, o, ha, hg, hc⟩ := h3 h0
  refine ⟨g, o, ha, hg, fun j hj => ?_⟩
  rw [← hc j hj]; unfold World.cell?; simp only [hb g hg]
theorem Raw.set (h : Raw E w r) (k : Nat) (hk : k < 1033 ∨ 1036 ≤ k) {old : Value} (ho : rcell E r k = some old) (v : Value) (r' : Regs)
    (hc : (fun j => if j = k then some v else rcell E r j) = rcell E r') (hl : r'.buf.length = 1025) (ht : r'.tb = r.tb) (hr : r'.rem = r.rem) (hca : r'.calls = r.calls) (hcn : r'.cnt = r.cnt) : Raw E (w.setCell ⟨E.b, k, none⟩ v) r' := by
  have hb := h.buf.setOther k hk ho v
  rw [hc, ← ht] at hb
  have hlow : ∀ j, j < E.B → (w.setCell ⟨E.b, k, none⟩ v).heap[j]? = w.heap[j]? := fun j hj => Below.heap_setCell _ _ _ _ (by have := h.Bb; show j ≠ E.b; omega)
  refine ⟨hb, hl, h.rd.of ?_ hlow hr hca, ?_, ?_, h.BR, h.BC, h.szs.of hlow, h.fr.setCell (.inl rfl) h.Bb v⟩
  · exact Below.heap_setCell _ _ _ _ h.bR_ne
  · rw [Below.heap_setCell _ _ _ _ h.bC_ne, hcn]; exact h.cnt
  · rw [Below.heap_setCell _ _ _ _ h.bE_ne]; exact h.cap
theorem Raw.drewN (h : Raw E w r) (n : Nat) : Raw E (w.drewN n) r := ⟨h.buf, h.blen, h.rd, h.cnt, h.cap, h.BR, h.BC, h.szs, h.fr.drewN n⟩
theorem Raw.drew (h : Raw E w r) : Raw E w.drew r := h.drewN 1
theorem Raw.alloc (h : Raw E w r) (o : Obj) : Raw E (w.alloc o) r := by
  have hlow : ∀ j, j < w.heap.size → (w.alloc o).heap[j]? = w.heap[j]? := fun j hj => Below.heap_alloc _ _ _ hj
  have hB : ∀ j, j < E.B → (w.alloc o).heap[j]? = w.heap[j]? := fun j hj => hlow j (by have := h.Bsize; omega)
  exact ⟨h.buf.alloc o, h.blen, h.rd.of (hlow _ h.ltR) hB rfl rfl, (hlow _ h.ltC).trans h.cnt, (hlow _ h.ltE).trans h.cap, h.BR, h.BC, h.szs.of hB, h.fr.alloc h.Bsize o⟩
theorem Raw.set_srcPos (h : Raw E w r) (x : Int) : Raw E (w.setCell ⟨E.b, 1026, none⟩ (.int .i64 x)) { r with srcPos := x } :=
  h.set 1026 (by omega) (old := .int .i64 r.srcPos) rfl _ _ (rcell_srcPos E r x) h.blen rfl rfl rfl rfl
theorem Raw.set_srcEnd (h : Raw E w r) (x : Int) : Raw E (w.setCell ⟨E.b, 1027, none⟩ (.int .i64 x)) { r with srcEnd := x } :=
  h.set 1027 (by omega) (old := .int .i64 r.srcEnd) rfl _ _ (rcell_srcEnd E r x) h.blen rfl rfl rfl rfl
theorem Raw.set_off (h : Raw E w r) (x : Int) : Raw E (w.setCell ⟨E.b, 1028, none⟩ (.int .i64 x)) { r with off := x } :=
  h.set 1028 (by omega) (old := .int .i64 r.off) rfl _ _ (rcell_off E r x) h.blen rfl rfl rfl rfl
theorem Raw.set_line (h : Raw E w r) (x : Int) : Raw E (w.setCell ⟨E.b, 1029, none⟩ (.int .i64 x)) { r with line := x } :=
  h.set 1029 (by omega) (old := .int .i64 r.line) rfl _ _ (rcell_line E r x) h.blen rfl rfl rfl rfl
theorem Raw.set_col (h : Raw E w r) (x : Int) : Raw E (w.setCell ⟨E.b, 1030, none⟩ (.int .i64 x)) { r with col := x } :=
  h.set 1030 (by omega) (old := .int .i64 r.col) rfl _ _ (rcell_col E r x) h.blen rfl rfl rfl rfl
theorem Raw.set_lll (h : Raw E w r) (x : Int) : Raw E (w.setCell ⟨E.b, 1031, none⟩ (.int .i64 x)) { r with lll := x } :=
  h.set 1031 (by omega) (old := .int .i64 r.lll) rfl _ _ (rcell_lll E r x) h.blen rfl rfl rfl rfl
theorem Raw.set_lcl (h : Raw E w r) (x : Int) : Raw E (w.setCell ⟨E.b, 1032, none⟩ (.int .i64 x)) { r with lcl := x } :=
  h.set 1032 (by omega) (old := .int .i64 r.lcl) rfl _ _ (rcell_lcl E r x) h.blen rfl rfl rfl rfl
theorem Raw.set_tokPos (h : Raw E w r) (x : Int) : Raw E (w.setCell ⟨E.b, 1036, none⟩ (.int .i64 x)) { r with tokPos := x } :=
  h.set 1036 (by omega) (old := .int .i64 r.tokPos) rfl _ _ (rcell_tokPos E r x) h.blen rfl rfl rfl rfl
theorem Raw.set_tokEnd (h : Raw E w r) (x : Int) : Raw E (w.setCell ⟨E.b, 1037, none⟩ (.int .i64 x)) { r with tokEnd := x } :=
  h.set 1037 (by omega) (old := .int .i64 r.tokEnd) rfl _ _ (rcell_tokEnd E r x) h.blen rfl rfl rfl rfl
theorem Raw.set_ch (h : Raw E w r) (x : Int) : Raw E (w.setCell ⟨E.b, 1038, none⟩ (.int .i32 x)) { r with ch := x } :=
  h.set 1038 (by omega) (old := .int .i32 r.ch) rfl _ _ (rcell_ch E r x) h.blen rfl rfl rfl rfl
theorem Raw.set_ec (h : Raw E w r) (x : Int) : Raw E (w.setCell ⟨E.b, 1040, none⟩ (.int .i64 x)) { r with ec := x } :=
  h.set 1040 (by omega) (old := .int .i64 r.ec) rfl _ _ (rcell_ec E r x) h.blen rfl rfl rfl rfl
theorem Raw.set_mode (h : Raw E w r) (x : Int) : Raw E (w.setCell ⟨E.b, 1041, none⟩ (.int .u64 x)) { r with mode := x } :=
  h.set 1041 (by omega) (old := .int .u64 r.mode) rfl _ _ (rcell_mode E r x) h.blen rfl rfl rfl rfl
theorem Raw.set_white (h : Raw E w r) (x : Int) : Raw E (w.setCell ⟨E.b, 1042, none⟩ (.int .u64 x)) { r with white := x } :=
  h.set 1042 (by omega) (old := .int .u64 r.white) rfl _ _ (rcell_white E r x) h.blen rfl rfl rfl rfl
theorem Raw.set_offs (h : Raw E w r) (x : Int) : Raw E (w.setCell ⟨E.b, 1045, none⟩ (.int .i64 x)) { r with offs := x } :=
  h.set 1045 (by omega) (old := .int .i64 r.offs) rfl _ _ (rcell_offs E r x) h.blen rfl rfl rfl rfl
theorem Raw.set_ln (h : Raw E w r) (x : Int) : Raw E (w.setCell ⟨E.b, 1046, none⟩ (.int .i64 x)) { r with ln := x } :=
  h.set 1046 (by omega) (old := .int .i64 r.ln) rfl _ _ (rcell_ln E r x) h.blen rfl rfl rfl rfl
theorem Raw.set_co (h : Raw E w r) (x : Int) : Raw E (w.setCell ⟨E.b, 1047, none⟩ (.int .i64 x)) { r with co := x } :=
  h.set 1047 (by omega) (old := .int .i64 r.co) rfl _ _ (rcell_co E r x) h.blen rfl rfl rfl rfl
theorem Raw.c_srcPos (h : Raw E w r) : w.cell? ⟨E.b, 1026, none⟩ = some (.int .i64 r.srcPos) := h.cell 1026 (by omega)
theorem Raw.c_srcEnd (h : Raw E w r) : w.cell? ⟨E.b, 1027, none⟩ = some (.int .i64 r.srcEnd) := h.cell 1027 (by omega)
theorem Raw.c_off (h : Raw E w r) : w.cell? ⟨E.b, 1028, none⟩ = some (.int .i64 r.off) := h.cell 1028 (by omega)
theorem Raw.c_line (h : Raw E w r) : w.cell? ⟨E.b, 1029, none⟩ = some (.int .i64 r.line) := h.cell 1029 (by omega)
theorem Raw.c_col (h : Raw E w r) : w.cell? ⟨E.b, 1030, none⟩ = some (.int .i64 r.col) := h.cell 1030 (by omega)
theorem Raw.c_lll (h : Raw E w r) : w.cell? ⟨E.b, 1031, none⟩ = some (.int .i64 r.lll) := h.cell 1031 (by omega)
theorem Raw.c_lcl (h : Raw E w r) : w.cell? ⟨E.b, 1032, none⟩ = some (.int .i64 r.lcl) := h.cell 1032 (by omega)
theorem Raw.c_tokPos (h : Raw E w r) : w.cell? ⟨E.b, 1036, none⟩ = some (.int .i64 r.tokPos) := h.cell 1036 (by omega)
theorem Raw.c_tokEnd (h : Raw E w r) : w.cell? ⟨E.b, 1037, none⟩ = some (.int .i64 r.tokEnd) := h.cell 1037 (by omega)
theorem Raw.c_ch (h : Raw E w r) : w.cell? ⟨E.b, 1038, none⟩ = some (.int .i32 r.ch) := h.cell 1038 (by omega)
theorem Raw.c_ec (h : Raw E w r) : w.cell? ⟨E.b, 1040, none⟩ = some (.int .i64 r.ec) := h.cell 1040 (by omega)
theorem Raw.c_mode (h : Raw E w r) : w.cell? ⟨E.b, 1041, none⟩ = some (.int .u64 r.mode) := h.cell 1041 (by omega)
theorem Raw.c_white (h : Raw E w r) : w.cell? ⟨E.b, 1042, none⟩ = some (.int .u64 r.white) := h.cell 1042 (by omega)
theorem Raw.c_offs (h : Raw E w r) : w.cell? ⟨E.b, 1045, none⟩ = some (.int .i64 r.offs) := h.cell 1045 (by omega)
theorem Raw.c_ln (h : Raw E w r) : w.cell? ⟨E.b, 1046, none⟩ = some (.int .i64 r.ln) := h.cell 1046 (by omega)
theorem Raw.c_co (h : Raw E w r) : w.cell? ⟨E.b, 1047, none⟩ = some (.int .i64 r.co) := h.cell 1047 (by omega)
theorem Raw.c_src (h : Raw E w r) : w.cell? ⟨E.b, 0, none⟩ = some (.iface 121 (.pointer (some ⟨E.bR, 0, none⟩))) := h.cell 0 (by omega)
theorem Raw.c_error (h : Raw E w r) : w.cell? ⟨E.b, 1039, none⟩ = some (.func (.func 64) #[] #[.pointer (some ⟨E.bE, 0, none⟩)]) := h.cell 1039 (by omega)
theorem Raw.c_ident (h : Raw E w r) : w.cell? ⟨E.b, 1043, none⟩ = some E.ident := h.cell 1043 (by omega)
theorem Raw.c_file (h : Raw E w r) : w.cell? ⟨E.b, 1044, none⟩ = some (.string ⟨#[]⟩) := h.cell 1044 (by omega)
theorem Raw.c_buf (h : Raw E w r) (i : Nat) (hi : i < 1025) : w.cell? ⟨E.b, 1 + i, none⟩ = some (.int .u8 ((gb r.buf i : Nat) : Int)) := by
  rw [h.cell (1 + i) (by omega)]
  unfold rcell
  rw [if_neg (by omega), if_pos (by omega)]
  have hlt : i < r.buf.length := by rw [h.blen]; exact hi
  simp [gb, List.getD_eq_getElem?_getD, hlt]
theorem Raw.set_cnt (h : Raw E w r) (x : Int) : Raw E (w.setCell ⟨E.bC, 0, none⟩ (.int .i64 x)) { r with cnt := x } := by
  have hlow : ∀ j, j < E.B → (w.setCell ⟨E.bC, 0, none⟩ (.int .i64 x)).heap[j]? = w.heap[j]? := fun j hj => Below.heap_setCell _ _ _ _ (by have := h.BC; show j ≠ E.bC; omega)
  refine ⟨?_, h.blen, h.rd.of ?_ hlow rfl rfl, ?_, ?_, h.BR, h.BC, h.szs.of hlow, h.fr.setCell (.inr (.inr rfl)) h.BC _⟩
  · obtain ⟨hB, v, lr, hbk, hown, hne⟩ := h.buf
    refine ⟨hB, v, lr, hbk.of_heap (Below.heap_setCell _ _ _ _ (Ne.symm h.bC_ne)), ⟨hown.1, ?_⟩, hne⟩
    rcases hown.2 with hn | ⟨g, cap, cur, hv, hbg, hg, rest⟩
    · exact .inl hn
    · refine .inr ⟨g, cap, cur, hv, hbg, ?_, rest⟩
      rw [Below.heap_setCell]
      · exact hg
      · intro e; have h1 := h.cnt; have e1 : g = E.bC := e; rw [← e1, hg] at h1; cases h1
  · exact Below.heap_setCell _ _ _ _ (Ne.symm h.bC_ne_R)
  · exact Go.Lib.heap_setCell_same (i := 0) h.cnt _
  · rw [Below.heap_setCell _ _ _ _ h.bE_ne_C]; exact h.cap
theorem Raw.c_cnt (h : Raw E w r) : w.cell? ⟨E.bC, 0, none⟩ = some (.int .i64 r.cnt) := by rw [cell_of_heap h.cnt]; rfl
theorem Raw.c_cap (h : Raw E w r) : w.cell? ⟨E.bE, 0, none⟩ = some (.pointer (some ⟨E.bC, 0, none⟩)) := by rw [cell_of_heap h.cap]; rfl
theorem Raw.f_cnt (h : Raw E w r) : w.frozen? ⟨E.bC, 0, none⟩ = false := frozen_of_heap h.cnt 0
end
end Go.Proofs.YtmfihkgbfoapaaaDoor
namespace Go.Proofs.YtmfihkgbfoapaaaDoor
open Go Go.RowKit Go.Lib
set_option maxRecDepth 100000 in
set_option maxHeartbeats 400000 in
theorem count_spec (E : Env) (r : Regs) (w : World) (msg : ByteArray) (v : Value) (h : Raw E w r) :
    Calls Tryd.prog 64 #[v, .string msg, .pointer (some ⟨E.bE, 0, none⟩)] w fun e w' => e = .returned (.tuple #[]) ∧ Raw E w' { r with cnt := wrap64 (r.cnt + 1) } := by
  have c1 := h.c_cap
  have c2 := h.c_cnt
  have c3 := h.f_cnt
  go_enter Tryd.func64, Tryd.ntmps64
  go_wp2_with (fail)
  go_end0
  exact ⟨rfl, h.set_cnt _⟩
theorem neq_error (w : World) (a : Array Value) : (binOp .neq 105 (.func (.func 64) #[] a) .nilFunc).run Tryd.prog w = .ok (.bool true) w := by kernel_rfl
set_option maxRecDepth 100000 in
set_option maxHeartbeats 400000 in
theorem error_spec (E : Env) (r : Regs) (w : World) (msg : ByteArray) (h : Raw E w r) :
    Calls Tryd.prog 90 #[.pointer (some ⟨E.b, 0, none⟩), .string msg] w fun e w' => e = .returned (.tuple #[]) ∧
      Raw E w' { r with tokEnd := wrap64 (r.srcPos - r.lcl), ec := wrap64 (r.ec + 1), cnt := wrap64 (r.cnt + 1) } := by
  have c1 := h.c_srcPos
  have c2 := h.c_lcl
  have c3 := h.c_tokEnd
  have c4 := h.c_ec
  have c5 := h.c_error
  have hf := h.frozen
  have hn := neq_error
  have H := Lib.hid h
  clear h
  go_enter Tryd.func90, Tryd.ntmps90
  go_wp2_with (first
    | (refine wp_region_still_tail (id := 0) 10 (by kernel_rfl) (by kernel_rfl) ?_; simp only [List.take_succ_cons, List.take_zero, List.drop_succ_cons, List.drop_zero]; repeat still_step; try refine wpStill_nil ?_)
    | (go_at_call 64; refine (count_spec E _ _ _ _ ((H.out.set_tokEnd _).set_ec _).drew).mono ?_; rintro e w' ⟨rfl, h'⟩))
  exact bodyPost_ret (results_none rfl _ _ _) rfl ⟨rfl, h'⟩
end Go.Proofs.YtmfihkgbfoapaaaDoor
