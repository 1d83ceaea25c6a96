/- Own texts E5 of this claim, cut to what the claim uses. -/
import Derived.Test.YtmfihkgbfoapaaaDoorZE3
import Derived.Test.YtmfihkgbfoapaaaDoorZM1
namespace Go.Proofs.YtmfihkgbfoapaaaDoor
open Go Go.RowKit Go.Lib Go.BigFrame
def SrcAt (B : Nat) (w : World) (a : Option Addr) (k : Nat) (src : List UInt8) : Prop :=
  src.length ≤ k ∧ k ≤ maxLen ∧ (0 < src.length → ∃ g o, a = some ⟨g, o, none⟩ ∧ g < B ∧ ∀ j, j < src.length → w.cell? ⟨g, o + j, none⟩ = some (.int .u8 ((gb src j : Nat) : Int)))
def SzAt (B : Nat) (w : World) (a : Option Addr) (sz : List Int) : Prop :=
  sz.length ≤ maxLen ∧ (0 < sz.length → ∃ g o, a = some ⟨g, o, none⟩ ∧ g < B ∧ ∀ j, j < sz.length → w.cell? ⟨g, o + j, none⟩ = some (.int .i64 (sz.getD j 0)))
theorem SrcAt.of {B : Nat} {w w' : World} {a : Option Addr} {k : Nat} {src : List UInt8} (h : SrcAt B w a k src) (hb : ∀ k, k < B → w'.heap[k]? = w.heap[k]?) : SrcAt B w' a k src := by
  obtain ⟨h1, h2, h3⟩ := h
  refine ⟨h1, h2, fun h0 => ?_⟩
  obtain ⟨g, o, ha, hg, hc⟩ := h3 h0
  refine ⟨g, o, ha, hg, fun j hj => ?_⟩
  rw [← hc j hj]; unfold World.cell?; simp only [hb g hg]
theorem SzAt.of {B : Nat} {w w' : World} {a : Option Addr} {sz : List Int} (h : SzAt B w a sz) (hb : ∀ k, k < B → w'.heap[k]? = w.heap[k]?) : SzAt B w' a sz := by
  obtain ⟨h2, h3⟩ := h
  refine ⟨h2, fun h0 => ?_⟩
  obtain ⟨g, o, ha, hg, hc⟩ := h3 h0
  refine ⟨g, o, ha, hg, fun j hj => ?_⟩
  rw [← hc j hj]; unfold World.cell?; simp only [hb g hg]
def regs0 (src : List UInt8) : Regs :=
  { srcPos := 0, srcEnd := 0, off := 0, line := 1, col := 0, lll := 0, lcl := 0, tokPos := -1, tokEnd := 0, ch := -2, ec := 0, mode := 1012, white := 4294977024, offs := 0, ln := 0, co := 0, buf := 128 :: List.replicate 1024 0, tb := [], rem := src, calls := 0, cnt := 0 }
def x0 (mode white : Int) : Sx := { e := 0, ch := -2, mode := mode, white := white, offs := 0, ln := 0, co := 0, tok := none }
theorem initL_len (v : Value) : (initL v).length = 1048 := by
  unfold initL iTail; simp only [List.length_cons, List.length_append, List.length_replicate, List.length_nil]
set_option maxRecDepth 100000 in
theorem init_rcell (E : Env) (src : List UInt8) (cs : Array Value) (hc : cs = (initL (.iface 121 (.pointer (some ⟨E.bR, 0, none⟩)))).toArray.setIfInBounds 1039 (.func (.func 64) #[] #[.pointer (some ⟨E.bE, 0, none⟩)])) (hi : E.ident = .nilFunc) (i : Nat) (h : i < 1033 ∨ 1033 + 3 ≤ i) :
    cs[i]? = rcell E (regs0 src) i := by
  subst hc
  rw [Array.getElem?_setIfInBounds]
  by_cases h39 : 1039 = i
  · subst h39
    rw [if_pos rfl, if_pos (by rw [List.size_toArray, initL_len]; decide)]; rfl
  · rw [if_neg h39]
    simp only [List.getElem?_toArray]
    by_cases h0 : i = 0
    · subst h0; rfl
    · by_cases h1 : i = 1
      · subst h1; rfl
      · by_cases h2 : i ≤ 1025
        · obtain ⟨j, rfl⟩ : ∃ j, i = j + 2 := ⟨i - 2, by omega⟩
          unfold initL rcell
          rw [if_neg (by omega), if_pos h2]
          simp only [List.getElem?_cons_succ]
          rw [List.getElem?_append_left (by simp only [List.length_replicate]; omega), List.getElem?_replicate, if_pos (by omega)]
          unfold regs0
          simp only [show j + 2 - 1 = j + 1 by omega, List.getElem?_cons_succ, List.getElem?_replicate]
          rw [if_pos (by omega)]; rfl
        · by_cases h3 : i < 1048
          · have hx : i = 1026 ∨ i = 1027 ∨ i = 1028 ∨ i = 1029 ∨ i = 1030 ∨ i = 1031 ∨ i = 1032 ∨ i = 1036 ∨ i = 1037 ∨ i = 1038 ∨ i = 1040 ∨ i = 1041 ∨ i = 1042 ∨ i = 1043 ∨ i = 1044 ∨ i = 1045 ∨ i = 1046 ∨ i = 1047 := by omega
            rcases hx with rfl | rfl | rfl | rfl | rfl | rfl | rfl | rfl | rfl | rfl | rfl | rfl | rfl | rfl | rfl | rfl | rfl | rfl
            all_goals first
              | rfl
              | (unfold rcell; simp [hi]; rfl)
          · rw [List.getElem?_eq_none (by rw [initL_len]; omega)]
            unfold rcell
            repeat rw [if_neg (by omega)]
theorem raw_first {w : World} (E : Env) (src : List UInt8) (a1 a2 : Option Addr) (k1 k2 : Nat) (hE : E.w0 = w) (hi : E.ident = .nilFunc) (hz : E.szV = .slice a2 E.sz.length k2)
    (hb : w.heap[E.b]? = some (.cells ((initL (.iface 121 (.pointer (some ⟨E.bR, 0, none⟩)))).toArray.setIfInBounds 1039 (.func (.func 64) #[] #[.pointer (some ⟨E.bE, 0, none⟩)])) 111 (0, 0)))
    (hR : w.heap[E.bR]? = some (.cells #[.slice a1 src.length k1, .slice a2 E.sz.length k2, .int .i64 0] 123 (0, 0)))
    (hC : w.heap[E.bC]? = some (.cells #[.int .i64 0] 3 (0, 0))) (hP : w.heap[E.bE]? = some (.cells #[.pointer (some ⟨E.bC, 0, none⟩)] 93 (0, 0)))
    (B1 : E.B ≤ E.b) (B2 : E.B ≤ E.bR) (B3 : E.B ≤ E.bC) (hs : SrcAt E.B w a1 k1 src) (hsz : SzAt E.B w a2 E.sz) : Raw E w (regs0 src) := by
  refine ⟨?_, by unfold regs0; simp only [List.length_cons, List.length_replicate], ⟨a1, k1, ?_, hs.1, hs.2.1, hs.2.2⟩, hC, hP, B2, B3, ⟨a2, k2, hz, hsz.1, hsz.2⟩, ?_⟩
  · refine LibA.zero_isBuffer B1 (lr := 0) ⟨_, hb, ?_, ?_, ?_, init_rcell E src _ rfl hi⟩
    all_goals kernel_rfl
  · rw [hz]; exact hR
  · rw [← hE]; exact Fr.refl E
theorem rd_first {src : List UInt8} (hlen : Fits src) : Rd0 src (regs0 src) := by
  refine ⟨⟨0, 0, 0, ⟨rfl, rfl, rfl, Nat.le_refl _, by omega, by omega, fun j hj => by omega, rfl, rfl, ?_⟩, rfl⟩, rfl, rfl, rfl, rfl⟩
  unfold Fits at hlen
  unfold regs0; simp only; omega
theorem sl_first {E : Env} {w : World} {src : List UInt8} (hlen : Fits src) (h : Raw E w (regs0 src)) : Sl0 E src w (x0 1012 4294977024) :=
  ⟨regs0 src, h, rd_first hlen, ⟨by kernel_rfl, by kernel_rfl, rfl, rfl, rfl, rfl, rfl, rfl, rfl⟩⟩
end Go.Proofs.YtmfihkgbfoapaaaDoor
namespace Go.Proofs.YtmfihkgbfoapaaaDoor
open Go Go.RowKit Go.Lib Go.BigFrame
theorem four_blocks (w : World) (o1 o2 o3 o4 : Obj) {W : World} (hW : (((w.alloc o1).alloc o2).alloc o3).alloc o4 = W) :
    W.heap[w.heap.size]? = some o1 ∧ W.heap[w.heap.size + 1]? = some o2 ∧ W.heap[w.heap.size + 1 + 1]? = some o3 ∧ W.heap[w.heap.size + 1 + 1 + 1]? = some o4 ∧ Below w.heap.size w W ∧ W.heap.size = w.heap.size + 1 + 1 + 1 + 1 := by
  subst hW
  have s1 : (w.alloc o1).heap.size = w.heap.size + 1 := World.size_alloc _ _
  have s2 : ((w.alloc o1).alloc o2).heap.size = w.heap.size + 1 + 1 := by rw [World.size_alloc, s1]
  have s3 : (((w.alloc o1).alloc o2).alloc o3).heap.size = w.heap.size + 1 + 1 + 1 := by rw [World.size_alloc, s2]
  have s4 : ((((w.alloc o1).alloc o2).alloc o3).alloc o4).heap.size = w.heap.size + 1 + 1 + 1 + 1 := by rw [World.size_alloc, s3]
  refine ⟨?_, ?_, ?_, ?_, ?_, s4⟩
  · rw [Below.heap_alloc _ _ _ (by omega), Below.heap_alloc _ _ _ (by omega), Below.heap_alloc _ _ _ (by omega)]; exact heap_alloc_new w o1
  · rw [Below.heap_alloc _ _ _ (by omega), Below.heap_alloc _ _ _ (by omega), ← s1]; exact heap_alloc_new _ o2
  · rw [Below.heap_alloc _ _ _ (by omega), ← s2]; exact heap_alloc_new _ o3
  · rw [← s3]; exact heap_alloc_new _ o4
  · exact ((((Below.refl _ w).alloc (Nat.le_refl _) _).alloc (by omega) _).alloc (by omega) _).alloc (by omega) _
theorem wpOrd_nil {P : Program} {ops : Array Oper} {C : World → Prop} {Q : Act → Prop} {a : Act} (h : Q a) : wpOrd P ops C Q [] a := h
theorem wpSeq_nil {P : Program} {ops : Array Oper} {C : World → Prop} {Q : Act → World → Prop} {a : Act} {w : World} (h : Q a w) : wpSeqI P ops C Q [] a w := h
theorem Sl0.old {E : Env} {src : List UInt8} {w w1 : World} {x : Sx} (h : Sl0 E src w x) (hb : Below w.heap.size w w1) : Sl0 E src w1 x := by
  obtain ⟨r, h, h1, h2⟩ := h; exact ⟨r, h.old hb, h1, h2⟩
theorem Sl0.like {E : Env} {src : List UInt8} {w : World} {x : Sx} (h : Sl0 E src w x) (w1 : World) (e1 : w1.heap = w.heap) (e2 : w1.tape = w.tape) (e3 : w1.os = w.os) (e4 : w1.output = w.output) : Sl0 E src w1 x := by
  obtain ⟨r, h, h1, h2⟩ := h; exact ⟨r, h.like w1 e1 e2 e3 e4, h1, h2⟩
theorem Sl0.rebase {E : Env} {src : List UInt8} {w : World} {x : Sx} (h : Sl0 E src w x) : Sl0 (E.at w) src w x := by
  obtain ⟨r, h, h1, h2⟩ := h; exact ⟨r, h.rebase, h1, h2⟩
theorem Sl0.c_mode {E : Env} {src : List UInt8} {w : World} {x : Sx} (h : Sl0 E src w x) : w.cell? ⟨E.b, 1041, none⟩ = some (.int .u64 x.mode) := by
  obtain ⟨r, hR, _, hX⟩ := h; rw [hR.c_mode, hX.mode]
theorem Sl0.c_white {E : Env} {src : List UInt8} {w : World} {x : Sx} (h : Sl0 E src w x) : w.cell? ⟨E.b, 1042, none⟩ = some (.int .u64 x.white) := by
  obtain ⟨r, hR, _, hX⟩ := h; rw [hR.c_white, hX.white]
theorem Sl0.c_ident {E : Env} {src : List UInt8} {w : World} {x : Sx} (h : Sl0 E src w x) : w.cell? ⟨E.b, 1043, none⟩ = some E.ident := by
  obtain ⟨r, hR, _, hX⟩ := h; exact hR.c_ident
theorem rcell_ident (E : Env) (r : Regs) (v : Value) (w0 : World) : (fun j => if j = 1043 then some v else rcell E r j) = rcell { E with ident := v, w0 := w0 } r := by
  funext j; by_cases h : j = 1043 <;> simp [rcell, h]
theorem Raw.set_ident {E : Env} {w : World} {r : Regs} (h : Raw E w r) (v : Value) : Raw { E with ident := v, w0 := w.setCell ⟨E.b, 1043, none⟩ v } (w.setCell ⟨E.b, 1043, none⟩ v) r := by
  have hb := h.buf.setOther 1043 (by omega) (old := E.ident) rfl v
  rw [rcell_ident E r v (w.setCell ⟨E.b, 1043, none⟩ v)] at hb
  have hlow : ∀ j, j < E.B → (w.setCell ⟨E.b, 1043, none⟩ v).heap[j]? = w.heap[j]? := fun j hj => Below.heap_setCell _ _ _ _ (by have := h.Bb; show j ≠ E.b; omega)
  refine ⟨hb, h.blen, ?_, ?_, ?_, h.BR, h.BC, ?_, Fr.refl _⟩
  · exact h.rd.of (E := E) (Below.heap_setCell _ _ _ _ h.bR_ne) hlow rfl rfl
  · rw [Below.heap_setCell _ _ _ _ h.bC_ne]; exact h.cnt
  · rw [Below.heap_setCell _ _ _ _ h.bE_ne]; exact h.cap
  · exact h.szs.of hlow
theorem Sl0.set_ident {E : Env} {src : List UInt8} {w : World} {x : Sx} (h : Sl0 E src w x) (v : Value) : Sl0 { E with ident := v, w0 := w.setCell ⟨E.b, 1043, none⟩ v } src (w.setCell ⟨E.b, 1043, none⟩ v) x := by
  obtain ⟨r, h, h1, h2⟩ := h; exact ⟨r, h.set_ident v, h1, h2⟩
def setCells (d : Bool) (m wh : Int) (cu : Bool) (f1 f2 : ByteArray) : Array Value := #[.bool d, .int .i64 m, .int .u64 wh, .bool cu, .string f1, .string f2]
def Started (B p : Nat) (src : List UInt8) (w : World) (d : Bool) (m wh : Int) (cu : Bool) (f1 f2 : ByteArray) (M : Int) (e : Ending) (w' : World) : Prop :=
  ∃ E : Env, e = .returned (.pointer (some ⟨E.b, 0, none⟩)) ∧ E.B = B ∧ E.bC = p ∧ E.w0 = w' ∧ w.heap.size ≤ E.b ∧ w.heap.size ≤ E.bR ∧ Below w.heap.size w w' ∧
    Sl0 E src w' (x0 (if d = true then 1012 else M) (if d = true then 4294977024 else wh)) ∧
    ((d = true ∨ cu = false) → E.ident = .nilFunc) ∧
    (d = false → cu = true → ∃ g, E.ident = .func (.func 65) #[] #[.pointer (some ⟨g, 0, none⟩)] ∧ w'.heap[g]? = some (.cells (setCells d m wh cu f1 f2) 25 (0, 0)) ∧ g ≠ E.b ∧ g ≠ E.bR ∧ g ≠ E.bC)
set_option maxRecDepth 100000 in
set_option maxHeartbeats 1600000 in
theorem start_spec (w : World) (B p : Nat) (a1 a2 : Option Addr) (k1 k2 : Nat) (src : List UInt8) (sz : List Int) (d : Bool) (m wh : Int) (cu : Bool) (f1 f2 : ByteArray) (k : Nat) (M : Int) (hM : K.impl_mode.f k m = some M)
    (hp : w.heap[p]? = some (.cells #[.int .i64 0] 3 (0, 0))) (hBp : B ≤ p) (hs : SrcAt B w a1 k1 src) (hsz : SzAt B w a2 sz) (hlen : Fits src) :
    Calls Tryd.prog 43 #[.slice a1 src.length k1, .slice a2 sz.length k2, .agg #[.bool d, .int .i64 m, .int .u64 wh, .bool cu, .string f1, .string f2], .pointer (some ⟨p, 0, none⟩)] w
      (Started B p src w d m wh cu f1 f2 M) := by
  have hpl := lt_of_heap hp
  go_enter Tryd.func43, Tryd.ntmps43
  go_wp2_with (fail)
  obtain ⟨W, hW⟩ : ∃ W, (((w.alloc (Obj.cells #[.bool d, .int .i64 m, .int .u64 wh, .bool cu, .string f1, .string f2] 25)).alloc (Obj.cells #[Value.pointer (some { block := p, off := 0 })] 93)).alloc (Obj.cells Tryd.zeroCells111 111)).alloc
    (Obj.cells #[Value.slice a1 src.length k1, Value.slice a2 sz.length k2, Value.int IntKind.i64 0] 123) = W := ⟨_, rfl⟩
  rw [hW]
  obtain ⟨t1, t2, t3, t4, t5, t6⟩ := four_blocks _ _ _ _ _ hW
  clear hW
  have hne : w.heap.size + 1 + 1 ≠ p := by omega
  obtain ⟨b, hb⟩ : ∃ b, w.heap.size + 1 + 1 = b := ⟨_, rfl⟩
  obtain ⟨bE, hbE⟩ : ∃ b, w.heap.size + 1 = b := ⟨_, rfl⟩
  obtain ⟨gS, hgS⟩ : ∃ b, w.heap.size = b := ⟨_, rfl⟩
  obtain ⟨bR, hbR⟩ : ∃ r, b + 1 = r := ⟨_, rfl⟩
  rw [hb, hbR] at t4
  rw [hb] at t3 hne
  rw [hb, hbR]
  rw [hbE] at t2 ⊢
  rw [hgS] at t1 ⊢
  refine (init_spec _ _ _ t3).mono ?_
  rintro e w5 ⟨rfl, hw5⟩
  have u3 := initW_heap (.iface 121 (.pointer (some ⟨bR, 0, none⟩))) t3
  have u1 := (initW_other W b (.iface 121 (.pointer (some ⟨bR, 0, none⟩))) gS (by omega)).trans t1
  have u2 := (initW_other W b (.iface 121 (.pointer (some ⟨bR, 0, none⟩))) bE (by omega)).trans t2
  have u4 := (initW_other W b (.iface 121 (.pointer (some ⟨bR, 0, none⟩))) bR (by omega)).trans t4
  have u5 := t5.trans ((initW_below W b (.iface 121 (.pointer (some ⟨bR, 0, none⟩)))).mono (by omega))
  rw [← hw5] at u1 u2 u3 u4 u5
  clear t1 t2 t3 t4 t5 t6 hw5
  have c39 : w5.cell? ⟨b, 1039, none⟩ = some .nilFunc := (cell_of_heap u3 1039).trans (by kernel_rfl)
  have hf : ∀ i, w5.frozen? ⟨b, i, none⟩ = false := frozen_of_heap u3
  have U := Lib.hid (And.intro u1 (And.intro u2 (And.intro u3 (And.intro u4 u5))))
  clear u1 u2 u3 u4 u5
  go_upto_region 3 with (fail)
  obtain ⟨u1, u2, u3, u4, u5⟩ := U.out
  have v3 := Go.Lib.heap_setCell_same (i := 1039) u3 (.func (.func 64) #[] #[.pointer (some ⟨bE, 0, none⟩)])
  have v1 := (Below.heap_setCell w5 ⟨b, 1039, none⟩ (.func (.func 64) #[] #[.pointer (some ⟨bE, 0, none⟩)]) gS (by show gS ≠ b; omega)).trans u1
  have v2 := (Below.heap_setCell w5 ⟨b, 1039, none⟩ (.func (.func 64) #[] #[.pointer (some ⟨bE, 0, none⟩)]) bE (by show bE ≠ b; omega)).trans u2
  have v4 := (Below.heap_setCell w5 ⟨b, 1039, none⟩ (.func (.func 64) #[] #[.pointer (some ⟨bE, 0, none⟩)]) bR (by show bR ≠ b; omega)).trans u4
  have v5 := u5.setCell (p := ⟨b, 1039, none⟩) (by show w.heap.size ≤ b; omega) (.func (.func 64) #[] #[.pointer (some ⟨bE, 0, none⟩)])
  clear c39 hf U u1 u2 u3 u4 u5
  generalize w5.setCell ⟨b, 1039, none⟩ (.func (.func 64) #[] #[.pointer (some ⟨bE, 0, none⟩)]) = w6 at v1 v2 v3 v4 v5 ⊢
  have hlow : ∀ k, k < B → w6.heap[k]? = w.heap[k]? := fun k hk => v5.block k (by omega)
  have S0 := sl_first hlen (raw_first (w := w6) { b := b, bR := bR, bC := p, bE := bE, B := B, w0 := w6, szV := .slice a2 sz.length k2, sz := sz, ident := .nilFunc } src a1 a2 k1 k2 rfl rfl rfl v3 v4 ((v5.block p hpl).trans hp) v2 (by show B ≤ b; omega) (by show B ≤ bR; omega) hBp (hs.of hlow) (hsz.of hlow))
  have HN := Lib.hid (show w.heap.size ≤ b ∧ w.heap.size ≤ bR ∧ gS ≠ b ∧ gS ≠ bR ∧ gS ≠ p ∧ gS < w6.heap.size from ⟨by omega, by omega, by omega, by omega, by omega, lt_of_heap v1⟩)
  have hgb : ¬ gS = b := by omega
  have hbg : ¬ b = gS := by omega
  have c0 : w6.cell? ⟨gS, 0, none⟩ = some (.bool d) := (cell_of_heap v1 0).trans rfl
  have S := Lib.hid S0
  have V5 := Lib.hid v5
  have V1 := Lib.hid v1
  clear S0 v1 v2 v3 v4 v5 hlow hp hs hsz hne
  cases d with
  | true =>
    go_wp2_with (fail)
    go_ret
    exact ⟨_, rfl, rfl, rfl, rfl, HN.out.1, HN.out.2.1, V5.out, S.out, fun _ => rfl, fun h => by cases h⟩
  | false =>
    go_upto_region 5 with (fail)
    refine wp_region_ord (fun w' => w'.heap[gS]? = some (.cells (setCells false m wh cu f1 f2) 25 (0, 0))) [0, 1, 2, 3, 5, 6] [4, 7, 8, 9, 10, 11, 12] (by kernel_rfl) (by kernel_rfl) V1.out ?_
    have hcls : ∀ w' : World, w'.heap[gS]? = some (.cells (setCells false m wh cu f1 f2) 25 (0, 0)) → w'.cell? ⟨gS, 1, none⟩ = some (.int .i64 m) ∧ w'.cell? ⟨gS, 2, none⟩ = some (.int .u64 wh) := fun w' h => ⟨(cell_of_heap h 1).trans rfl, (cell_of_heap h 2).trans rfl⟩
    rw [wpOrd]
    simp only [List.getElem?_toArray, List.getElem?_cons_zero]
    refine wpQuiet_want rfl ?_
    intro K hK
    refine ⟨.pointer (some ⟨b, 0, none⟩), fun w' hw' => ?_, hK _ ?_⟩
    · obtain ⟨c1, c2⟩ := hcls w' hw'
      unfold Oper.quietAt
      go_simp
    clear hK K
    refine wpQuiet_nil ?_
    rw [wpOrd]
    simp only [List.getElem?_toArray, List.getElem?_cons_zero, List.getElem?_cons_succ]
    refine wpQuiet_want rfl ?_
    intro K hK
    refine ⟨.pointer (some ⟨b, 0, none⟩), fun w' hw' => ?_, hK _ ?_⟩
    · obtain ⟨c1, c2⟩ := hcls w' hw'
      unfold Oper.quietAt
      go_simp
    clear hK K
    refine wpQuiet_nil ?_
    rw [wpOrd]
    simp only [List.getElem?_toArray, List.getElem?_cons_zero, List.getElem?_cons_succ]
    refine wpQuiet_want rfl ?_
    intro K hK
    refine ⟨.pointer (some ⟨gS, 1, none⟩), fun w' hw' => ?_, hK _ ?_⟩
    · obtain ⟨c1, c2⟩ := hcls w' hw'
      unfold Oper.quietAt
      go_simp
    clear hK K
    refine wpQuiet_nil ?_
    rw [wpOrd]
    simp only [List.getElem?_toArray, List.getElem?_cons_zero, List.getElem?_cons_succ]
    refine wpQuiet_want rfl ?_
    intro K hK
    refine ⟨.int .i64 m, fun w' hw' => ?_, hK _ ?_⟩
    · obtain ⟨c1, c2⟩ := hcls w' hw'
      unfold Oper.quietAt
      go_simp
    clear hK K
    refine wpQuiet_nil ?_
    rw [wpOrd]
    simp only [List.getElem?_toArray, List.getElem?_cons_zero, List.getElem?_cons_succ]
    refine wpQuiet_want rfl ?_
    intro K hK
    refine ⟨.pointer (some ⟨gS, 2, none⟩), fun w' hw' => ?_, hK _ ?_⟩
    · obtain ⟨c1, c2⟩ := hcls w' hw'
      unfold Oper.quietAt
      go_simp
    clear hK K
    refine wpQuiet_nil ?_
    rw [wpOrd]
    simp only [List.getElem?_toArray, List.getElem?_cons_zero, List.getElem?_cons_succ]
    refine wpQuiet_want rfl ?_
    intro K hK
    refine ⟨.int .u64 wh, fun w' hw' => ?_, hK _ ?_⟩
    · obtain ⟨c1, c2⟩ := hcls w' hw'
      unfold Oper.quietAt
      go_simp
    clear hK K
    refine wpQuiet_nil ?_
    refine wpOrd_nil ?_
    have cl : ∀ (w' w'' : World), Below w'.heap.size w' w'' → w'.heap[gS]? = some (.cells (setCells false m wh cu f1 f2) 25 (0, 0)) → w''.heap[gS]? = some (.cells (setCells false m wh cu f1 f2) 25 (0, 0)) := fun w' w'' hb h => (hb.block gS (lt_of_heap h)).trans h
    have cs : ∀ (w' : World) (k : Nat) (v : Value), w'.heap[gS]? = some (.cells (setCells false m wh cu f1 f2) 25 (0, 0)) → (w'.setCell ⟨b, k, none⟩ v).heap[gS]? = some (.cells (setCells false m wh cu f1 f2) 25 (0, 0)) := fun w' k v h => (Below.heap_setCell _ _ _ _ (by show gS ≠ b; exact hgb)).trans h
    clear hcls c0
    have V1' : w6.drew.heap[gS]? = some (.cells (setCells false m wh cu f1 f2) 25 (0, 0)) := V1.out
    have S' := S.out.like w6.drew rfl rfl rfl rfl
    have V5' : Below w.heap.size w w6.drew := V5.out.drew
    generalize w6.drew = w7 at V1' S' V5' ⊢
    rw [wpSeqI]
    simp only [List.getElem?_toArray, List.getElem?_cons_zero, List.getElem?_cons_succ]
    go_wp2_with (first
      | (go_at_call 54; refine (K.impl_mode.calls k m M _ hM).mono ?_; rintro e w8 ⟨rfl, hb8⟩))
    have S8 := S'.old hb8
    have V8 := V5'.trans (hb8.mono (by have := V5'.size; omega))
    have C8 := cl _ _ hb8 V1'
    refine ⟨C8, ?_⟩
    have c1 := S8.c_mode
    have c2 := S8.c_white
    have hf := S8.frozen
    have S9 := Lib.hid (show Sl0 _ src ((w8.setCell ⟨b, 1041, none⟩ (.int .u64 M)).setCell ⟨b, 1042, none⟩ (.int .u64 wh)) _ from (S8.set_mode M).set_white wh)
    have V9 := Lib.hid ((V8.setCell (p := ⟨b, 1041, none⟩) (by show w.heap.size ≤ b; exact HN.out.1) (.int .u64 M)).setCell (p := ⟨b, 1042, none⟩) (by show w.heap.size ≤ b; exact HN.out.1) (.int .u64 wh))
    have C8' := Lib.hid C8
    have CS := Lib.hid cs
    clear S8 V8 C8 S' V5' V1' hb8 cl cs S
    rw [wpSeqI]
    simp only [List.getElem?_toArray, List.getElem?_cons_zero, List.getElem?_cons_succ]
    go_wp2_with (fail)
    refine ⟨C8'.out, ?_⟩
    rw [wpSeqI]
    simp only [List.getElem?_toArray, List.getElem?_cons_zero, List.getElem?_cons_succ]
    go_wp2_with (fail)
    refine ⟨C8'.out, ?_⟩
    rw [wpSeqI]
    simp only [List.getElem?_toArray, List.getElem?_cons_zero, List.getElem?_cons_succ]
    go_wp2_with (fail)
    refine ⟨(CS.out _ 1041 _ C8'.out), ?_⟩
    rw [wpSeqI]
    simp only [List.getElem?_toArray, List.getElem?_cons_zero, List.getElem?_cons_succ]
    go_wp2_with (fail)
    refine ⟨(CS.out _ 1041 _ C8'.out), ?_⟩
    rw [wpSeqI]
    simp only [List.getElem?_toArray, List.getElem?_cons_zero, List.getElem?_cons_succ]
    go_wp2_with (fail)
    refine ⟨(CS.out _ 1041 _ C8'.out), ?_⟩
    rw [wpSeqI]
    simp only [List.getElem?_toArray, List.getElem?_cons_zero, List.getElem?_cons_succ]
    go_wp2_with (fail)
    refine ⟨(CS.out _ 1042 _ (CS.out _ 1041 _ C8'.out)), ?_⟩
    refine wpSeq_nil ?_
    have hC : Hid (((w8.setCell ⟨b, 1041, none⟩ (.int .u64 M)).setCell ⟨b, 1042, none⟩ (.int .u64 wh)).heap[gS]? = some (.cells (setCells false m wh cu f1 f2) 25 (0, 0))) := Lib.hid (CS.out _ 1042 _ (CS.out _ 1041 _ C8'.out))
    clear c1 c2 hf C8' CS
    generalize (w8.setCell ⟨b, 1041, none⟩ (.int .u64 M)).setCell ⟨b, 1042, none⟩ (.int .u64 wh) = w9 at S9 V9 hC ⊢
    have c0 : w9.cell? ⟨gS, 3, none⟩ = some (.bool cu) := (cell_of_heap hC.out 3).trans rfl
    cases cu with
    | false =>
      go_wp2_with (fail)
      go_ret
      exact ⟨_, rfl, rfl, rfl, rfl, HN.out.1, HN.out.2.1, V9.out, S9.out.rebase, fun _ => rfl, fun _ h => by cases h⟩
    | true =>
      have c1 := S9.out.c_ident
      have hf := S9.out.frozen
      go_wp2_with (fail)
      go_ret
      refine ⟨_, rfl, rfl, rfl, rfl, HN.out.1, HN.out.2.1, V9.out.setCell (p := ⟨b, 1043, none⟩) (by show w.heap.size ≤ b; exact HN.out.1) _, S9.out.set_ident _, ?_, ?_⟩
      · rintro (h | h) <;> cases h
      · intro _ _
        exact ⟨gS, rfl, (Below.heap_setCell _ _ _ _ (by show gS ≠ b; exact hgb)).trans hC.out, HN.out.2.2.1, HN.out.2.2.2.1, HN.out.2.2.2.2.1⟩
end Go.Proofs.YtmfihkgbfoapaaaDoor
