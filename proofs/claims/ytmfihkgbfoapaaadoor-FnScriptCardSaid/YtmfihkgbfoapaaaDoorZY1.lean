/- Own texts Y1 of this claim, cut to what the claim uses. -/
import Derived.Test.YtmfihkgbfoapaaaDoorZV5
namespace Go.Proofs.YtmfihkgbfoapaaaDoor
set_option linter.unusedVariables false
set_option linter.unusedSimpArgs false
open Go Go.RowKit Go.Lib Go.BigFrame Go.Proofs.YtmfihkgbfoapaaaDoorW.PrintWords
def ScriptPost (w : World) (I : Idr) (src : List UInt8) (z : Ss) (n : Nat) (ps : List K.S66) (e : Ending) (w' : World) : Prop :=
  ∃ A c, e = .returned (.slice A n c) ∧ Kd.C K.k37 w' A n (Ss.run I src z ps) ∧ Below w.heap.size w w'
theorem script_atn (w0 w : World) (a1 a2 a3 : Option Addr) (k1 k2 k3 n2 n3 : Nat) (src : List UInt8) (sz : List Int) (s : Stp) (ps : List K.S66) (hn2 : sz.length = n2) (hn3 : ps.length = n3) (h : s.Ok) (hb : Below w0.heap.size w0 w)
    (hs : SrcAt w0.heap.size w0 a1 k1 src) (hsz : SzAt w.heap.size w a2 sz) (hps : Kd.C K.k66 w a3 ps.length ps) (hpl : ps.length ≤ 2147483647) (hpo : ∀ p ∈ ps, okStep p) (hl : src.length ≤ 10000000000) (hv : Vars w0.heap.size w0) :
    Calls Tryd.prog 34 #[.slice a1 src.length k1, .slice a2 n2 k2, .agg #[.bool s.d, .int .i64 s.m, .int .u64 s.wh, .bool s.cu, .string s.f1, .string s.f2], .slice a3 n3 k3] w (ScriptPost w s.cfg.I src (Ss.init src s.cfg.mode s.cfg.white) n3 ps) := by
  subst hn2 hn3
  refine (script_run w a1 a2 a3 k1 k2 k3 src sz s ps h (hs.up hb hb.size) hsz hps hpl hpo (by unfold Fits; omega) hl ((hv.move hb).mono hb.size)).mono ?_
  rintro e w' ⟨v, rfl, hR, hb'⟩
  obtain ⟨A, c, rfl, hc, hC⟩ := Kd.R_reads hR
  rw [Ss.run_len] at hC ⊢
  exact ⟨A, c, rfl, hC, hb'⟩
def dfl : Stp := ⟨true, 0, 0, false, ⟨#[]⟩, ⟨#[]⟩⟩
theorem dfl_ok : dfl.Ok := ⟨by decide, by decide, by decide, by decide⟩
theorem box8 {w : World} {q : Nat} {t : TypeId} {a0 a1 a2 a3 a4 a5 a6 a7 : Value} (h : w.heap[q]? = some (.cells #[a0, a1, a2, a3, a4, a5, a6, a7] t (0, 0))) (b0 b1 b2 b3 b4 b5 b6 b7 : Value) {W : World}
    (hW : (((((((w.setCell ⟨q, 0, none⟩ b0).setCell ⟨q, 1, none⟩ b1).setCell ⟨q, 2, none⟩ b2).setCell ⟨q, 3, none⟩ b3).setCell ⟨q, 4, none⟩ b4).setCell ⟨q, 5, none⟩ b5).setCell ⟨q, 6, none⟩ b6).setCell ⟨q, 7, none⟩ b7 = W) :
    W.heap[q]? = some (.cells #[b0, b1, b2, b3, b4, b5, b6, b7] t (0, 0)) ∧ Below q w W ∧ W.heap.size = w.heap.size := by
  subst hW
  have h2 : (w.setCell ⟨q, 0, none⟩ b0).heap[q]? = some (.cells #[b0, a1, a2, a3, a4, a5, a6, a7] t (0, 0)) := Go.Lib.heap_setCell_same (i := 0) h b0
  have h3 : ((w.setCell ⟨q, 0, none⟩ b0).setCell ⟨q, 1, none⟩ b1).heap[q]? = some (.cells #[b0, b1, a2, a3, a4, a5, a6, a7] t (0, 0)) := Go.Lib.heap_setCell_same (i := 1) h2 b1
  have h4 : (((w.setCell ⟨q, 0, none⟩ b0).setCell ⟨q, 1, none⟩ b1).setCell ⟨q, 2, none⟩ b2).heap[q]? = some (.cells #[b0, b1, b2, a3, a4, a5, a6, a7] t (0, 0)) := Go.Lib.heap_setCell_same (i := 2) h3 b2
  have h5 : ((((w.setCell ⟨q, 0, none⟩ b0).setCell ⟨q, 1, none⟩ b1).setCell ⟨q, 2, none⟩ b2).setCell ⟨q, 3, none⟩ b3).heap[q]? = some (.cells #[b0, b1, b2, b3, a4, a5, a6, a7] t (0, 0)) := Go.Lib.heap_setCell_same (i := 3) h4 b3
  have h6 : (((((w.setCell ⟨q, 0, none⟩ b0).setCell ⟨q, 1, none⟩ b1).setCell ⟨q, 2, none⟩ b2).setCell ⟨q, 3, none⟩ b3).setCell ⟨q, 4, none⟩ b4).heap[q]? = some (.cells #[b0, b1, b2, b3, b4, a5, a6, a7] t (0, 0)) := Go.Lib.heap_setCell_same (i := 4) h5 b4
  have h7 : ((((((w.setCell ⟨q, 0, none⟩ b0).setCell ⟨q, 1, none⟩ b1).setCell ⟨q, 2, none⟩ b2).setCell ⟨q, 3, none⟩ b3).setCell ⟨q, 4, none⟩ b4).setCell ⟨q, 5, none⟩ b5).heap[q]? = some (.cells #[b0, b1, b2, b3, b4, b5, a6, a7] t (0, 0)) := Go.Lib.heap_setCell_same (i := 5) h6 b5
  have h8 : (((((((w.setCell ⟨q, 0, none⟩ b0).setCell ⟨q, 1, none⟩ b1).setCell ⟨q, 2, none⟩ b2).setCell ⟨q, 3, none⟩ b3).setCell ⟨q, 4, none⟩ b4).setCell ⟨q, 5, none⟩ b5).setCell ⟨q, 6, none⟩ b6).heap[q]? = some (.cells #[b0, b1, b2, b3, b4, b5, b6, a7] t (0, 0)) := Go.Lib.heap_setCell_same (i := 6) h7 b6
  have h9 : ((((((((w.setCell ⟨q, 0, none⟩ b0).setCell ⟨q, 1, none⟩ b1).setCell ⟨q, 2, none⟩ b2).setCell ⟨q, 3, none⟩ b3).setCell ⟨q, 4, none⟩ b4).setCell ⟨q, 5, none⟩ b5).setCell ⟨q, 6, none⟩ b6).setCell ⟨q, 7, none⟩ b7).heap[q]? = some (.cells #[b0, b1, b2, b3, b4, b5, b6, b7] t (0, 0)) := Go.Lib.heap_setCell_same (i := 7) h8 b7
  refine ⟨h9, ?_, by simp only [World.size_setCell]⟩
  exact Below.setCell (p := ⟨q, _, none⟩) (Below.setCell (p := ⟨q, _, none⟩) (Below.setCell (p := ⟨q, _, none⟩) (Below.setCell (p := ⟨q, _, none⟩) (Below.setCell (p := ⟨q, _, none⟩) (Below.setCell (p := ⟨q, _, none⟩) (Below.setCell (p := ⟨q, _, none⟩) (Below.setCell (p := ⟨q, _, none⟩) (Below.refl q w) (Nat.le_refl q) _) (Nat.le_refl q) _) (Nat.le_refl q) _) (Nat.le_refl q) _) (Nat.le_refl q) _) (Nat.le_refl q) _) (Nat.le_refl q) _) (Nat.le_refl q) _
theorem row_spot {w : World} {A : Option Addr} {n : Nat} {xs : List K.S37} (h : Kd.C K.k37 w A n xs) (hn : 0 < n) : ∃ g o, A = some ⟨g, o, none⟩ := by
  obtain ⟨⟨g, o, spot⟩, e, x0, -⟩ := K.at_T37 h 0 (by omega) (by omega)
  have hspot : spot = none := by simpa [Addr.add] using World.cell?_spot x0
  exact ⟨g, o, by rw [e, hspot]⟩
theorem row_reads {w : World} {g o n : Nat} {xs : List K.S37} (h : Kd.C K.k37 w (some ⟨g, o, none⟩) n xs) (i : Nat) (hi : i < n) {t0 : Int} {t1 : ByteArray} {t2 t3 t4 t5 t6 t7 : Int} (ht : K.rd_T37 xs (i : Int) = ⟨t0, t1, ⟨t2, t3, t4⟩, ⟨t5, t6, t7⟩⟩) :
    w.cell? ⟨g, o + i * 8, none⟩ = some (.int .i64 t0) ∧ w.cell? ⟨g, o + i * 8 + 1, none⟩ = some (.string t1) ∧ w.cell? ⟨g, o + i * 8 + 2, none⟩ = some (.int .i64 t2) ∧ w.cell? ⟨g, o + i * 8 + 3, none⟩ = some (.int .i64 t3) ∧ w.cell? ⟨g, o + i * 8 + 4, none⟩ = some (.int .i64 t4) ∧ w.cell? ⟨g, o + i * 8 + 5, none⟩ = some (.int .i64 t5) ∧ w.cell? ⟨g, o + i * 8 + 6, none⟩ = some (.int .i64 t6) ∧ w.cell? ⟨g, o + i * 8 + 7, none⟩ = some (.int .i64 t7) := by
  obtain ⟨ad, e, x0, x1, x2, x3, x4, x5, x6, x7⟩ := K.at_T37 h (i : Int) (by omega) (by omega)
  injection e with e
  subst e
  rw [ht] at x0 x1 x2 x3 x4 x5 x6 x7
  simp only [Int.toNat_natCast, Addr.add_lit] at x0 x1 x2 x3 x4 x5 x6 x7
  exact ⟨x0, x1, x2, x3, x4, x5, x6, x7⟩
theorem box8_loads {W : World} {q : Nat} {t : TypeId} {b0 b1 b2 b3 b4 b5 b6 b7 : Value} (h : W.heap[q]? = some (.cells #[b0, b1, b2, b3, b4, b5, b6, b7] t (0, 0))) :
    W.cell? ⟨q, 0, none⟩ = some b0 ∧ W.cell? ⟨q, 5, none⟩ = some b5 ∧ W.cell? ⟨q, 6, none⟩ = some b6 ∧ W.cell? ⟨q, 7, none⟩ = some b7 :=
  ⟨(cell_of_heap h 0).trans rfl, (cell_of_heap h 5).trans rfl, (cell_of_heap h 6).trans rfl, (cell_of_heap h 7).trans rfl⟩
end Go.Proofs.YtmfihkgbfoapaaaDoor
