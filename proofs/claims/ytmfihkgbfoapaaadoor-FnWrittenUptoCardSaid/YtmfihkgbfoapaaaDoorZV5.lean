/- Own texts U7 V5 V6 V7 V8 Y1 Q4 of this claim, cut to what the claim uses. -/
import Derived.Test.YtmfihkgbfoapaaaDoorZU2
import Derived.Test.YtmfihkgbfoapaaaDoorZM1
import Derived.Test.YtmfihkgbfoapaaaDoorZK0
import Derived.Test.YtmfihkgbfoapaaaDoorZQ1
import Derived.Deep.Upon
import Derived.Lib.SlBytesConst
namespace Go.Proofs.YtmfihkgbfoapaaaDoor
set_option linter.unusedVariables false
set_option linter.unusedSimpArgs false
open Go Go.RowKit Go.Lib Go.BigFrame Go.Proofs.YtmfihkgbfoapaaaDoorW.PrintWords
def nulText (src src2 : List UInt8) : List UInt8 := src ++ 0 :: src2
theorem inf5 : (Tryd.prog.info? 5).map (fun i => (i.zero, i.size, i.bytes)) = some (some (.int .u8 0), 1, 1) := by kernel_rfl
structure NulSt (n : Nat) (w1 : World) (a : Option Addr) (k : Nat) (src : List UInt8) (a2 : Option Addr) (k2 : Nat) (src2 : List UInt8) (s F : Stp) (L : Nat → Bool) (u7 u8 u9 u23 u24 u25 u26 u27 u28 u29 u30 u31 u32 u33 u34 u35 u36 : Value) (w : World) : Prop where
  below : Below w1.heap.size w1 w
  o42 : L 4 = true → L 2 = true
  o43 : L 4 = true → L 3 = true
  o64 : L 6 = true → L 4 = true
  f25 : L 1 = true → u25 = .slice a src.length k
  f29 : L 5 = true → u29 = .slice a2 src2.length k2
  f31 : L 7 = true → u31 = .agg #[.bool s.d, .int .i64 s.m, .int .u64 s.wh, .bool s.cu, .string s.f1, .string s.f2]
  f32 : L 8 = true → u32 = .agg #[.bool F.d, .int .i64 F.m, .int .u64 F.wh, .bool F.cu, .string F.f1, .string F.f2]
  row0 : L 0 = true → L 2 = false → Kd.R (Kd.int .u8) 5 w w1.heap.size (fun _ => True) u24 []
  row2 : L 2 = true → L 4 = false → Kd.R (Kd.int .u8) 5 w w1.heap.size (fun _ => True) u26 (ints src)
  row4 : L 4 = true → L 6 = false → Kd.R (Kd.int .u8) 5 w w1.heap.size (fun _ => True) u28 (ints src ++ ints [0])
  row6 : L 6 = true → Kd.R (Kd.int .u8) 5 w w1.heap.size (fun _ => True) u30 (ints src ++ ints [0] ++ ints src2)
  zero : L 3 = true → L 4 = false → ∃ g, u27 = .slice (some ⟨g, 0, none⟩) 1 1 ∧ w1.heap.size ≤ g ∧ w.heap[g]? = some (.cells #[.int .u8 0] 5 (0, 0)) ∧ (L 0 = true → L 2 = false → u24.ownBlock ≠ some g) ∧ (L 2 = true → u26.ownBlock ≠ some g)
  f33 : L 9 = true → ∃ v, u33 = .tuple #[v, .int .i64 (errNum F.cfg (nulText src src2) : Nat), .int .i64 (errNum F.cfg (nulText src src2) : Nat)]
  f23 : L 10 = true → ∃ v, u23 = .tuple #[v, .int .i64 (errNum F.cfg (nulText src src2) : Nat), .int .i64 (errNum F.cfg (nulText src src2) : Nat)]
  f35 : L 12 = true → u35 = .int .i64 (errNum F.cfg (nulText src src2) : Nat)
  g8 : L 15 = true → u8 = .int .i64 (errNum F.cfg (nulText src src2) : Nat)
end Go.Proofs.YtmfihkgbfoapaaaDoor
namespace Go.Proofs.YtmfihkgbfoapaaaDoor
set_option linter.unusedVariables false
set_option linter.unusedSimpArgs false
open Go Go.RowKit Go.Lib Go.BigFrame Go.Proofs.YtmfihkgbfoapaaaDoorW.PrintWords
structure Ss where
  l : List Item
  fr : Bool
  mode : Int
  white : Int
  offs : Int
  ln : Int
  co : Int
def Ss.pos (src : List UInt8) (s : Ss) : K.S35 := if s.fr = true then ⟨0, 1, 1⟩ else ⟨(offOf src s.l : Nat), (lineAt src s.l : Nat), (colAt src s.l : Nat)⟩
def Ss.step (I : Idr) (src : List UInt8) (s : Ss) (p : K.S66) : Ss × Int × ByteArray :=
  if p.f0 = 0 then (⟨(scanGo ⟨s.mode, s.white, I⟩ src s.l).l, false, s.mode, s.white, (offOf src (scanGo ⟨s.mode, s.white, I⟩ src s.l).at_ : Nat), (tokLn src (scanGo ⟨s.mode, s.white, I⟩ src s.l).at_ : Nat), (tokCo src (scanGo ⟨s.mode, s.white, I⟩ src s.l).at_ : Nat)⟩,
    (scanGo ⟨s.mode, s.white, I⟩ src s.l).tok, ⟨(txt src (offOf src (scanGo ⟨s.mode, s.white, I⟩ src s.l).at_) (scanGo ⟨s.mode, s.white, I⟩ src s.l).l).toArray⟩)
  else if p.f0 = 1 then (⟨s.l.tail, false, s.mode, s.white, s.offs, 0, s.co⟩, chOf s.l, ⟨#[]⟩)
  else if p.f0 = 2 then (⟨s.l, false, s.mode, s.white, s.offs, s.ln, s.co⟩, chOf s.l, ⟨#[]⟩)
  else if p.f0 = 3 then (⟨s.l, s.fr, 4 * (p.f1 % 256), s.white, s.offs, s.ln, s.co⟩, 0, ⟨#[]⟩)
  else (⟨s.l, s.fr, s.mode, p.f1, s.offs, s.ln, s.co⟩, 0, ⟨#[]⟩)
def Ss.saw (I : Idr) (src : List UInt8) (s : Ss) (p : K.S66) : K.S37 :=
  ⟨(s.step I src p).2.1, (s.step I src p).2.2, ⟨(s.step I src p).1.offs, (s.step I src p).1.ln, (s.step I src p).1.co⟩, (s.step I src p).1.pos src⟩
def Ss.run (I : Idr) (src : List UInt8) : Ss → List K.S66 → List K.S37
  | _, [] => []
  | s, p :: ps => s.saw I src p :: Ss.run I src (s.step I src p).1 ps
def InSs (E : Env) (src : List UInt8) (w : World) (s : Ss) : Prop :=
  ∃ x : Sx, ((s.fr = false ∧ Sl E src w s.l x ∧ x.ch = chOf s.l) ∨ (s.fr = true ∧ Sl0 E src w x ∧ x.ch = -2 ∧ s.l = startL src)) ∧ x.mode = s.mode ∧ x.white = s.white ∧ x.offs = s.offs ∧ x.ln = s.ln ∧ x.co = s.co
theorem InSs.ready {E : Env} {src : List UInt8} {w : World} {s : Ss} (h : InSs E src w s) : ∃ x : Sx, Ready E src w s.l x ∧ x.mode = s.mode ∧ x.white = s.white ∧ x.offs = s.offs ∧ x.ln = s.ln ∧ x.co = s.co := by
  obtain ⟨x, h1 | h1, h2⟩ := h
  · exact ⟨x, .inl h1.2, h2⟩
  · exact ⟨x, .inr h1.2, h2⟩
theorem InSs.raw {E : Env} {src : List UInt8} {w : World} {s : Ss} (h : InSs E src w s) : ∃ r, Raw E w r := by
  obtain ⟨x, hx, _⟩ := h.ready
  exact hx.frame
theorem InSs.frame {E : Env} {src : List UInt8} {w : World} {s : Ss} (h : InSs E src w s) : Fr E w := by
  obtain ⟨r, hr⟩ := h.raw
  exact hr.fr
theorem InSs.pos {E : Env} {src : List UInt8} {w : World} {s : Ss} (h : InSs E src w s) (hlen : Fits src) : ∃ (r : Regs) (o a b : Nat), Raw E w r ∧ PosIs r o a b ∧ s.pos src = ⟨(o : Nat), (a : Nat), (b : Nat)⟩ := by
  obtain ⟨x, ⟨h0, h1, _⟩ | ⟨h0, h1, _⟩, _⟩ := h
  · obtain ⟨r, hr, hp⟩ := h1.pos hlen
    exact ⟨r, _, _, _, hr, hp, by unfold Ss.pos; rw [h0, if_neg (by decide)]⟩
  · obtain ⟨r, hr, hp⟩ := h1.pos
    exact ⟨r, _, _, _, hr, hp, by unfold Ss.pos; rw [h0, if_pos rfl]; rfl⟩
theorem InSs.old {E : Env} {src : List UInt8} {w w1 : World} {s : Ss} (h : InSs E src w s) (hb : Below w.heap.size w w1) : InSs E src w1 s := by
  obtain ⟨x, ⟨h0, h1, h3⟩ | ⟨h0, ⟨r, hr, h1, h4⟩, h3⟩, h2⟩ := h
  · exact ⟨x, .inl ⟨h0, h1.old hb, h3⟩, h2⟩
  · exact ⟨x, .inr ⟨h0, ⟨r, hr.old hb, h1, h4⟩, h3⟩, h2⟩
theorem InSs.rebase {E : Env} {src : List UInt8} {w : World} {s : Ss} (h : InSs E src w s) : InSs (E.at w) src w s := by
  obtain ⟨x, ⟨h0, h1, h3⟩ | ⟨h0, ⟨r, hr, h1, h4⟩, h3⟩, h2⟩ := h
  · exact ⟨x, .inl ⟨h0, h1.rebase, h3⟩, h2⟩
  · exact ⟨x, .inr ⟨h0, ⟨r, hr.rebase, h1, h4⟩, h3⟩, h2⟩
def InSt (E : Env) (src : List UInt8) (w : World) (s : Ss) (t : Nat) : Prop :=
  ∃ x : Sx, St E src w s.l x ∧ x.tok = some t ∧ s.fr = false ∧ x.ch = chOf s.l ∧ x.mode = s.mode ∧ x.white = s.white ∧ x.offs = s.offs ∧ x.ln = s.ln ∧ x.co = s.co
theorem InSt.old {E : Env} {src : List UInt8} {w w1 : World} {s : Ss} {t : Nat} (h : InSt E src w s t) (hb : Below w.heap.size w w1) : InSt E src w1 s t := by
  obtain ⟨x, h1, h2⟩ := h
  exact ⟨x, h1.old hb, h2⟩
theorem InSs.suffix {E : Env} {src : List UInt8} {w : World} {s : Ss} (h : InSs E src w s) : ∃ pre, items src = pre ++ s.l := by
  obtain ⟨x, ⟨h0, h1, _⟩ | ⟨h0, h1, _, h3⟩, _⟩ := h
  · obtain ⟨pre, r, _, hd, _⟩ := h1
    exact ⟨pre, hd.split⟩
  · rw [h3]; exact startL_pre src
theorem InSs.rng {E : Env} {src : List UInt8} {w : World} {s : Ss} (h : InSs E src w s) : -8 ≤ chOf s.l ∧ chOf s.l ≤ 1114111 := by
  obtain ⟨pre, hp⟩ := h.suffix
  have := chOf_range hp
  omega
end Go.Proofs.YtmfihkgbfoapaaaDoor
namespace Go.Proofs.YtmfihkgbfoapaaaDoor
set_option linter.unusedVariables false
set_option linter.unusedSimpArgs false
open Go Go.RowKit Go.Lib Go.BigFrame Go.Proofs.YtmfihkgbfoapaaaDoorW.PrintWords
end Go.Proofs.YtmfihkgbfoapaaaDoor
namespace Go.Proofs.YtmfihkgbfoapaaaDoor
set_option linter.unusedVariables false
set_option linter.unusedSimpArgs false
open Go Go.RowKit Go.Lib Go.BigFrame Go.Proofs.YtmfihkgbfoapaaaDoorW.PrintWords
theorem InSs.set_mode {E : Env} {src : List UInt8} {w : World} {s : Ss} (h : InSs E src w s) (c : Int) : InSs E src (w.setCell ⟨E.b, 1041, none⟩ (.int .u64 c)) { s with mode := c } := by
  obtain ⟨x, ⟨h0, h1, h6⟩ | ⟨h0, h1, h6⟩, h2, h3, h4⟩ := h
  · exact ⟨_, .inl ⟨h0, h1.set_mode c, h6⟩, rfl, h3, h4⟩
  · exact ⟨_, .inr ⟨h0, h1.set_mode c, h6⟩, rfl, h3, h4⟩
theorem InSs.set_white {E : Env} {src : List UInt8} {w : World} {s : Ss} (h : InSs E src w s) (c : Int) : InSs E src (w.setCell ⟨E.b, 1042, none⟩ (.int .u64 c)) { s with white := c } := by
  obtain ⟨x, ⟨h0, h1, h6⟩ | ⟨h0, h1, h6⟩, h2, h3, h4⟩ := h
  · exact ⟨_, .inl ⟨h0, h1.set_white c, h6⟩, h2, rfl, h4⟩
  · exact ⟨_, .inr ⟨h0, h1.set_white c, h6⟩, h2, rfl, h4⟩
end Go.Proofs.YtmfihkgbfoapaaaDoor
namespace Go.Proofs.YtmfihkgbfoapaaaDoor
set_option linter.unusedVariables false
set_option linter.unusedSimpArgs false
open Go Go.RowKit Go.Lib Go.BigFrame Go.Proofs.YtmfihkgbfoapaaaDoorW.PrintWords
theorem IdAt.old {E : Env} {I : Idr} {w w1 : World} (h : IdAt (E.at w) I) (hb : Below w.heap.size w w1) : IdAt (E.at w1) I := by
  rcases h with h | ⟨g, d, m, wh, cu, f1, f2, h1, h2, h3, h4, h5, h6⟩
  · exact .inl h
  · exact .inr ⟨g, d, m, wh, cu, f1, f2, h1, (hb.block g (lt_of_heap h2)).trans h2, h3, h4, h5, h6⟩
end Go.Proofs.YtmfihkgbfoapaaaDoor
namespace Go.Proofs.YtmfihkgbfoapaaaDoor
set_option linter.unusedVariables false
set_option linter.unusedSimpArgs false
open Go Go.RowKit Go.Lib Go.BigFrame Go.Proofs.YtmfihkgbfoapaaaDoorW.PrintWords
theorem box8 {w : World} {q : Nat} {t : TypeId} {a0 a1 a2 a3 a4 a5 a6 a7 : Value} (h : w.heap[q]? = some (.cells #[a0, a1, a2, a3, a4, a5, a6, a7] t (0, 0))) (b0 b1 b2 b3 b4 b5 b6 b7 : Value) {W : World}
    (hW : (((((((w.setCell ⟨q, 0, none⟩ b0).setCell ⟨q, 1, none⟩ b1).setCell ⟨q, 2, none⟩ b2).setCell ⟨q, 3, none⟩ b3).setCell ⟨q, 4, none⟩ b4).setCell ⟨q, 5, none⟩ b5).setCell ⟨q, 6, none⟩ b6).setCell ⟨q, 7, none⟩ b7 = W) :
    W.heap[q]? = some (.cells #[b0, b1, b2, b3, b4, b5, b6, b7] t (0, 0)) ∧ Below q w W ∧ W.heap.size = w.heap.size := by
  subst hW
  have h2 : (w.setCell ⟨q, 0, none⟩ b0).heap[q]? = some (.cells #[b0, a1, a2, a3, a4, a5, a6, a7] t (0, 0)) := Go.Lib.heap_setCell_same (i := 0) h b0
  have h3 : ((w.setCell ⟨q, 0, none⟩ b0).setCell ⟨q, 1, none⟩ b1).heap[q]? = some (.cells #[b0, b1, a2, a3, a4, a5, a6, a7] t (0, 0)) := Go.Lib.heap_setCell_same (i := 1) h2 b1
  have h4 : (((w.setCell ⟨q, 0, none⟩ b0).setCell ⟨q, 1, none⟩ b1).setCell ⟨q, 2, none⟩ b2).heap[q]? = some (.cells #[b0, b1, b2, a3, a4, a5, a6, a7] t (0, 0)) := Go.Lib.heap_setCell_same (i := 2) h3 b2
  have h5 : ((((w.setCell ⟨q, 0, none⟩ b0).setCell ⟨q, 1, none⟩ b1).setCell ⟨q, 2, none⟩ b2).setCell ⟨q, 3, none⟩ b3).heap[q]? = some (.cells #[b0, b1, b2, b3, a4, a5, a6, a7] t (0, 0)) := Go.Lib.heap_setCell_same (i := 3) h4 b3
  have h6 : (((((w.setCell ⟨q, 0, none⟩ b0).setCell ⟨q, 1, none⟩ b1).setCell ⟨q, 2, none⟩ b2).setCell ⟨q, 3, none⟩ b3).setCell ⟨q, 4, none⟩ b4).heap[q]? = some (.cells #[b0, b1, b2, b3, b4, a5, a6, a7] t (0, 0)) := Go.Lib.heap_setCell_same (i := 4) h5 b4
  have h7 : ((((((w.setCell ⟨q, 0, none⟩ b0).setCell ⟨q, 1, none⟩ b1).setCell ⟨q, 2, none⟩ b2).setCell ⟨q, 3, none⟩ b3).setCell ⟨q, 4, none⟩ b4).setCell ⟨q, 5, none⟩ b5).heap[q]? = some (.cells #[b0, b1, b2, b3, b4, b5, a6, a7] t (0, 0)) := Go.Lib.heap_setCell_same (i := 5) h6 b5
  have h8 : (((((((w.setCell ⟨q, 0, none⟩ b0).setCell ⟨q, 1, none⟩ b1).setCell ⟨q, 2, none⟩ b2).setCell ⟨q, 3, none⟩ b3).setCell ⟨q, 4, none⟩ b4).setCell ⟨q, 5, none⟩ b5).setCell ⟨q, 6, none⟩ b6).heap[q]? = some (.cells #[b0, b1, b2, b3, b4, b5, b6, a7] t (0, 0)) := Go.Lib.heap_setCell_same (i := 6) h7 b6
  have h9 : ((((((((w.setCell ⟨q, 0, none⟩ b0).setCell ⟨q, 1, none⟩ b1).setCell ⟨q, 2, none⟩ b2).setCell ⟨q, 3, none⟩ b3).setCell ⟨q, 4, none⟩ b4).setCell ⟨q, 5, none⟩ b5).setCell ⟨q, 6, none⟩ b6).setCell ⟨q, 7, none⟩ b7).heap[q]? = some (.cells #[b0, b1, b2, b3, b4, b5, b6, b7] t (0, 0)) := Go.Lib.heap_setCell_same (i := 7) h8 b7
  refine ⟨h9, ?_, by simp only [World.size_setCell]⟩
  exact Below.setCell (p := ⟨q, _, none⟩) (Below.setCell (p := ⟨q, _, none⟩) (Below.setCell (p := ⟨q, _, none⟩) (Below.setCell (p := ⟨q, _, none⟩) (Below.setCell (p := ⟨q, _, none⟩) (Below.setCell (p := ⟨q, _, none⟩) (Below.setCell (p := ⟨q, _, none⟩) (Below.setCell (p := ⟨q, _, none⟩) (Below.refl q w) (Nat.le_refl q) _) (Nat.le_refl q) _) (Nat.le_refl q) _) (Nat.le_refl q) _) (Nat.le_refl q) _) (Nat.le_refl q) _) (Nat.le_refl q) _) (Nat.le_refl q) _
end Go.Proofs.YtmfihkgbfoapaaaDoor
namespace Go.Proofs.YtmfihkgbfoapaaaDoor
set_option linter.unusedVariables false
set_option linter.unusedSimpArgs false
open Go Go.RowKit Go.Lib Go.BigFrame Go.Proofs.YtmfihkgbfoapaaaDoorW.PrintWords
theorem inf5i : ∃ i, Tryd.prog.info? 5 = some i ∧ i.zero = some (.int .u8 0) ∧ i.size = 1 ∧ i.bytes = 1 := by
  obtain ⟨i, h1, h2⟩ := Option.map_eq_some_iff.1 inf5
  simp only [Prod.mk.injEq] at h2
  exact ⟨i, h1, h2⟩
end Go.Proofs.YtmfihkgbfoapaaaDoor
