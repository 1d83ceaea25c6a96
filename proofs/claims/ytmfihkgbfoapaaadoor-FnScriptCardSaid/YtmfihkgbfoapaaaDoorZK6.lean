/- laws.same, walked: where it is true. -/
import Derived.Test.YtmfihkgbfoapaaaDoorZK2
import Derived.Test.YtmfihkgbfoapaaaDoorZE10
namespace Go.Proofs.YtmfihkgbfoapaaaDoor.K
set_option linter.unusedVariables false
set_option linter.unusedSimpArgs false
open Go Go.RowKit Go.Lib Go.BigFrame Go.Proofs.YtmfihkgbfoapaaaDoorW.PrintWords Go.Proofs.YtmfihkgbfoapaaaDoorW.PrintLast
attribute [local go_sem high] eqA37

/-- What laws.same asks of two tokens. -/
def SameT (x y : S37) : Prop := x.f0 = y.f0 ∧ x.f1.toList = y.f1.toList ∧ x.f3 = y.f3 ∧ (x.f0 = -1 ∨ x.f2 = y.f2)
theorem not_some {b : Bool} {o : Option Bool} (h : (if b = true then some false else o) = some true) : b = false ∧ o = some true := by
  cases b with
  | true => cases h
  | false => exact ⟨rfl, h⟩
theorem laws_same.round {k : Nat} {l0 l1 : List S37} {n : Int} {i : Nat} (hn : (i : Int) < n) (h0 : i < l0.length) (h1 : i < l1.length) (hb : i < 9223372036854775807) (h : laws_same.l0 (k + 1) l0 l1 l0 n (i : Int) = some true) :
    SameT (rd_T37 l0 (i : Int)) (rd_T37 l1 (i : Int)) ∧ laws_same.l0 k l0 l1 l0 n ((i + 1 : Nat) : Int) = some true := by
  unfold laws_same.l0 at h
  rw [if_pos hn, if_pos (by omega), if_pos (by omega), if_pos (by omega)] at h
  have hw : wrap64 ((i : Int) + 1) = ((i + 1 : Nat) : Int) := by unfold wrap64; omega
  rw [hw] at h
  by_cases he : (rd_T37 l0 (i : Int)).f0 = -1
  · rw [if_pos he] at h
    obtain ⟨h2, h3⟩ := not_some h
    simp only [Bool.or_eq_false_iff, Bool.not_eq_false', beq_iff_eq] at h2
    obtain ⟨a0, a1, a5, a6, a7⟩ := h2
    refine ⟨⟨a0, a1, ?_, .inl he⟩, h3⟩
    generalize (rd_T37 l0 (i : Int)).f3 = p at a5 a6 a7 ⊢
    generalize (rd_T37 l1 (i : Int)).f3 = q at a5 a6 a7 ⊢
    cases p; cases q; simp only at a5 a6 a7; subst a5 a6 a7; rfl
  · rw [if_neg he] at h
    obtain ⟨h2, h3⟩ := not_some h
    simp only [Bool.or_eq_false_iff, Bool.not_eq_false', beq_iff_eq] at h2
    obtain ⟨a0, a1, ⟨a2, a3, a4⟩, a5, a6, a7⟩ := h2
    refine ⟨⟨a0, a1, ?_, .inr ?_⟩, h3⟩
    · generalize (rd_T37 l0 (i : Int)).f3 = p at a5 a6 a7 ⊢
      generalize (rd_T37 l1 (i : Int)).f3 = q at a5 a6 a7 ⊢
      cases p; cases q; simp only at a5 a6 a7; subst a5 a6 a7; rfl
    · generalize (rd_T37 l0 (i : Int)).f2 = p at a2 a3 a4 ⊢
      generalize (rd_T37 l1 (i : Int)).f2 = q at a2 a3 a4 ⊢
      cases p; cases q; simp only at a2 a3 a4; subst a2 a3 a4; rfl
theorem laws_same.last {l0 l1 : List S37} : ∀ (k i : Nat), i ≤ l0.length → l0.length = l1.length → l0.length ≤ 9223372036854775807 → laws_same.l0 k l0 l1 l0 (l0.length : Int) (i : Int) = some true → (l0.length : Int) > 0
  | 0, i, _, _, _, h => by unfold laws_same.l0 at h; cases h
  | k + 1, i, hi, h01, hl, h => by
    by_cases hlt : i < l0.length
    · omega
    · unfold laws_same.l0 at h
      rw [if_neg (by omega)] at h
      simpa using h
theorem row_at {w : World} {A : Option Addr} {n : Nat} {xs : List S37} (h : Kd.C k37 w A n xs) (hn : 0 < n) : ∃ g o, A = some ⟨g, o, none⟩ := by
  obtain ⟨⟨g, o, spot⟩, e, x0, -⟩ := at_T37 h 0 (by omega) (by omega)
  have hspot : spot = none := by simpa [Addr.add] using World.cell?_spot x0
  exact ⟨g, o, by rw [e, hspot]⟩
theorem reads_at {w : World} {g o n : Nat} {xs : List S37} (h : Kd.C k37 w (some ⟨g, o, none⟩) n xs) (i : Nat) (hi : i < n) {t0 : Int} {t1 : ByteArray} {t2 t3 t4 t5 t6 t7 : Int} (ht : rd_T37 xs (i : Int) = ⟨t0, t1, ⟨t2, t3, t4⟩, ⟨t5, t6, t7⟩⟩) :
    w.cell? ⟨g, o + i * 8, none⟩ = some (.int .i64 t0) ∧ w.cell? ⟨g, o + i * 8 + 1, none⟩ = some (.string t1) ∧ w.cell? ⟨g, o + i * 8 + 2, none⟩ = some (.int .i64 t2) ∧ w.cell? ⟨g, o + i * 8 + 3, none⟩ = some (.int .i64 t3) ∧ w.cell? ⟨g, o + i * 8 + 4, none⟩ = some (.int .i64 t4) ∧ w.cell? ⟨g, o + i * 8 + 5, none⟩ = some (.int .i64 t5) ∧ w.cell? ⟨g, o + i * 8 + 6, none⟩ = some (.int .i64 t6) ∧ w.cell? ⟨g, o + i * 8 + 7, none⟩ = some (.int .i64 t7) := by
  obtain ⟨ad, e, x0, x1, x2, x3, x4, x5, x6, x7⟩ := at_T37 h (i : Int) (by omega) (by omega)
  injection e with e
  subst e
  rw [ht] at x0 x1 x2 x3 x4 x5 x6 x7
  simp only [Int.toNat_natCast, Addr.add_lit] at x0 x1 x2 x3 x4 x5 x6 x7
  exact ⟨x0, x1, x2, x3, x4, x5, x6, x7⟩

theorem all8 {w : World} {q : Nat} {t : TypeId} {a0 a1 a2 a3 a4 a5 a6 a7 : Value} (h : w.heap[q]? = some (.cells #[a0, a1, a2, a3, a4, a5, a6, a7] t (0, 0))) (b0 b1 b2 b3 b4 b5 b6 b7 : Value) {W : World}
    (hW : (((((((w.setCell ⟨q, 0, none⟩ b0).setCell ⟨q, 1, none⟩ b1).setCell ⟨q, 2, none⟩ b2).setCell ⟨q, 3, none⟩ b3).setCell ⟨q, 4, none⟩ b4).setCell ⟨q, 5, none⟩ b5).setCell ⟨q, 6, none⟩ b6).setCell ⟨q, 7, none⟩ b7 = W) :
    W.heap[q]? = some (.cells #[b0, b1, b2, b3, b4, b5, b6, b7] t (0, 0)) ∧ Below q w W ∧ W.heap.size = w.heap.size := by
  subst hW
  have h2 : (w.setCell ⟨q, 0, none⟩ b0).heap[q]? = some (.cells #[b0, a1, a2, a3, a4, a5, a6, a7] t (0, 0)) := Go.Lib.heap_setCell_same (i := 0) h b0
  have h3 : ((w.setCell ⟨q, 0, none⟩ b0).setCell ⟨q, 1, none⟩ b1).heap[q]? = some (.cells #[b0, b1, a2, a3, a4, a5, a6, a7] t (0, 0)) := Go.Lib.heap_setCell_same (i := 1) h2 b1
  have h4 : (((w.setCell ⟨q, 0, none⟩ b0).setCell ⟨q, 1, none⟩ b1).setCell ⟨q, 2, none⟩ b2).heap[q]? = some (.cells #[b0, b1, b2, a3, a4, a5, a6, a7] t (0, 0)) := Go.Lib.heap_setCell_same (i := 2) h3 b2
  have h5 : ((((w.setCell ⟨q, 0, none⟩ b0).setCell ⟨q, 1, none⟩ b1).setCell ⟨q, 2, none⟩ b2).setCell ⟨q, 3, none⟩ b3).heap[q]? = some (.cells #[b0, b1, b2, b3, a4, a5, a6, a7] t (0, 0)) := Go.Lib.heap_setCell_same (i := 3) h4 b3
  have h6 : (((((w.setCell ⟨q, 0, none⟩ b0).setCell ⟨q, 1, none⟩ b1).setCell ⟨q, 2, none⟩ b2).setCell ⟨q, 3, none⟩ b3).setCell ⟨q, 4, none⟩ b4).heap[q]? = some (.cells #[b0, b1, b2, b3, b4, a5, a6, a7] t (0, 0)) := Go.Lib.heap_setCell_same (i := 4) h5 b4
  have h7 : ((((((w.setCell ⟨q, 0, none⟩ b0).setCell ⟨q, 1, none⟩ b1).setCell ⟨q, 2, none⟩ b2).setCell ⟨q, 3, none⟩ b3).setCell ⟨q, 4, none⟩ b4).setCell ⟨q, 5, none⟩ b5).heap[q]? = some (.cells #[b0, b1, b2, b3, b4, b5, a6, a7] t (0, 0)) := Go.Lib.heap_setCell_same (i := 5) h6 b5
  have h8 : (((((((w.setCell ⟨q, 0, none⟩ b0).setCell ⟨q, 1, none⟩ b1).setCell ⟨q, 2, none⟩ b2).setCell ⟨q, 3, none⟩ b3).setCell ⟨q, 4, none⟩ b4).setCell ⟨q, 5, none⟩ b5).setCell ⟨q, 6, none⟩ b6).heap[q]? = some (.cells #[b0, b1, b2, b3, b4, b5, b6, a7] t (0, 0)) := Go.Lib.heap_setCell_same (i := 6) h7 b6
  have h9 : ((((((((w.setCell ⟨q, 0, none⟩ b0).setCell ⟨q, 1, none⟩ b1).setCell ⟨q, 2, none⟩ b2).setCell ⟨q, 3, none⟩ b3).setCell ⟨q, 4, none⟩ b4).setCell ⟨q, 5, none⟩ b5).setCell ⟨q, 6, none⟩ b6).setCell ⟨q, 7, none⟩ b7).heap[q]? = some (.cells #[b0, b1, b2, b3, b4, b5, b6, b7] t (0, 0)) := Go.Lib.heap_setCell_same (i := 7) h8 b7
  refine ⟨h9, ?_, by simp only [World.size_setCell]⟩
  exact Below.setCell (p := ⟨q, _, none⟩) (Below.setCell (p := ⟨q, _, none⟩) (Below.setCell (p := ⟨q, _, none⟩) (Below.setCell (p := ⟨q, _, none⟩) (Below.setCell (p := ⟨q, _, none⟩) (Below.setCell (p := ⟨q, _, none⟩) (Below.setCell (p := ⟨q, _, none⟩) (Below.setCell (p := ⟨q, _, none⟩) (Below.refl q w) (Nat.le_refl q) _) (Nat.le_refl q) _) (Nat.le_refl q) _) (Nat.le_refl q) _) (Nat.le_refl q) _) (Nat.le_refl q) _) (Nat.le_refl q) _) (Nat.le_refl q) _
theorem part3 {w : World} {q : Nat} {t : TypeId} {a0 a1 a2 a3 a4 a5 a6 a7 : Value} (h : w.heap[q]? = some (.cells #[a0, a1, a2, a3, a4, a5, a6, a7] t (0, 0))) (b2 b3 b4 : Value) {W : World}
    (hW : ((w.setCell ⟨q, 2, none⟩ b2).setCell ⟨q, 3, none⟩ b3).setCell ⟨q, 4, none⟩ b4 = W) : W.heap[q]? = some (.cells #[a0, a1, b2, b3, b4, a5, a6, a7] t (0, 0)) ∧ (∀ k, ¬ k = q → W.heap[k]? = w.heap[k]?) ∧ Below q w W := by
  subst hW
  have h2 := Go.Lib.heap_setCell_same (i := 2) h b2
  have h3 := Go.Lib.heap_setCell_same (i := 3) h2 b3
  have h4 := Go.Lib.heap_setCell_same (i := 4) h3 b4
  refine ⟨h4, fun k hk => ?_, ?_⟩
  · iterate 3 rw [Below.heap_setCell _ _ _ _ (by exact hk)]
  · exact (((Below.refl q w).setCell (p := ⟨q, 2, none⟩) (Nat.le_refl q) _).setCell (p := ⟨q, 3, none⟩) (Nat.le_refl q) _).setCell (p := ⟨q, 4, none⟩) (Nat.le_refl q) _
set_option maxRecDepth 100000 in
set_option maxHeartbeats 3200000 in
theorem laws_same.yes (k : Nat) (A0 : Option Addr) (c0 : Nat) (l0 : List S37) (A1 : Option Addr) (c1 : Nat) (l1 : List S37) (w : World) (hr0 : Kd.C k37 w A0 l0.length l0) (hc0 : l0.length ≤ c0) (hr1 : Kd.C k37 w A1 l1.length l1) (hc1 : l1.length ≤ c1) (h : laws_same.f k l0 l1 = some true) :
    Calls Tryd.prog 29 #[.slice A0 l0.length c0, .slice A1 l1.length c1] w fun e w' => e = .returned (.bool true) ∧ Below w.heap.size w w' := by
  unfold laws_same.f at h
  have hll : l0.length = l1.length := by
    by_cases hc : (l0.length : Int) = (l1.length : Int)
    · omega
    · rw [if_neg hc] at h; cases h
  rw [if_pos (by omega)] at h
  have hmx : l0.length ≤ 9223372036854775807 := hr0.2.1
  obtain ⟨N, hN⟩ : ∃ x, l0.length = x := ⟨_, rfl⟩
  have HH := Lib.hid (And.intro hr0 (And.intro hr1 (And.intro hN (And.intro hll h))))
  rw [hN] at hmx ⊢
  rw [show l1.length = N by omega]
  clear hr0 hr1 hN hll h hc0 hc1
  have hpos : decide (0 < N) = true := decide_eq_true (by
      have h1 := HH.out.2.2.1
      have := laws_same.last k 0 (Nat.zero_le _) HH.out.2.2.2.1 (by omega) HH.out.2.2.2.2
      omega)
  go_enter Tryd.func29, Tryd.ntmps29
  go_wp2_with (fail)
  go_loopg [15] k (fun kk t wr => ∃ (i : Nat), t = .int .i64 (i : Nat) ∧ i ≤ N ∧ laws_same.l0 kk l0 l1 l0 (N : Int) (i : Int) = some true ∧ Below w.heap.size w wr)
  case atStart => exact ⟨0, rfl, Nat.zero_le _, by rw [← HH.out.2.2.1]; exact HH.out.2.2.2.2, Below.refl _ _⟩
  case round =>
    obtain ⟨i, rfl, hiN, hL, hb⟩ := hrel
    by_cases hlt : i < N
    · cases gk with
      | zero => unfold laws_same.l0 at hL; cases hL
      | succ k1 =>
        obtain ⟨hs, hL1⟩ := laws_same.round (by omega) (by have := HH.out.2.2.1; omega) (by have := HH.out.2.2.1; have := HH.out.2.2.2.1; omega) (by omega) hL
        have hC0 := HH.out.1
        have hC1 := HH.out.2.1
        rw [← HH.out.2.2.2.1] at hC1
        rw [HH.out.2.2.1] at hC0 hC1
        obtain ⟨g, o, rfl⟩ := row_at hC0 (by omega)
        obtain ⟨g1, o1, rfl⟩ := row_at hC1 (by omega)
        obtain ⟨⟨t0, t1, ⟨t2, t3, t4⟩, ⟨t5, t6, t7⟩⟩, hT⟩ : ∃ T, rd_T37 l0 (i : Int) = T := ⟨_, rfl⟩
        obtain ⟨⟨q0, q1, ⟨s2, s3, s4⟩, ⟨q5, q6, q7⟩⟩, hS⟩ : ∃ T, rd_T37 l1 (i : Int) = T := ⟨_, rfl⟩
        rw [hT, hS] at hs
        obtain ⟨h0, h1, h3, h2⟩ := hs
        simp only at h0 h1 h3 h2
        injection h3 with h35 h36 h37
        subst h0 h35 h36 h37
        have hb1 : (t1.toList == q1.toList) = true := beq_iff_eq.2 h1
        clear h1
        obtain ⟨x0, x1, x2, x3, x4, x5, x6, x7⟩ := reads_at (Kd.C_below hC0 hb) i hlt hT
        have HI := Lib.hid (And.intro hb (And.intro hL1 (And.intro hC1 (And.intro hS h2))))
        have hij : (i : Int) ≤ 9223372036854775806 := by omega
        clear hb hL hL1 hC0 hC1 hS hT h2
        go_upto_region 6 with (first | ((with_reducible refine gate_dst (N := 6) rfl ?_); refine box_event ?hg (N := 6) ?hd (cs := #[.int .i64 0, .string (⟨#[]⟩ : ByteArray), .int .i64 0, .int .i64 0, .int .i64 0, .int .i64 0, .int .i64 0, .int .i64 0]) (t := 37) ?hr ?_; (case hd => rfl); (case hg => rfl); (case hr => first | (go_simp; done) | (go_simp; rfl)); intro ga hg gaw hbox hbb; clear x0 x1 x2 x3 x4 x5 x6 x7; have HBXga := Lib.hid (And.intro hg (And.intro hbox hbb)); have fb := frozen_of_heap hbox; have z0 := cell_of_heap (j := 0) hbox; have z1 := cell_of_heap (j := 1) hbox; have z2 := cell_of_heap (j := 2) hbox; have z3 := cell_of_heap (j := 3) hbox; have z4 := cell_of_heap (j := 4) hbox; have z5 := cell_of_heap (j := 5) hbox; have z6 := cell_of_heap (j := 6) hbox; have z7 := cell_of_heap (j := 7) hbox; simp at z0 z1 z2 z3 z4 z5 z6 z7; clear hg hbox hbb))
        obtain ⟨wq1, hwq⟩ : ∃ W, ((((((((gaw.setCell ⟨ga, 0, none⟩ (.int .i64 t0)).setCell ⟨ga, 1, none⟩ (.string t1)).setCell ⟨ga, 2, none⟩ (.int .i64 t2)).setCell ⟨ga, 3, none⟩ (.int .i64 t3)).setCell ⟨ga, 4, none⟩ (.int .i64 t4)).setCell ⟨ga, 5, none⟩ (.int .i64 t5)).setCell ⟨ga, 6, none⟩ (.int .i64 t6)).setCell ⟨ga, 7, none⟩ (.int .i64 t7)) = W := ⟨_, rfl⟩
        rw [hwq]
        obtain ⟨kwq1, bwq1, -⟩ := all8 HBXga.out.2.1 _ _ _ _ _ _ _ _ hwq
        clear hwq
        have hB5 : Below w.heap.size w wq1 := HI.out.1.trans ((HBXga.out.2.2.trans (bwq1.mono (by rw [HBXga.out.1]; exact Nat.le_refl _))).mono HI.out.1.size)
        obtain ⟨x0, x1, x2, x3, x4, x5, x6, x7⟩ := reads_at (Kd.C_below HI.out.2.2.1 hB5) i hlt HI.out.2.2.2.1
        have HQ1 := Lib.hid (And.intro kwq1 hB5)
        clear fb z0 z1 z2 z3 z4 z5 z6 z7 kwq1 bwq1 hB5
        go_upto_region 7 with (first | ((with_reducible refine gate_dst (N := 7) rfl ?_); refine box_event ?hg (N := 7) ?hd (cs := #[.int .i64 0, .string (⟨#[]⟩ : ByteArray), .int .i64 0, .int .i64 0, .int .i64 0, .int .i64 0, .int .i64 0, .int .i64 0]) (t := 37) ?hr ?_; (case hd => rfl); (case hg => rfl); (case hr => first | (go_simp; done) | (go_simp; rfl)); intro gb hg gbw hbox hbb; clear x0 x1 x2 x3 x4 x5 x6 x7; have HBXgb := Lib.hid (And.intro hg (And.intro hbox hbb)); have fb := frozen_of_heap hbox; have z0 := cell_of_heap (j := 0) hbox; have z1 := cell_of_heap (j := 1) hbox; have z2 := cell_of_heap (j := 2) hbox; have z3 := cell_of_heap (j := 3) hbox; have z4 := cell_of_heap (j := 4) hbox; have z5 := cell_of_heap (j := 5) hbox; have z6 := cell_of_heap (j := 6) hbox; have z7 := cell_of_heap (j := 7) hbox; simp at z0 z1 z2 z3 z4 z5 z6 z7; clear hg hbox hbb))
        obtain ⟨wq2, hwq⟩ : ∃ W, ((((((((gbw.setCell ⟨gb, 0, none⟩ (.int .i64 t0)).setCell ⟨gb, 1, none⟩ (.string q1)).setCell ⟨gb, 2, none⟩ (.int .i64 s2)).setCell ⟨gb, 3, none⟩ (.int .i64 s3)).setCell ⟨gb, 4, none⟩ (.int .i64 s4)).setCell ⟨gb, 5, none⟩ (.int .i64 t5)).setCell ⟨gb, 6, none⟩ (.int .i64 t6)).setCell ⟨gb, 7, none⟩ (.int .i64 t7)) = W := ⟨_, rfl⟩
        rw [hwq]
        obtain ⟨kwq2, bwq2, -⟩ := all8 HBXgb.out.2.1 _ _ _ _ _ _ _ _ hwq
        clear hwq
        have hbq : Below wq1.heap.size wq1 wq2 := HBXgb.out.2.2.trans (bwq2.mono (by rw [HBXgb.out.1]; exact Nat.le_refl _))
        have hB5 : Below w.heap.size w wq2 := HQ1.out.2.trans (hbq.mono HQ1.out.2.size)
        have hka := (hbq.block _ (lt_of_heap HQ1.out.1)).trans HQ1.out.1
        have hnba : ¬ gb = ga := by have h1 := lt_of_heap HQ1.out.1; have h2 := HBXgb.out.1; omega
        have hga : w.heap.size ≤ ga := by rw [HBXga.out.1]; exact HI.out.1.size
        have HQ2 := Lib.hid (And.intro hka (And.intro kwq2 (And.intro hB5 hga)))
        clear fb z0 z1 z2 z3 z4 z5 z6 z7 bwq2 hbq hB5 hka kwq2 hga
        by_cases ht : t0 = -1
        · subst ht
          have ua0 := cell_of_heap (j := 0) HQ2.out.1
          have ua2 := cell_of_heap (j := 2) HQ2.out.1
          have ua3 := cell_of_heap (j := 3) HQ2.out.1
          have ua4 := cell_of_heap (j := 4) HQ2.out.1
          have ub2 := cell_of_heap (j := 2) HQ2.out.2.1
          have ub3 := cell_of_heap (j := 3) HQ2.out.2.1
          have ub4 := cell_of_heap (j := 4) HQ2.out.2.1
          have fa := frozen_of_heap HQ2.out.1
          simp at ua0 ua2 ua3 ua4 ub2 ub3 ub4
          go_upto_region 9 with (fail)
          obtain ⟨wq3, hwq⟩ : ∃ W, ((wq2.setCell ⟨ga, 2, none⟩ (.int .i64 s2)).setCell ⟨ga, 3, none⟩ (.int .i64 s3)).setCell ⟨ga, 4, none⟩ (.int .i64 s4) = W := ⟨_, rfl⟩
          rw [hwq]
          obtain ⟨k3, o3, b3⟩ := part3 HQ2.out.1 (.int .i64 s2) (.int .i64 s3) (.int .i64 s4) hwq
          have kb := (o3 gb hnba).trans HQ2.out.2.1
          have HF := Lib.hid (HQ2.out.2.2.1.trans (b3.mono HQ2.out.2.2.2))
          clear hwq ua0 ua2 ua3 ua4 ub2 ub3 ub4 fa o3 b3
          have ua0 := cell_of_heap (j := 0) k3
          have ub0 := cell_of_heap (j := 0) kb
          have ua1 := cell_of_heap (j := 1) k3
          have ub1 := cell_of_heap (j := 1) kb
          have ua2 := cell_of_heap (j := 2) k3
          have ub2 := cell_of_heap (j := 2) kb
          have ua3 := cell_of_heap (j := 3) k3
          have ub3 := cell_of_heap (j := 3) kb
          have ua4 := cell_of_heap (j := 4) k3
          have ub4 := cell_of_heap (j := 4) kb
          have ua5 := cell_of_heap (j := 5) k3
          have ub5 := cell_of_heap (j := 5) kb
          have ua6 := cell_of_heap (j := 6) k3
          have ub6 := cell_of_heap (j := 6) kb
          have ua7 := cell_of_heap (j := 7) k3
          have ub7 := cell_of_heap (j := 7) kb
          simp at ua0 ub0 ua1 ub1 ua2 ub2 ua3 ub3 ua4 ub4 ua5 ub5 ua6 ub6 ua7 ub7
          clear k3 kb
          go_wp2_with (fail)
          go_roundg k1
          case measure => exact Nat.lt_succ_self _
          case rel => exact ⟨i + 1, by go_num, hlt, HI.out.2.1, HF.out⟩
        · have htb : (t0 == -1) = false := beq_eq_false_iff_ne.2 ht
          have h6 := HI.out.2.2.2.2.resolve_left ht
          injection h6 with h62 h63 h64
          have h62' := h62.symm
          have h63' := h63.symm
          have h64' := h64.symm
          subst h62' h63' h64'
          clear h62 h63 h64
          have k3 := HQ2.out.1
          have kb := HQ2.out.2.1
          have ua0 := cell_of_heap (j := 0) k3
          have ub0 := cell_of_heap (j := 0) kb
          have ua1 := cell_of_heap (j := 1) k3
          have ub1 := cell_of_heap (j := 1) kb
          have ua2 := cell_of_heap (j := 2) k3
          have ub2 := cell_of_heap (j := 2) kb
          have ua3 := cell_of_heap (j := 3) k3
          have ub3 := cell_of_heap (j := 3) kb
          have ua4 := cell_of_heap (j := 4) k3
          have ub4 := cell_of_heap (j := 4) kb
          have ua5 := cell_of_heap (j := 5) k3
          have ub5 := cell_of_heap (j := 5) kb
          have ua6 := cell_of_heap (j := 6) k3
          have ub6 := cell_of_heap (j := 6) kb
          have ua7 := cell_of_heap (j := 7) k3
          have ub7 := cell_of_heap (j := 7) kb
          simp at ua0 ub0 ua1 ub1 ua2 ub2 ua3 ub3 ua4 ub4 ua5 ub5 ua6 ub6 ua7 ub7
          clear k3 kb
          go_wp2_with (fail)
          go_roundg k1
          case measure => exact Nat.lt_succ_self _
          case rel => exact ⟨i + 1, by go_num, hlt, HI.out.2.1, HQ2.out.2.2.1⟩
    · have hiN' : i = N := by omega
      subst hiN'
      have HB := Lib.hid hb
      clear hb hL
      go_wp2_with (fail)
      go_ret
      exact ⟨rfl, HB.out⟩
end Go.Proofs.YtmfihkgbfoapaaaDoor.K
