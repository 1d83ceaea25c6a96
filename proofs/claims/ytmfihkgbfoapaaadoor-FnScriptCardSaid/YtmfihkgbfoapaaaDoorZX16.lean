/- Own texts X16 X17 T1 of this claim, cut to what the claim uses. -/
import Derived.Test.YtmfihkgbfoapaaaDoorZX13
import Derived.Test.YtmfihkgbfoapaaaDoorZX15
import Derived.Test.YtmfihkgbfoapaaaDoorZY1
import Derived.Test.YtmfihkgbfoapaaaDoorZT0
import Derived.Deep.SlicePairs
namespace Go.Proofs.YtmfihkgbfoapaaaDoor
set_option linter.unusedVariables false
set_option linter.unusedSimpArgs false
open Go Go.RowKit Go.Lib Go.BigFrame Go.Proofs.YtmfihkgbfoapaaaDoorW.PrintWords
def fitStep (p : K.S66) : K.S66 := ⟨Int.tmod (wrap64 (Int.tmod p.f0 5 + 5)) 5, bits .and .u64 p.f1 8589934590⟩
theorem fitStep_do (d : Int) : 0 ≤ Int.tmod (wrap64 (Int.tmod d 5 + 5)) 5 ∧ Int.tmod (wrap64 (Int.tmod d 5 + 5)) 5 ≤ 4 := by
  have h1 := Int.tmod_lt_of_pos d (show (0 : Int) < 5 by decide)
  have h2 := Int.lt_tmod_of_pos d (show (0 : Int) < 5 by decide)
  have h3 : wrap64 (Int.tmod d 5 + 5) = Int.tmod d 5 + 5 := wrap64_id (by omega) (by omega)
  rw [h3, Int.tmod_eq_emod_of_nonneg (by omega)]
  omega
theorem and_mask (x : Int) : 0 ≤ bits .and .u64 x 8589934590 ∧ bits .and .u64 x 8589934590 ≤ 8589934590 := and_range x 8589934590 (by decide) (by decide)
theorem fitStep_ok (p : K.S66) : okStep (fitStep p) := by
  have h1 := fitStep_do p.f0
  have h2 := and_mask p.f1
  exact ⟨h1.1, h1.2, h2.1, by have := h2.2; show bits .and .u64 p.f1 8589934590 < _; omega⟩
theorem and_nat {n : Nat} (m : Nat) (h : n < 2 ^ 63) : bits .and .u64 (n : Int) (m : Int) = ((n &&& (m % 2 ^ 64) : Nat) : Int) := by
  unfold bits
  have e : (BitVec.ofInt IntKind.u64.bits (n : Int) &&& BitVec.ofInt IntKind.u64.bits (m : Int)).toNat = n &&& (m % 2 ^ 64) := by
    rw [BitVec.toNat_and, BitVec.toNat_ofInt, BitVec.toNat_ofInt]
    have a1 : ((n : Int) % ((2 ^ 64 : Nat) : Int)).toNat = n := by omega
    have a2 : ((m : Int) % ((2 ^ 64 : Nat) : Int)).toNat = m % 2 ^ 64 := by omega
    exact congr (congrArg _ a1) a2
  simp only
  rw [e, u64_small (Nat.lt_of_le_of_lt Nat.and_le_left (by omega))]
theorem fit_again (x : Int) : bits .and .u64 (bits .and .u64 x 8589934590) 8589934590 = bits .and .u64 x 8589934590 := by
  have h2 := and_mask x
  obtain ⟨n, hn⟩ : ∃ n : Nat, bits .and .u64 x 8589934590 = n := ⟨_, (Int.toNat_of_nonneg h2.1).symm⟩
  have h3 := and_nat (n := n) 8589934590 (by have := h2.2; rw [hn] at this; omega)
  have hx : ∃ k : Nat, n = k &&& 8589934590 := by
    unfold bits at hn
    refine ⟨(BitVec.ofInt IntKind.u64.bits x).toNat, ?_⟩
    have e : (BitVec.ofInt IntKind.u64.bits x &&& BitVec.ofInt IntKind.u64.bits 8589934590).toNat = (BitVec.ofInt IntKind.u64.bits x).toNat &&& 8589934590 := by rw [BitVec.toNat_and]; rfl
    simp only at hn
    rw [e, u64_small (Nat.lt_of_le_of_lt Nat.and_le_right (by decide))] at hn
    exact_mod_cast hn.symm
  obtain ⟨k, rfl⟩ := hx
  rw [hn]
  refine h3.trans ?_
  rw [show 8589934590 % 2 ^ 64 = 8589934590 from rfl, Nat.and_assoc, Nat.and_self]
theorem and_255 {x : Int} (h0 : 0 ≤ x) (h1 : x < 9223372036854775808) : bits .and .u64 x 255 = x % 256 := by
  obtain ⟨n, rfl⟩ : ∃ n : Nat, x = n := ⟨x.toNat, by omega⟩
  have h := and_nat (n := n) 255 (by omega)
  refine h.trans ?_
  rw [show 255 % 2 ^ 64 = 2 ^ 8 - 1 from rfl, Nat.and_two_pow_sub_one_eq_mod]
  omega
def endN (e : Bool) (p : K.S66) (w : K.S37) : Bool := if p.f0 = 0 ∨ p.f0 = 1 then decide (p.f0 = 0) && decide (w.f0 = -1) else e
def Agree1 (e : Bool) (g w : K.S37) : Prop := g.f0 = w.f0 ∧ g.f1 = w.f1 ∧ g.f3 = w.f3 ∧ (w.f2.f1 = 0 → g.f2.f1 = 0) ∧ (w.f2.f1 = 0 ∨ e = true ∨ g.f2 = w.f2)
def Agree : Bool → List K.S66 → List K.S37 → List K.S37 → Prop
  | _, [], [], [] => True
  | e, p :: ps, g :: gs, w :: ws => Agree1 (endN e p w) g w ∧ Agree (endN e p w) ps gs ws
  | _, _, _, _ => False
theorem Agree.len : ∀ (e : Bool) (ps : List K.S66) (gs ws : List K.S37), Agree e ps gs ws → gs.length = ps.length ∧ ws.length = ps.length
  | _, [], [], [], _ => ⟨rfl, rfl⟩
  | e, p :: ps, g :: gs, w :: ws, h => by
    have := Agree.len _ ps gs ws h.2
    simp only [List.length_cons]; omega
  | _, [], _ :: _, _, h => by cases h
  | _, [], [], _ :: _, h => by cases h
  | _, _ :: _, [], _, h => by cases h
  | _, _ :: _, _ :: _, [], h => by cases h
theorem Agree.at_ : ∀ (i : Nat) (e : Bool) (ps : List K.S66) (gs ws : List K.S37), Agree e (ps.drop i) (gs.drop i) (ws.drop i) → i < ps.length → i < gs.length → i < ws.length →
    Agree1 (endN e (K.rd_T66 ps (i : Int)) (K.rd_T37 ws (i : Int))) (K.rd_T37 gs (i : Int)) (K.rd_T37 ws (i : Int)) ∧ Agree (endN e (K.rd_T66 ps (i : Int)) (K.rd_T37 ws (i : Int))) (ps.drop (i + 1)) (gs.drop (i + 1)) (ws.drop (i + 1)) := by
  intro i e ps gs ws h h1 h2 h3
  have e1 : K.rd_T66 ps (i : Int) = ps[i] := by unfold K.rd_T66; simp [List.getD_eq_getElem?_getD, List.getElem?_eq_getElem h1]
  have e2 : K.rd_T37 gs (i : Int) = gs[i] := by unfold K.rd_T37; simp [List.getD_eq_getElem?_getD, List.getElem?_eq_getElem h2]
  have e3 : K.rd_T37 ws (i : Int) = ws[i] := by unfold K.rd_T37; simp [List.getD_eq_getElem?_getD, List.getElem?_eq_getElem h3]
  rw [List.drop_eq_getElem_cons h1, List.drop_eq_getElem_cons h2, List.drop_eq_getElem_cons h3] at h
  rw [e1, e2, e3]
  exact h
structure RelS (src : List UInt8) (s : Ss) (z : Rs) (e : Bool) : Prop where
  l : s.l = z.l
  suf : z.l <:+ items src
  mode : s.mode = 4 * z.mode
  white : s.white = z.white
  fr : s.fr = true → s.l = items src
  zero : z.at_.f1 = 0 → s.ln = 0
  at_ : z.at_.f1 = 0 ∨ e = true ∨ (⟨s.offs, s.ln, s.co⟩ : K.S35) = z.at_
theorem plc_items (src : List UInt8) : plc src (items src) = ⟨0, 1, 1⟩ := by
  have h : items src = [] ++ items src := rfl
  unfold plc lineAt colAt
  rw [offOf_items, behind_pre h]; rfl
theorem lineAt_pos {src : List UInt8} {l : List Item} (h : l <:+ items src) : (lineAt src l : Int) ≠ 0 := by
  rw [lineAt_nls h]; omega
theorem rel_step {I : Idr} {src : List UInt8} {s : Ss} {z : Rs} {e : Bool} (h : RelS src s z e) (p : K.S66) (hp : okStep p) (hp2 : bits .and .u64 p.f1 8589934590 = p.f1) :
    Agree1 (endN e p (z.saw I src p)) (s.saw I src p) (z.saw I src p) ∧ RelS src (s.step I src p).1 (z.step I src p).1 (endN e p (z.saw I src p)) := by
  obtain ⟨d, ar⟩ := p
  obtain ⟨hd0, hd4, ha0, ha1⟩ := hp
  simp only at hd0 hd4 ha0 ha1 hp2
  obtain ⟨sl, sfr, sm, sw, so, sln, sc⟩ := s
  obtain ⟨zl, zm, zw, za⟩ := z
  obtain ⟨hl, hsuf, hm, hw, hf, hz, ha⟩ := h
  simp only at hl hsuf hm hw hf hz ha
  subst hl hm hw
  have hpos : ∀ x : Ss, (x.fr = true → x.l = items src) → x.pos src = plc src x.l := by
    intro x hx
    unfold Ss.pos
    by_cases hfr : x.fr = true
    · rw [if_pos hfr, hx hfr, plc_items]
    · rw [if_neg hfr]; rfl
  have hdc : d = 0 ∨ d = 1 ∨ d = 2 ∨ d = 3 ∨ d = 4 := by omega
  rcases hdc with rfl | rfl | rfl | rfl | rfl
  · obtain ⟨g1, g2, g3⟩ := scanGo_suffix ⟨4 * zm, sw, I⟩ src sl
    have e1 : Ss.step I src ⟨sl, sfr, 4 * zm, sw, so, sln, sc⟩ ⟨0, ar⟩ = (⟨(scanGo ⟨4 * zm, sw, I⟩ src sl).l, false, 4 * zm, sw, (offOf src (scanGo ⟨4 * zm, sw, I⟩ src sl).at_ : Nat), (tokLn src (scanGo ⟨4 * zm, sw, I⟩ src sl).at_ : Nat), (tokCo src (scanGo ⟨4 * zm, sw, I⟩ src sl).at_ : Nat)⟩,
      (scanGo ⟨4 * zm, sw, I⟩ src sl).tok, ⟨(txt src (offOf src (scanGo ⟨4 * zm, sw, I⟩ src sl).at_) (scanGo ⟨4 * zm, sw, I⟩ src sl).l).toArray⟩) := rfl
    have e2 : Rs.step I src ⟨sl, zm, sw, za⟩ ⟨0, ar⟩ = (⟨(scanGo ⟨4 * zm, sw, I⟩ src sl).l, zm, sw, plc src (scanGo ⟨4 * zm, sw, I⟩ src sl).at_⟩, (scanGo ⟨4 * zm, sw, I⟩ src sl).tok, ⟨(txt src (offOf src (scanGo ⟨4 * zm, sw, I⟩ src sl).at_) (scanGo ⟨4 * zm, sw, I⟩ src sl).l).toArray⟩) := rfl
    unfold Ss.saw Rs.saw
    rw [e1, e2]
    generalize scanGo ⟨4 * zm, sw, I⟩ src sl = G at g1 g2 g3
    have hsa : G.at_ <:+ items src := g1.trans hsuf
    have hend : endN e ⟨0, ar⟩ ⟨G.tok, ⟨(txt src (offOf src G.at_) G.l).toArray⟩, plc src G.at_, plc src G.l⟩ = decide (G.tok = -1) := by
      unfold endN; simp
    have hat : decide (G.tok = -1) = true ∨ (⟨(offOf src G.at_ : Nat), (tokLn src G.at_ : Nat), (tokCo src G.at_ : Nat)⟩ : K.S35) = plc src G.at_ := by
      by_cases hne : items src = []
      · left
        rw [hne] at hsa
        have h0 := List.suffix_nil.1 hsa
        rcases g3 with h | h
        · rw [h.1]; rfl
        · rw [h0] at h; exact absurd h.2 (Nat.not_lt_zero _)
      · right
        unfold plc tokLn tokCo
        rw [if_neg hne, if_neg hne]
    have hz0 : (plc src G.at_).f1 ≠ 0 := lineAt_pos hsa
    simp only
    rw [hend]
    refine ⟨⟨rfl, rfl, rfl, fun h => absurd h hz0, .inr hat⟩, ⟨rfl, g2.trans hsa, rfl, rfl, (fun h => by cases h), fun h => absurd h hz0, .inr hat⟩⟩
  · have e1 : Ss.step I src ⟨sl, sfr, 4 * zm, sw, so, sln, sc⟩ ⟨1, ar⟩ = (⟨sl.tail, false, 4 * zm, sw, so, 0, sc⟩, chOf sl, ⟨#[]⟩) := rfl
    have e2 : Rs.step I src ⟨sl, zm, sw, za⟩ ⟨1, ar⟩ = (⟨sl.tail, zm, sw, ⟨0, 0, 0⟩⟩, chOf sl, ⟨#[]⟩) := rfl
    unfold Ss.saw Rs.saw
    rw [e1, e2]
    exact ⟨⟨rfl, rfl, rfl, fun _ => rfl, .inl rfl⟩, ⟨rfl, (List.tail_suffix _).trans hsuf, rfl, rfl, (fun h => by cases h), fun _ => rfl, .inl rfl⟩⟩
  · have e1 : Ss.step I src ⟨sl, sfr, 4 * zm, sw, so, sln, sc⟩ ⟨2, ar⟩ = (⟨sl, false, 4 * zm, sw, so, sln, sc⟩, chOf sl, ⟨#[]⟩) := rfl
    have e2 : Rs.step I src ⟨sl, zm, sw, za⟩ ⟨2, ar⟩ = (⟨sl, zm, sw, za⟩, chOf sl, ⟨#[]⟩) := rfl
    unfold Ss.saw Rs.saw
    rw [e1, e2]
    exact ⟨⟨rfl, rfl, rfl, hz, ha⟩, ⟨rfl, hsuf, rfl, rfl, (fun h => by cases h), hz, ha⟩⟩
  · have e1 : Ss.step I src ⟨sl, sfr, 4 * zm, sw, so, sln, sc⟩ ⟨3, ar⟩ = (⟨sl, sfr, 4 * (ar % 256), sw, so, sln, sc⟩, 0, ⟨#[]⟩) := rfl
    have e2 : Rs.step I src ⟨sl, zm, sw, za⟩ ⟨3, ar⟩ = (⟨sl, bits .and .u64 ar 255, sw, za⟩, 0, ⟨#[]⟩) := rfl
    unfold Ss.saw Rs.saw
    rw [e1, e2]
    exact ⟨⟨rfl, rfl, hpos _ hf, hz, ha⟩, ⟨rfl, hsuf, by show 4 * (ar % 256) = 4 * bits .and .u64 ar 255; rw [and_255 ha0 ha1], rfl, hf, hz, ha⟩⟩
  · have e1 : Ss.step I src ⟨sl, sfr, 4 * zm, sw, so, sln, sc⟩ ⟨4, ar⟩ = (⟨sl, sfr, 4 * zm, ar, so, sln, sc⟩, 0, ⟨#[]⟩) := rfl
    have e2 : Rs.step I src ⟨sl, zm, sw, za⟩ ⟨4, ar⟩ = (⟨sl, zm, bits .and .u64 ar 8589934590, za⟩, 0, ⟨#[]⟩) := rfl
    unfold Ss.saw Rs.saw
    rw [e1, e2]
    exact ⟨⟨rfl, rfl, hpos _ hf, hz, ha⟩, ⟨rfl, hsuf, rfl, hp2.symm, hf, hz, ha⟩⟩
theorem rel_run (I : Idr) (src : List UInt8) : ∀ (ps : List K.S66) (s : Ss) (z : Rs) (e : Bool), RelS src s z e → (∀ p ∈ ps, okStep p ∧ bits .and .u64 p.f1 8589934590 = p.f1) → Agree e ps (Ss.run I src s ps) (Rs.run I src z ps)
  | [], _, _, _, _, _ => trivial
  | p :: ps, s, z, e, h, hp => by
    obtain ⟨h1, h2⟩ := hp p List.mem_cons_self
    obtain ⟨a1, a2⟩ := rel_step (I := I) h p h1 h2
    exact ⟨a1, rel_run I src ps _ _ _ a2 fun q hq => hp q (List.mem_cons_of_mem _ hq)⟩
theorem script_law (F : Stp) (src : List UInt8) (hsu : sureL (items src) = true) (ps : List K.S66) (hp : ∀ p ∈ ps, okStep p ∧ bits .and .u64 p.f1 8589934590 = p.f1) :
    Agree false ps (Ss.run F.cfg.I src (Ss.init src F.cfg.mode F.cfg.white) ps) (Rs.run F.cfg.I src (Rs.init src (spMode F) (spWhite F)) ps) := by
  refine rel_run _ _ ps _ _ false ?_ hp
  have hst := (sure_all2 hsu).2
  refine ⟨hst, List.suffix_refl _, ?_, ?_, fun _ => hst, fun _ => rfl, .inl rfl⟩
  · unfold Ss.init Rs.init spMode Stp.cfg
    cases F.d <;> rfl
  · unfold Ss.init Rs.init spWhite Stp.cfg
    cases F.d <;> rfl
end Go.Proofs.YtmfihkgbfoapaaaDoor
namespace Go.Proofs.YtmfihkgbfoapaaaDoor
set_option linter.unusedVariables false
set_option linter.unusedSimpArgs false
open Go Go.RowKit Go.Lib Go.BigFrame Go.Proofs.YtmfihkgbfoapaaaDoorW.PrintWords Go.Proofs.YtmfihkgbfoapaaaDoorW.PrintLast
theorem eqA35s (d : Nat) (w : World) (x0 y0 : Int) (x1 y1 : Int) (x2 y2 : Int) :
    (Op.equalIn (d + 2) 35 (.agg #[.int .i64 x0, .int .i64 x1, .int .i64 x2]) (.agg #[.int .i64 y0, .int .i64 y1, .int .i64 y2])).run Tryd.prog w = .ok (x0 == y0 && (x1 == y1 && (x2 == y2))) w := K.eqA35 d w x0 y0 x1 y1 x2 y2
theorem eqA70 (d : Nat) (w : World) (x0 y0 : Int) (x1 y1 : ByteArray) (x2 y2 : Int) (x3 y3 : Int) (x4 y4 : Int) (x5 y5 : Int) (x6 y6 : Int) (x7 y7 : Int) :
    (Op.equalIn (d + 3) 70 (.agg #[.int .i64 x0, .string x1, .int .i64 x2, .int .i64 x3, .int .i64 x4, .int .i64 x5, .int .i64 x6, .int .i64 x7]) (.agg #[.int .i64 y0, .string y1, .int .i64 y2, .int .i64 y3, .int .i64 y4, .int .i64 y5, .int .i64 y6, .int .i64 y7])).run Tryd.prog w = .ok (x0 == y0 && (x1.toList == y1.toList && ((x2 == y2 && (x3 == y3 && (x4 == y4))) && ((x5 == y5 && (x6 == y6 && (x7 == y7))))))) w := by
  refine eqA_of Tryd.underlying70 (by kernel_rfl) ?_
  refine eqf_cons (by rfl) (by go_simp; rfl) (by go_simp; rfl) (by go_simp) ?_
  refine eqf_cons (by rfl) (by go_simp; rfl) (by go_simp; rfl) (by go_simp) ?_
  refine eqf_cons (by rfl) (by go_simp) (by go_simp) (eqA35s (d + 0) w _ _ _ _ _ _) ?_
  exact eqf_last (by rfl) (by go_simp) (by go_simp) (eqA35s (d + 0) w _ _ _ _ _ _)
attribute [local go_sem high] eqA70
def StepsAt (W : World) (a : Option Addr) (k : Nat) (st : List K.S66) : Prop := Kd.C K.k66 W a st.length st ∧ st.length ≤ k
theorem step_reads {w : World} {A : Option Addr} {n : Nat} {xs : List K.S66} (h : Kd.C K.k66 w A n xs) (i : Nat) (hi : i < n) {d ar : Int} (ht : K.rd_T66 xs (i : Int) = ⟨d, ar⟩) :
    ∃ g o, A = some ⟨g, o, none⟩ ∧ w.cell? ⟨g, o + i * 2, none⟩ = some (.int .i64 d) ∧ w.cell? ⟨g, o + i * 2 + 1, none⟩ = some (.int .u64 ar) := by
  obtain ⟨⟨g, o, spot⟩, e, x0, x1⟩ := K.at_T66 h (i : Int) (by omega) (by omega)
  rw [ht] at x0 x1
  have hspot : spot = none := by
    obtain ⟨ad0, e0, z0, -⟩ := K.at_T66 h 0 (by omega) (by omega)
    rw [e] at e0
    injection e0 with e0
    subst e0
    simpa [Addr.add] using World.cell?_spot z0
  subst hspot
  simp only [Int.toNat_natCast, Addr.add_lit] at x0 x1
  exact ⟨g, o, e, x0, x1⟩
theorem gset3 {w : World} {q : Nat} {t : TypeId} {a0 a1 a2 a3 a4 a5 a6 a7 : Value} (h : w.heap[q]? = some (.cells #[a0, a1, a2, a3, a4, a5, a6, a7] t (0, 0))) (b2 b3 b4 : Value) {W : World}
    (hW : ((w.setCell ⟨q, 2, none⟩ b2).setCell ⟨q, 3, none⟩ b3).setCell ⟨q, 4, none⟩ b4 = W) : W.heap[q]? = some (.cells #[a0, a1, b2, b3, b4, a5, a6, a7] t (0, 0)) ∧ (∀ k, ¬ k = q → W.heap[k]? = w.heap[k]?) ∧ Below q w W := by
  subst hW
  have h2 := Go.Lib.heap_setCell_same (i := 2) h b2
  have h3 := Go.Lib.heap_setCell_same (i := 3) h2 b3
  have h4 := Go.Lib.heap_setCell_same (i := 4) h3 b4
  refine ⟨h4, fun k hk => ?_, ?_⟩
  · iterate 3 rw [Below.heap_setCell _ _ _ _ (by exact hk)]
  · exact (((Below.refl q w).setCell (p := ⟨q, 2, none⟩) (Nat.le_refl q) _).setCell (p := ⟨q, 3, none⟩) (Nat.le_refl q) _).setCell (p := ⟨q, 4, none⟩) (Nat.le_refl q) _
theorem st_take (st : List K.S66) (j : Nat) (hj : j < st.length) : (st.take (j + 1)).map fitStep = (st.take j).map fitStep ++ [fitStep (K.rd_T66 st (j : Int))] := by
  have e : K.rd_T66 st (j : Int) = st[j] := by unfold K.rd_T66; simp [List.getD_eq_getElem?_getD, List.getElem?_eq_getElem hj]
  rw [e, List.take_succ_eq_append_getElem hj, List.map_append]; rfl
set_option maxRecDepth 100000 in
set_option maxHeartbeats 6400000 in
theorem fnscript (w : World) (a : Option Addr) (k : Nat) (src : List UInt8) (s : Stp) (a3 : Option Addr) (k3 : Nat) (st : List K.S66) (hs : SrcAt w.heap.size w a k src) (hst : StepsAt w a3 k3 st) (hv : Vars w.heap.size w) :
    Calls Tryd.prog 19 #[.slice a src.length k, .agg #[.bool s.d, .int .i64 s.m, .int .u64 s.wh, .bool s.cu, .string s.f1, .string s.f2], .slice a3 st.length k3] w fun e w' => e = .returned (.bool true) ∧ Below w.heap.size w w' := by
  by_cases hbig : (2147483647 : Int) < src.length
  · clear hs hv hst
    go_enter Tryd.func19, Tryd.ntmps19
    go_wp2_with (fail)
    go_ret
    exact ⟨rfl, boxed w s⟩
  by_cases hf : s.f1.size ≤ 2147483647 ∧ s.f2.size ≤ 2147483647
  · by_cases hbig2 : (2147483647 : Int) < st.length
    · have HH := Lib.hid hf
      clear hs hv hf hst
      go_enter Tryd.func19, Tryd.ntmps19
      go_wp2_with (first
        | (go_at_call 20; refine (fits_yes _ s HH.out.1 HH.out.2).mono ?_; rintro e w1 ⟨rfl, hb1⟩))
      go_ret
      exact ⟨rfl, (boxed w s).trans (hb1.mono (Nat.le_of_lt (boxed_lt _ _)))⟩
    have hfo := fit_fitOk s hf.1 hf.2
    have hcl := fit_clean s
    have hfw := fit_white s
    have HH := Lib.hid (And.intro hs (And.intro hv (And.intro hf (And.intro hbig (And.intro hst hbig2)))))
    clear hs hv hf hst
    go_enter Tryd.func19, Tryd.ntmps19
    go_upto_region 3 with (first
      | (go_at_call 20; refine (fits_yes _ s HH.out.2.2.1.1 HH.out.2.2.1.2).mono ?_; rintro e w1 ⟨rfl, hb1⟩))
    have hB1 : Below w.heap.size w w1 := (boxed w s).trans (hb1.mono (Nat.le_of_lt (boxed_lt _ _)))
    have hn1 := (hb1.block _ (boxed_lt _ _)).trans (heap_alloc_new w _)
    obtain ⟨c0, c1, c2, c3, c4, c5⟩ := set_loads hn1
    have HB := Lib.hid (And.intro hB1 hn1)
    clear hb1 hB1 hn1
    obtain ⟨F, hF⟩ : ∃ F, s.fit = F := ⟨_, rfl⟩
    rw [hF] at hfo hcl hfw
    have HF := Lib.hid (And.intro hF (And.intro hfo (And.intro hcl hfw)))
    clear hF hfo hcl hfw
    go_upto_region 4 with (first
      | (go_at_call 21; refine (fit_spec _ s (by have := HH.out.2.2.1.1; omega) (by have := HH.out.2.2.1.2; omega)).mono ?_; rw [HF.out.1]; rintro e w2 ⟨rfl, hb2⟩; have hn2 := (hb2.block _ (lt_of_heap HB.out.2)).trans HB.out.2; have f2 := frozen_of_heap hn2; have g := set_loads hn2; obtain ⟨g0, g1, g2, g3, g4, g5⟩ := g; have HB2 := Lib.hid (And.intro (HB.out.1.trans (hb2.mono HB.out.1.size)) hn2); clear hb2 c0 c1 c2 c3 c4 c5 hn2))
    obtain ⟨w3, hw3⟩ : ∃ W, (((((w2.setCell ⟨w.heap.size, 0, none⟩ (.bool F.d)).setCell ⟨w.heap.size, 1, none⟩ (.int .i64 F.m)).setCell ⟨w.heap.size, 2, none⟩ (.int .u64 F.wh)).setCell ⟨w.heap.size, 3, none⟩ (.bool F.cu)).setCell ⟨w.heap.size, 4, none⟩ (.string F.f1)).setCell ⟨w.heap.size, 5, none⟩ (.string F.f2) = W := ⟨_, rfl⟩
    rw [hw3]
    obtain ⟨n3, b3, z3⟩ := set_stores HB2.out.2 _ _ _ _ _ _ hw3
    have HB3 := Lib.hid (And.intro (HB2.out.1.trans b3) n3)
    clear n3 b3 z3 hw3 f2 g0 g1 g2 g3 g4 g5
    obtain ⟨N, hN⟩ : ∃ x, st.length = x := ⟨_, rfl⟩
    have HN := Lib.hid hN
    rw [hN] at hbig2 ⊢
    obtain ⟨n3, hn3⟩ : ∃ x, w3.heap.size = x := ⟨_, rfl⟩
    have HN3 := Lib.hid hn3
    clear hN hn3
    go_wp2_with (fail)
    go_loopg [7, 34] N (fun kk v t wr => ∃ (j : Nat), j + kk = N ∧ t = .int .i64 (j : Nat) ∧ Kd.R K.k66 66 wr n3 (fun _ => True) v ((st.take j).map fitStep) ∧ Below n3 w3 wr)
    case atStart => exact ⟨0, by omega, rfl, by rw [List.take_zero]; exact Kd.R_nil _ _ _ _ _, Below.refl _ _⟩
    case round =>
      obtain ⟨j, hj, rfl, hR, hb⟩ := hrel
      by_cases hlt : j < N
      · obtain ⟨⟨d, ar⟩, hP⟩ : ∃ P, K.rd_T66 st (j : Int) = P := ⟨_, rfl⟩
        obtain ⟨g3, o3, ha3, y0, y1⟩ := step_reads (Kd.C_below HH.out.2.2.2.2.1.1 (HB3.out.1.trans (hb.mono (by rw [← HN3.out]; exact HB3.out.1.size)))) j (by rw [HN.out]; exact hlt) hP
        subst ha3
        have hjb : (j : Int) ≤ 2147483647 := by omega
        have HJ := Lib.hid (And.intro hj (And.intro hR (And.intro hb (And.intro hP hlt))))
        clear hj hR hb hP
        go_upto_region 8 with (fail)
        obtain ⟨wx, hwx⟩ : ∃ W, wr.alloc (Obj.cells #[Value.int IntKind.i64 d, Value.int IntKind.u64 ar] 66) = W := ⟨_, rfl⟩
        have hbx : Below wr.heap.size wr wx := by rw [← hwx]; exact (Below.refl _ wr).alloc (Nat.le_refl _) _
        have hqx : wx.heap[wr.heap.size]? = some (Obj.cells #[Value.int IntKind.i64 d, Value.int IntKind.u64 ar] 66 (0, 0)) := by rw [← hwx]; exact heap_alloc_new _ _
        rw [hwx]
        have e66 := cell_of_heap (j := 0) hqx
        have e67 := cell_of_heap (j := 1) hqx
        simp at e66 e67
        obtain ⟨D, hD⟩ : ∃ D, Int.tmod (wrap64 (Int.tmod d 5 + 5)) 5 = D := ⟨_, rfl⟩
        obtain ⟨M, hM⟩ : ∃ M, bits .and .u64 ar 8589934590 = M := ⟨_, rfl⟩
        have hfs : fitStep ⟨d, ar⟩ = ⟨D, M⟩ := by unfold fitStep; rw [hD, hM]
        have HX := Lib.hid (And.intro hbx (And.intro hfs (show n3 ≤ wx.heap.size by have h1 := HJ.out.2.2.1.size; have h2 := hbx.size; have h3 := HN3.out; omega)))
        have hlj : ((st.take j).map fitStep).length = j := by rw [List.length_map, List.length_take, HN.out]; omega
        clear hwx hbx hqx hfs y0 y1
        go_wp2_with (first | ((with_reducible refine gate_builtin (b := .append) (xs := #[.tmp 38, .tmp 48]) rfl ?_); at_builtin; refine Kd.R_append K.k66 (w0 := w3) n3 rfl (.tmp 38) (.tmp 48) 64 66 (.agg #[.int .i64 0, .int .u64 0]) 16 rfl Tryd.underlying64 K.info66 rfl (by decide) (by decide) u7 ((st.take j).map fitStep) ⟨D, M⟩ [.int .i64 D, .int .u64 M] (fun _ => True) (fun _ => False) rfl rfl ?aP (fun _ hk => hk.elim) (fun _ _ => trivial) ?aO ?aB ?aS ?aL ?_; (case aP => exact K.k66_mkM _ _ _ (⟨D, M⟩ : K.S66)); (case aO => exact Kd.R_below HJ.out.2.1 HX.out.1); (case aB => exact HJ.out.2.2.1.trans (HX.out.1.mono (by have h1 := HJ.out.2.2.1.size; have h3 := HN3.out; omega))); (case aS => exact HX.out.2.2); (case aL => rw [hlj]; omega); intro x2 wz ho hb hg hat; have HZ := Lib.hid (And.intro ho hb); clear ho hb hg hat))
        go_roundg (N - (j + 1))
        case measure => have h1 := HJ.out.1; have h2 := HJ.out.2.2.2.2; omega
        case rel => exact ⟨j + 1, Nat.add_sub_of_le HJ.out.2.2.2.2, by go_num, by rw [st_take st j (by rw [HN.out]; exact HJ.out.2.2.2.2), HJ.out.2.2.2.1, HX.out.2.1]; exact HZ.out.1, HZ.out.2⟩
      · have hjn : j = N := by omega
        subst hjn
        obtain ⟨ps, hps⟩ : ∃ x, st.map fitStep = x := ⟨_, rfl⟩
        have hpl : ps.length = j := by rw [← hps, List.length_map, HN.out]
        have hpo : ∀ p ∈ ps, okStep p ∧ bits .and .u64 p.f1 8589934590 = p.f1 := by
          rw [← hps]
          intro p hp
          obtain ⟨q, -, rfl⟩ := List.mem_map.1 hp
          exact ⟨fitStep_ok q, fit_again q.f1⟩
        rw [List.take_of_length_le (by rw [HN.out]; exact Nat.le_refl _), hps] at hR
        obtain ⟨A7, c7, e7, hc7, hC7⟩ := Kd.R_reads hR
        rw [hpl] at e7 hc7 hC7
        subst e7
        have hjb : j ≤ 2147483647 := by omega
        have hb2 : Below w3.heap.size w3 wr := by rw [HN3.out]; exact hb
        have hnr := (hb2.block _ (lt_of_heap HB3.out.2)).trans HB3.out.2
        obtain ⟨g0, g1, g2, g3, g4, g5⟩ := set_loads hnr
        have hBR : Below w.heap.size w wr := HB3.out.1.trans (hb2.mono HB3.out.1.size)
        have hl10 : src.length ≤ 10000000000 := by have := HH.out.2.2.2.1; omega
        have hspec := spec_script wr a k src (HH.out.1.up hBR hBR.size) hl10 F HF.out.2.1 HF.out.2.2.2 HF.out.2.2.1 ((HH.out.2.1.move hBR).mono hBR.size) A7 c7 ps (by rw [hpl]; exact hC7) (by omega) (fun p hp => (hpo p hp).1)
        rw [hpl] at hspec
        have HT := Lib.hid hspec
        have HR := Lib.hid (And.intro hBR (And.intro hnr (And.intro hC7 (And.intro hpl (And.intro hpo (And.intro hjb hl10))))))
        clear hR hb hb2 hnr hBR hspec hC7 hc7 hpo hps hj
        go_upto_region 11 with (first
          | (go_at_call 35; refine HT.out.mono ?_; rintro e w4 (⟨rfl, hb4⟩ | ⟨hsu, A, c, rfl, hc, hC, hb4⟩); all_goals (have hn4 := (hb4.block _ (lt_of_heap HR.out.2.1)).trans HR.out.2.1; clear g0 g1 g2 g3 g4 g5; obtain ⟨g0, g1, g2, g3, g4, g5⟩ := set_loads hn4; have H4 := Lib.hid hb4; have HB4 := Lib.hid (And.intro (HR.out.1.trans (hb4.mono HR.out.1.size)) (Kd.C_below HR.out.2.2.1 hb4)); clear hb4 hn4)))
        · go_wp2_with (first
            | (go_at_call 34; refine (script_atn w w4 a none A7 k 0 c7 0 j src [] F ps rfl HR.out.2.2.2.1 HF.out.2.1.ok HB4.out.1 HH.out.1 (SzAt.nil _ _) (by rw [HR.out.2.2.2.1]; exact HB4.out.2) (by rw [HR.out.2.2.2.1]; exact HR.out.2.2.2.2.2.1) (fun p hp => (HR.out.2.2.2.2.1 p hp).1) HR.out.2.2.2.2.2.2 HH.out.2.1).mono ?_; rintro e w5 ⟨A5, c5, rfl, -, hb5⟩; have HB5 := Lib.hid (HB4.out.1.trans (hb5.mono HB4.out.1.size)); clear hb5 g0 g1 g2 g3 g4 g5)
            | (go_at_call 23; refine (works_at w _ HB5.out HH.out.2.1).mono ?_; rintro e w6 ⟨rfl, hb6⟩; have HB6 := Lib.hid (HB5.out.trans (hb6.mono HB5.out.size)); clear hb6))
          go_ret
          exact ⟨rfl, HB6.out⟩
        · have hlaw := script_law F src hsu ps HR.out.2.2.2.2.1
          obtain ⟨LW, hLW⟩ : ∃ x, Rs.run F.cfg.I src (Rs.init src (spMode F) (spWhite F)) ps = x := ⟨_, rfl⟩
          obtain ⟨LG, hLG⟩ : ∃ x, Ss.run F.cfg.I src (Ss.init src F.cfg.mode F.cfg.white) ps = x := ⟨_, rfl⟩
          rw [hLW] at hlaw hC
          rw [hLG] at hlaw
          have HL := Lib.hid (And.intro hlaw (And.intro hLG (And.intro hC hc)))
          clear hlaw hLW hLG hC hc hsu
          go_upto_region 16 with (first
            | (go_at_call 34; refine (script_atn w w4 a none A7 k 0 c7 0 j src [] F ps rfl HR.out.2.2.2.1 HF.out.2.1.ok HB4.out.1 HH.out.1 (SzAt.nil _ _) (by rw [HR.out.2.2.2.1]; exact HB4.out.2) (by rw [HR.out.2.2.2.1]; exact HR.out.2.2.2.2.2.1) (fun p hp => (HR.out.2.2.2.2.1 p hp).1) HR.out.2.2.2.2.2.2 HH.out.2.1).mono ?_; rintro e w5 ⟨A5, c5, rfl, hC5, hb5⟩; have HB5 := Lib.hid (And.intro (HB4.out.1.trans (hb5.mono HB4.out.1.size)) (And.intro hC5 (And.intro (Kd.C_below HL.out.2.2.1 hb5) (Kd.C_below HB4.out.2 hb5)))); clear hb5 hC5 g0 g1 g2 g3 g4 g5))
          have hag := HL.out.1
          have HC5 : Hid (Kd.C K.k37 w5 A5 j LG ∧ Kd.C K.k37 w5 A j LW ∧ Kd.C K.k66 w5 A7 j ps ∧ LG.length = j ∧ LW.length = j ∧ ps.length = j ∧ Below w.heap.size w w5) := Lib.hid (by
            have h1 := HB5.out.2.1
            rw [HL.out.2.1] at h1
            have h2 := hag.len
            have h3 := HR.out.2.2.2.1
            exact ⟨h1, HB5.out.2.2.1, HB5.out.2.2.2, by omega, by omega, h3, HB5.out.1⟩)
          have HAG := Lib.hid hag
          clear hag
          go_wp2_with (fail)
          go_loopg [13, 72] j (fun kk v13 t wr => ∃ (i : Nat) (e : Bool), i + kk = j ∧ t = .int .i64 (i : Nat) ∧ v13 = .bool e ∧ Agree e (ps.drop i) (LG.drop i) (LW.drop i) ∧ Below w5.heap.size w5 wr)
          case atStart => exact ⟨0, false, by omega, rfl, rfl, HAG.out, Below.refl _ _⟩
          case round =>
            obtain ⟨i, e, hi, rfl, rfl, hag, hb⟩ := hrel
            by_cases hlt : i < j
            · obtain ⟨⟨t0, t1, ⟨t2, t3, t4⟩, ⟨t5, t6, t7⟩⟩, hT⟩ : ∃ T, K.rd_T37 LW (i : Int) = T := ⟨_, rfl⟩
              obtain ⟨⟨q0, q1, ⟨c2, c3, c4⟩, ⟨q5, q6, q7⟩⟩, hG⟩ : ∃ T, K.rd_T37 LG (i : Int) = T := ⟨_, rfl⟩
              obtain ⟨⟨d, ar⟩, hP⟩ : ∃ P, K.rd_T66 ps (i : Int) = P := ⟨_, rfl⟩
              obtain ⟨ha1, ha2⟩ := Agree.at_ i e ps LG LW hag (by rw [HC5.out.2.2.2.2.2.1]; exact hlt) (by rw [HC5.out.2.2.2.1]; exact hlt) (by rw [HC5.out.2.2.2.2.1]; exact hlt)
              rw [hT, hG, hP] at ha1
              rw [hT, hP] at ha2
              obtain ⟨e2, he2⟩ : ∃ x, endN e ⟨d, ar⟩ ⟨t0, t1, ⟨t2, t3, t4⟩, ⟨t5, t6, t7⟩⟩ = x := ⟨_, rfl⟩
              rw [he2] at ha1 ha2
              obtain ⟨h0, h1, h3, h4, h5⟩ := ha1
              simp only at h0 h1 h3 h4 h5
              injection h3 with h35 h36 h37
              have h0' := h0.symm
              have h1' := h1.symm
              have h35' := h35.symm
              have h36' := h36.symm
              have h37' := h37.symm
              subst h0' h1' h35' h36' h37'
              clear h0 h1 h35 h36 h37
              obtain ⟨g, o, rfl⟩ := row_spot HC5.out.2.1 (by omega)
              obtain ⟨g5, o5, rfl⟩ := row_spot HC5.out.1 (by omega)
              obtain ⟨g7, o7, rfl, -, -⟩ := step_reads (Kd.C_below HC5.out.2.2.1 hb) i hlt hP
              obtain ⟨x0, x1, x2, x3, x4, x5, x6, x7⟩ := row_reads (Kd.C_below HC5.out.2.1 hb) i hlt hT
              have HI := Lib.hid (And.intro hi (And.intro hb (And.intro ha2 (And.intro hlt (And.intro he2 (And.intro hG (And.intro hP (And.intro h4 h5))))))))
              have hij : (i : Int) ≤ 2147483647 := by omega
              clear hi hb ha2 he2 hT hG hP h4 h5 hag
              go_upto_region 20 with (first | ((with_reducible refine gate_dst (N := 15) rfl ?_); refine box_event ?hg (N := 15) ?hd (cs := #[.int .i64 0, .string (⟨#[]⟩ : ByteArray), .int .i64 0, .int .i64 0, .int .i64 0, .int .i64 0, .int .i64 0, .int .i64 0]) (t := 70) ?hr ?_; (case hd => rfl); (case hg => rfl); (case hr => first | (go_simp; done) | (go_simp; rfl)); intro ga hg gaw hbox hbb; clear x0 x1 x2 x3 x4 x5 x6 x7; have HBXga := Lib.hid (And.intro hg (And.intro hbox hbb)); have fb := frozen_of_heap hbox; have z0 := cell_of_heap (j := 0) hbox; have z1 := cell_of_heap (j := 1) hbox; have z2 := cell_of_heap (j := 2) hbox; have z3 := cell_of_heap (j := 3) hbox; have z4 := cell_of_heap (j := 4) hbox; have z5 := cell_of_heap (j := 5) hbox; have z6 := cell_of_heap (j := 6) hbox; have z7 := cell_of_heap (j := 7) hbox; simp at z0 z1 z2 z3 z4 z5 z6 z7; clear hg hbox hbb))
              obtain ⟨wq1, hwq⟩ : ∃ W, ((((((((gaw.setCell ⟨ga, 0, none⟩ (.int .i64 t0)).setCell ⟨ga, 1, none⟩ (.string t1)).setCell ⟨ga, 2, none⟩ (.int .i64 t2)).setCell ⟨ga, 3, none⟩ (.int .i64 t3)).setCell ⟨ga, 4, none⟩ (.int .i64 t4)).setCell ⟨ga, 5, none⟩ (.int .i64 t5)).setCell ⟨ga, 6, none⟩ (.int .i64 t6)).setCell ⟨ga, 7, none⟩ (.int .i64 t7)) = W := ⟨_, rfl⟩
              rw [hwq]
              obtain ⟨q5a, b5, s5⟩ := box8 HBXga.out.2.1 _ _ _ _ _ _ _ _ hwq
              have hbq : Below wr.heap.size wr wq1 := HBXga.out.2.2.trans (b5.mono (by rw [HBXga.out.1]; exact Nat.le_refl _))
              have hB5 : Below w5.heap.size w5 wq1 := HI.out.2.1.trans (hbq.mono HI.out.2.1.size)
              obtain ⟨x0, x1, x2, x3, x4, x5, x6, x7⟩ := row_reads (Kd.C_below HC5.out.1 hB5) i HI.out.2.2.2.1 HI.out.2.2.2.2.2.1
              have HQ1 := Lib.hid (And.intro q5a hB5)
              have hlt := HI.out.2.2.2.1
              clear hwq fb z0 z1 z2 z3 z4 z5 z6 z7 q5a b5 s5 hbq hB5
              go_upto_region 21 with (first | ((with_reducible refine gate_dst (N := 16) rfl ?_); refine box_event ?hg (N := 16) ?hd (cs := #[.int .i64 0, .string (⟨#[]⟩ : ByteArray), .int .i64 0, .int .i64 0, .int .i64 0, .int .i64 0, .int .i64 0, .int .i64 0]) (t := 70) ?hr ?_; (case hd => rfl); (case hg => rfl); (case hr => first | (go_simp; done) | (go_simp; rfl)); intro gb hg gbw hbox hbb; clear x0 x1 x2 x3 x4 x5 x6 x7; have HBXgb := Lib.hid (And.intro hg (And.intro hbox hbb)); have fb := frozen_of_heap hbox; have z0 := cell_of_heap (j := 0) hbox; have z1 := cell_of_heap (j := 1) hbox; have z2 := cell_of_heap (j := 2) hbox; have z3 := cell_of_heap (j := 3) hbox; have z4 := cell_of_heap (j := 4) hbox; have z5 := cell_of_heap (j := 5) hbox; have z6 := cell_of_heap (j := 6) hbox; have z7 := cell_of_heap (j := 7) hbox; simp at z0 z1 z2 z3 z4 z5 z6 z7; clear hg hbox hbb))
              obtain ⟨wq2, hwq⟩ : ∃ W, ((((((((gbw.setCell ⟨gb, 0, none⟩ (.int .i64 t0)).setCell ⟨gb, 1, none⟩ (.string t1)).setCell ⟨gb, 2, none⟩ (.int .i64 c2)).setCell ⟨gb, 3, none⟩ (.int .i64 c3)).setCell ⟨gb, 4, none⟩ (.int .i64 c4)).setCell ⟨gb, 5, none⟩ (.int .i64 t5)).setCell ⟨gb, 6, none⟩ (.int .i64 t6)).setCell ⟨gb, 7, none⟩ (.int .i64 t7)) = W := ⟨_, rfl⟩
              rw [hwq]
              obtain ⟨q5b, b5, s5⟩ := box8 HBXgb.out.2.1 _ _ _ _ _ _ _ _ hwq
              have hbq : Below wq1.heap.size wq1 wq2 := HBXgb.out.2.2.trans (b5.mono (by rw [HBXgb.out.1]; exact Nat.le_refl _))
              have hB5 : Below w5.heap.size w5 wq2 := HQ1.out.2.trans (hbq.mono HQ1.out.2.size)
              have hgb : w5.heap.size ≤ gb := by rw [HBXgb.out.1]; exact HQ1.out.2.size
              have hqa := (hbq.block _ (lt_of_heap HQ1.out.1)).trans HQ1.out.1
              have hnab : ¬ ga = gb := by have h1 := lt_of_heap HQ1.out.1; have h2 := HBXgb.out.1; omega
              have hnba : ¬ gb = ga := fun e => hnab e.symm
              obtain ⟨g7', o7', e7, y0, -⟩ := step_reads (Kd.C_below HC5.out.2.2.1 hB5) i hlt HI.out.2.2.2.2.2.2.1
              injection e7 with e7
              injection e7 with e7a e7b _
              subst e7a e7b
              have HQ2 := Lib.hid (And.intro hB5 hgb)
              have u0 : wq2.cell? ⟨ga, 0, none⟩ = some (.int .i64 t0) := (cell_of_heap hqa 0).trans rfl
              have u1 : wq2.cell? ⟨ga, 1, none⟩ = some (.string t1) := (cell_of_heap hqa 1).trans rfl
              have u2 : wq2.cell? ⟨ga, 2, none⟩ = some (.int .i64 t2) := (cell_of_heap hqa 2).trans rfl
              have u3 : wq2.cell? ⟨ga, 3, none⟩ = some (.int .i64 t3) := (cell_of_heap hqa 3).trans rfl
              have u4 : wq2.cell? ⟨ga, 4, none⟩ = some (.int .i64 t4) := (cell_of_heap hqa 4).trans rfl
              have u5 : wq2.cell? ⟨ga, 5, none⟩ = some (.int .i64 t5) := (cell_of_heap hqa 5).trans rfl
              have u6 : wq2.cell? ⟨ga, 6, none⟩ = some (.int .i64 t6) := (cell_of_heap hqa 6).trans rfl
              have u7 : wq2.cell? ⟨ga, 7, none⟩ = some (.int .i64 t7) := (cell_of_heap hqa 7).trans rfl
              have v0 : wq2.cell? ⟨gb, 0, none⟩ = some (.int .i64 t0) := (cell_of_heap q5b 0).trans rfl
              have v1 : wq2.cell? ⟨gb, 1, none⟩ = some (.string t1) := (cell_of_heap q5b 1).trans rfl
              have v2 : wq2.cell? ⟨gb, 2, none⟩ = some (.int .i64 c2) := (cell_of_heap q5b 2).trans rfl
              have v3 : wq2.cell? ⟨gb, 3, none⟩ = some (.int .i64 c3) := (cell_of_heap q5b 3).trans rfl
              have v4 : wq2.cell? ⟨gb, 4, none⟩ = some (.int .i64 c4) := (cell_of_heap q5b 4).trans rfl
              have v5 : wq2.cell? ⟨gb, 5, none⟩ = some (.int .i64 t5) := (cell_of_heap q5b 5).trans rfl
              have v6 : wq2.cell? ⟨gb, 6, none⟩ = some (.int .i64 t6) := (cell_of_heap q5b 6).trans rfl
              have v7 : wq2.cell? ⟨gb, 7, none⟩ = some (.int .i64 t7) := (cell_of_heap q5b 7).trans rfl
              have fb2 := frozen_of_heap q5b
              have HG := Lib.hid (And.intro hqa q5b)
              clear hwq fb z0 z1 z2 z3 z4 z5 z6 z7 q5b b5 s5 hbq hB5 hqa hgb
              have hcase : (d = 0 ∧ t0 = -1 ∧ e2 = true) ∨ (d = 0 ∧ ¬ t0 = -1 ∧ e2 = false) ∨ (d = 1 ∧ e2 = false) ∨ (¬ d = 0 ∧ ¬ d = 1 ∧ e = true ∧ e2 = true) ∨ (¬ d = 0 ∧ ¬ d = 1 ∧ e = false ∧ e2 = false) := by
                have he := HI.out.2.2.2.2.1
                unfold endN at he
                simp only at he
                by_cases hd0 : d = 0
                · subst hd0
                  rw [if_pos (.inl rfl)] at he
                  by_cases ht : t0 = -1
                  · left; exact ⟨rfl, ht, by rw [← he, ht]; rfl⟩
                  · right; left; exact ⟨rfl, ht, by rw [← he]; simp [ht]⟩
                · by_cases hd1 : d = 1
                  · subst hd1
                    rw [if_pos (.inr rfl)] at he
                    right; right; left
                    exact ⟨rfl, by rw [← he]; rfl⟩
                  · rw [if_neg (fun h => h.elim hd0 hd1)] at he
                    right; right; right
                    cases e with
                    | true => left; exact ⟨hd0, hd1, rfl, he.symm⟩
                    | false => right; exact ⟨hd0, hd1, rfl, he.symm⟩
              have h4 := HI.out.2.2.2.2.2.2.2.1
              have h5 := HI.out.2.2.2.2.2.2.2.2
              have hij1 : i + 1 ≤ j := hlt
              by_cases hline : t3 = 0
              · have hc3 := h4 hline
                subst hline hc3
                clear h4 h5
                rcases hcase with ⟨rfl, rfl, rfl⟩ | ⟨rfl, ht, rfl⟩ | ⟨rfl, rfl⟩ | ⟨hd0, hd1, rfl, rfl⟩ | ⟨hd0, hd1, rfl, rfl⟩
                · go_upto_region 29 with (fail)
                  obtain ⟨wr1, hwr1⟩ : ∃ W, ((wq2.setCell ⟨gb, 2, none⟩ (.int .i64 t2)).setCell ⟨gb, 3, none⟩ (.int .i64 0)).setCell ⟨gb, 4, none⟩ (.int .i64 t4) = W := ⟨_, rfl⟩
                  rw [hwr1]
                  obtain ⟨k0, l0, b0⟩ := gset3 HG.out.2 (.int .i64 t2) (.int .i64 0) (.int .i64 t4) hwr1
                  obtain ⟨wr2, hwr2⟩ : ∃ W, ((wr1.setCell ⟨gb, 2, none⟩ (.int .i64 t2)).setCell ⟨gb, 3, none⟩ (.int .i64 0)).setCell ⟨gb, 4, none⟩ (.int .i64 t4) = W := ⟨_, rfl⟩
                  rw [hwr2]
                  obtain ⟨k1, l1, b1⟩ := gset3 k0 (.int .i64 t2) (.int .i64 0) (.int .i64 t4) hwr2
                  have hkb : wr2.heap[gb]? = some (Obj.cells #[.int .i64 (-1), .string t1, .int .i64 t2, .int .i64 0, .int .i64 t4, .int .i64 t5, .int .i64 t6, .int .i64 t7] 70 (0, 0)) := k1
                  have hka : wr2.heap[ga]? = some (Obj.cells #[.int .i64 (-1), .string t1, .int .i64 t2, .int .i64 0, .int .i64 t4, .int .i64 t5, .int .i64 t6, .int .i64 t7] 70 (0, 0)) := (l1 ga hnab).trans ((l0 ga hnab).trans (HG.out.1))
                  have HBF := Lib.hid (show Below w5.heap.size w5 wr2 from ((HQ2.out.1).trans (b0.mono HQ2.out.2)).trans (b1.mono HQ2.out.2))
                  have ua0 := cell_of_heap (j := 0) hka
                  have ub0 := cell_of_heap (j := 0) hkb
                  have ua1 := cell_of_heap (j := 1) hka
                  have ub1 := cell_of_heap (j := 1) hkb
                  have ua2 := cell_of_heap (j := 2) hka
                  have ub2 := cell_of_heap (j := 2) hkb
                  have ua3 := cell_of_heap (j := 3) hka
                  have ub3 := cell_of_heap (j := 3) hkb
                  have ua4 := cell_of_heap (j := 4) hka
                  have ub4 := cell_of_heap (j := 4) hkb
                  have ua5 := cell_of_heap (j := 5) hka
                  have ub5 := cell_of_heap (j := 5) hkb
                  have ua6 := cell_of_heap (j := 6) hka
                  have ub6 := cell_of_heap (j := 6) hkb
                  have ua7 := cell_of_heap (j := 7) hka
                  have ub7 := cell_of_heap (j := 7) hkb
                  simp at ua0 ub0 ua1 ub1 ua2 ub2 ua3 ub3 ua4 ub4 ua5 ub5 ua6 ub6 ua7 ub7
                  clear hka hkb u0 u1 u2 u3 u4 u5 u6 u7 v0 v1 v2 v3 v4 v5 v6 v7 fb2 y0 hwr1 k0 l0 b0 hwr2 k1 l1 b1
                  go_wp2_with (fail)
                  go_roundg (j - (i + 1))
                  case measure => have h1 := HI.out.1; have h2 := HI.out.2.2.2.1; omega
                  case rel => exact ⟨i + 1, true, Nat.add_sub_of_le HI.out.2.2.2.1, by go_num, rfl, HI.out.2.2.1, HBF.out⟩
                · have htb : (t0 == -1) = false := beq_eq_false_iff_ne.2 ht
                  go_upto_region 29 with (fail)
                  obtain ⟨wr1, hwr1⟩ : ∃ W, ((wq2.setCell ⟨gb, 2, none⟩ (.int .i64 t2)).setCell ⟨gb, 3, none⟩ (.int .i64 0)).setCell ⟨gb, 4, none⟩ (.int .i64 t4) = W := ⟨_, rfl⟩
                  rw [hwr1]
                  obtain ⟨k0, l0, b0⟩ := gset3 HG.out.2 (.int .i64 t2) (.int .i64 0) (.int .i64 t4) hwr1
                  have hkb : wr1.heap[gb]? = some (Obj.cells #[.int .i64 t0, .string t1, .int .i64 t2, .int .i64 0, .int .i64 t4, .int .i64 t5, .int .i64 t6, .int .i64 t7] 70 (0, 0)) := k0
                  have hka : wr1.heap[ga]? = some (Obj.cells #[.int .i64 t0, .string t1, .int .i64 t2, .int .i64 0, .int .i64 t4, .int .i64 t5, .int .i64 t6, .int .i64 t7] 70 (0, 0)) := (l0 ga hnab).trans (HG.out.1)
                  have HBF := Lib.hid (show Below w5.heap.size w5 wr1 from (HQ2.out.1).trans (b0.mono HQ2.out.2))
                  have ua0 := cell_of_heap (j := 0) hka
                  have ub0 := cell_of_heap (j := 0) hkb
                  have ua1 := cell_of_heap (j := 1) hka
                  have ub1 := cell_of_heap (j := 1) hkb
                  have ua2 := cell_of_heap (j := 2) hka
                  have ub2 := cell_of_heap (j := 2) hkb
                  have ua3 := cell_of_heap (j := 3) hka
                  have ub3 := cell_of_heap (j := 3) hkb
                  have ua4 := cell_of_heap (j := 4) hka
                  have ub4 := cell_of_heap (j := 4) hkb
                  have ua5 := cell_of_heap (j := 5) hka
                  have ub5 := cell_of_heap (j := 5) hkb
                  have ua6 := cell_of_heap (j := 6) hka
                  have ub6 := cell_of_heap (j := 6) hkb
                  have ua7 := cell_of_heap (j := 7) hka
                  have ub7 := cell_of_heap (j := 7) hkb
                  simp at ua0 ub0 ua1 ub1 ua2 ub2 ua3 ub3 ua4 ub4 ua5 ub5 ua6 ub6 ua7 ub7
                  clear hka hkb u0 u1 u2 u3 u4 u5 u6 u7 v0 v1 v2 v3 v4 v5 v6 v7 fb2 y0 hwr1 k0 l0 b0
                  go_wp2_with (fail)
                  go_roundg (j - (i + 1))
                  case measure => have h1 := HI.out.1; have h2 := HI.out.2.2.2.1; omega
                  case rel => exact ⟨i + 1, false, Nat.add_sub_of_le HI.out.2.2.2.1, by go_num, rfl, HI.out.2.2.1, HBF.out⟩
                · go_upto_region 29 with (fail)
                  obtain ⟨wr1, hwr1⟩ : ∃ W, ((wq2.setCell ⟨gb, 2, none⟩ (.int .i64 t2)).setCell ⟨gb, 3, none⟩ (.int .i64 0)).setCell ⟨gb, 4, none⟩ (.int .i64 t4) = W := ⟨_, rfl⟩
                  rw [hwr1]
                  obtain ⟨k0, l0, b0⟩ := gset3 HG.out.2 (.int .i64 t2) (.int .i64 0) (.int .i64 t4) hwr1
                  have hkb : wr1.heap[gb]? = some (Obj.cells #[.int .i64 t0, .string t1, .int .i64 t2, .int .i64 0, .int .i64 t4, .int .i64 t5, .int .i64 t6, .int .i64 t7] 70 (0, 0)) := k0
                  have hka : wr1.heap[ga]? = some (Obj.cells #[.int .i64 t0, .string t1, .int .i64 t2, .int .i64 0, .int .i64 t4, .int .i64 t5, .int .i64 t6, .int .i64 t7] 70 (0, 0)) := (l0 ga hnab).trans (HG.out.1)
                  have HBF := Lib.hid (show Below w5.heap.size w5 wr1 from (HQ2.out.1).trans (b0.mono HQ2.out.2))
                  have ua0 := cell_of_heap (j := 0) hka
                  have ub0 := cell_of_heap (j := 0) hkb
                  have ua1 := cell_of_heap (j := 1) hka
                  have ub1 := cell_of_heap (j := 1) hkb
                  have ua2 := cell_of_heap (j := 2) hka
                  have ub2 := cell_of_heap (j := 2) hkb
                  have ua3 := cell_of_heap (j := 3) hka
                  have ub3 := cell_of_heap (j := 3) hkb
                  have ua4 := cell_of_heap (j := 4) hka
                  have ub4 := cell_of_heap (j := 4) hkb
                  have ua5 := cell_of_heap (j := 5) hka
                  have ub5 := cell_of_heap (j := 5) hkb
                  have ua6 := cell_of_heap (j := 6) hka
                  have ub6 := cell_of_heap (j := 6) hkb
                  have ua7 := cell_of_heap (j := 7) hka
                  have ub7 := cell_of_heap (j := 7) hkb
                  simp at ua0 ub0 ua1 ub1 ua2 ub2 ua3 ub3 ua4 ub4 ua5 ub5 ua6 ub6 ua7 ub7
                  clear hka hkb u0 u1 u2 u3 u4 u5 u6 u7 v0 v1 v2 v3 v4 v5 v6 v7 fb2 y0 hwr1 k0 l0 b0
                  go_wp2_with (fail)
                  go_roundg (j - (i + 1))
                  case measure => have h1 := HI.out.1; have h2 := HI.out.2.2.2.1; omega
                  case rel => exact ⟨i + 1, false, Nat.add_sub_of_le HI.out.2.2.2.1, by go_num, rfl, HI.out.2.2.1, HBF.out⟩
                · have hb0 : (d == 0) = false := beq_eq_false_iff_ne.2 hd0
                  have hb1 : (d == 1) = false := beq_eq_false_iff_ne.2 hd1
                  go_upto_region 29 with (fail)
                  obtain ⟨wr1, hwr1⟩ : ∃ W, ((wq2.setCell ⟨gb, 2, none⟩ (.int .i64 t2)).setCell ⟨gb, 3, none⟩ (.int .i64 0)).setCell ⟨gb, 4, none⟩ (.int .i64 t4) = W := ⟨_, rfl⟩
                  rw [hwr1]
                  obtain ⟨k0, l0, b0⟩ := gset3 HG.out.2 (.int .i64 t2) (.int .i64 0) (.int .i64 t4) hwr1
                  obtain ⟨wr2, hwr2⟩ : ∃ W, ((wr1.setCell ⟨gb, 2, none⟩ (.int .i64 t2)).setCell ⟨gb, 3, none⟩ (.int .i64 0)).setCell ⟨gb, 4, none⟩ (.int .i64 t4) = W := ⟨_, rfl⟩
                  rw [hwr2]
                  obtain ⟨k1, l1, b1⟩ := gset3 k0 (.int .i64 t2) (.int .i64 0) (.int .i64 t4) hwr2
                  have hkb : wr2.heap[gb]? = some (Obj.cells #[.int .i64 t0, .string t1, .int .i64 t2, .int .i64 0, .int .i64 t4, .int .i64 t5, .int .i64 t6, .int .i64 t7] 70 (0, 0)) := k1
                  have hka : wr2.heap[ga]? = some (Obj.cells #[.int .i64 t0, .string t1, .int .i64 t2, .int .i64 0, .int .i64 t4, .int .i64 t5, .int .i64 t6, .int .i64 t7] 70 (0, 0)) := (l1 ga hnab).trans ((l0 ga hnab).trans (HG.out.1))
                  have HBF := Lib.hid (show Below w5.heap.size w5 wr2 from ((HQ2.out.1).trans (b0.mono HQ2.out.2)).trans (b1.mono HQ2.out.2))
                  have ua0 := cell_of_heap (j := 0) hka
                  have ub0 := cell_of_heap (j := 0) hkb
                  have ua1 := cell_of_heap (j := 1) hka
                  have ub1 := cell_of_heap (j := 1) hkb
                  have ua2 := cell_of_heap (j := 2) hka
                  have ub2 := cell_of_heap (j := 2) hkb
                  have ua3 := cell_of_heap (j := 3) hka
                  have ub3 := cell_of_heap (j := 3) hkb
                  have ua4 := cell_of_heap (j := 4) hka
                  have ub4 := cell_of_heap (j := 4) hkb
                  have ua5 := cell_of_heap (j := 5) hka
                  have ub5 := cell_of_heap (j := 5) hkb
                  have ua6 := cell_of_heap (j := 6) hka
                  have ub6 := cell_of_heap (j := 6) hkb
                  have ua7 := cell_of_heap (j := 7) hka
                  have ub7 := cell_of_heap (j := 7) hkb
                  simp at ua0 ub0 ua1 ub1 ua2 ub2 ua3 ub3 ua4 ub4 ua5 ub5 ua6 ub6 ua7 ub7
                  clear hka hkb u0 u1 u2 u3 u4 u5 u6 u7 v0 v1 v2 v3 v4 v5 v6 v7 fb2 y0 hwr1 k0 l0 b0 hwr2 k1 l1 b1
                  go_wp2_with (fail)
                  go_roundg (j - (i + 1))
                  case measure => have h1 := HI.out.1; have h2 := HI.out.2.2.2.1; omega
                  case rel => exact ⟨i + 1, true, Nat.add_sub_of_le HI.out.2.2.2.1, by go_num, rfl, HI.out.2.2.1, HBF.out⟩
                · have hb0 : (d == 0) = false := beq_eq_false_iff_ne.2 hd0
                  have hb1 : (d == 1) = false := beq_eq_false_iff_ne.2 hd1
                  go_upto_region 29 with (fail)
                  obtain ⟨wr1, hwr1⟩ : ∃ W, ((wq2.setCell ⟨gb, 2, none⟩ (.int .i64 t2)).setCell ⟨gb, 3, none⟩ (.int .i64 0)).setCell ⟨gb, 4, none⟩ (.int .i64 t4) = W := ⟨_, rfl⟩
                  rw [hwr1]
                  obtain ⟨k0, l0, b0⟩ := gset3 HG.out.2 (.int .i64 t2) (.int .i64 0) (.int .i64 t4) hwr1
                  have hkb : wr1.heap[gb]? = some (Obj.cells #[.int .i64 t0, .string t1, .int .i64 t2, .int .i64 0, .int .i64 t4, .int .i64 t5, .int .i64 t6, .int .i64 t7] 70 (0, 0)) := k0
                  have hka : wr1.heap[ga]? = some (Obj.cells #[.int .i64 t0, .string t1, .int .i64 t2, .int .i64 0, .int .i64 t4, .int .i64 t5, .int .i64 t6, .int .i64 t7] 70 (0, 0)) := (l0 ga hnab).trans (HG.out.1)
                  have HBF := Lib.hid (show Below w5.heap.size w5 wr1 from (HQ2.out.1).trans (b0.mono HQ2.out.2))
                  have ua0 := cell_of_heap (j := 0) hka
                  have ub0 := cell_of_heap (j := 0) hkb
                  have ua1 := cell_of_heap (j := 1) hka
                  have ub1 := cell_of_heap (j := 1) hkb
                  have ua2 := cell_of_heap (j := 2) hka
                  have ub2 := cell_of_heap (j := 2) hkb
                  have ua3 := cell_of_heap (j := 3) hka
                  have ub3 := cell_of_heap (j := 3) hkb
                  have ua4 := cell_of_heap (j := 4) hka
                  have ub4 := cell_of_heap (j := 4) hkb
                  have ua5 := cell_of_heap (j := 5) hka
                  have ub5 := cell_of_heap (j := 5) hkb
                  have ua6 := cell_of_heap (j := 6) hka
                  have ub6 := cell_of_heap (j := 6) hkb
                  have ua7 := cell_of_heap (j := 7) hka
                  have ub7 := cell_of_heap (j := 7) hkb
                  simp at ua0 ub0 ua1 ub1 ua2 ub2 ua3 ub3 ua4 ub4 ua5 ub5 ua6 ub6 ua7 ub7
                  clear hka hkb u0 u1 u2 u3 u4 u5 u6 u7 v0 v1 v2 v3 v4 v5 v6 v7 fb2 y0 hwr1 k0 l0 b0
                  go_wp2_with (fail)
                  go_roundg (j - (i + 1))
                  case measure => have h1 := HI.out.1; have h2 := HI.out.2.2.2.1; omega
                  case rel => exact ⟨i + 1, false, Nat.add_sub_of_le HI.out.2.2.2.1, by go_num, rfl, HI.out.2.2.1, HBF.out⟩
              · have hlb : (t3 == 0) = false := beq_eq_false_iff_ne.2 hline
                clear h4
                rcases hcase with ⟨rfl, rfl, rfl⟩ | ⟨rfl, ht, rfl⟩ | ⟨rfl, rfl⟩ | ⟨hd0, hd1, rfl, rfl⟩ | ⟨hd0, hd1, rfl, rfl⟩
                · clear h5
                  go_upto_region 29 with (fail)
                  obtain ⟨wr1, hwr1⟩ : ∃ W, ((wq2.setCell ⟨gb, 2, none⟩ (.int .i64 t2)).setCell ⟨gb, 3, none⟩ (.int .i64 t3)).setCell ⟨gb, 4, none⟩ (.int .i64 t4) = W := ⟨_, rfl⟩
                  rw [hwr1]
                  obtain ⟨k0, l0, b0⟩ := gset3 HG.out.2 (.int .i64 t2) (.int .i64 t3) (.int .i64 t4) hwr1
                  have hkb : wr1.heap[gb]? = some (Obj.cells #[.int .i64 (-1), .string t1, .int .i64 t2, .int .i64 t3, .int .i64 t4, .int .i64 t5, .int .i64 t6, .int .i64 t7] 70 (0, 0)) := k0
                  have hka : wr1.heap[ga]? = some (Obj.cells #[.int .i64 (-1), .string t1, .int .i64 t2, .int .i64 t3, .int .i64 t4, .int .i64 t5, .int .i64 t6, .int .i64 t7] 70 (0, 0)) := (l0 ga hnab).trans (HG.out.1)
                  have HBF := Lib.hid (show Below w5.heap.size w5 wr1 from (HQ2.out.1).trans (b0.mono HQ2.out.2))
                  have ua0 := cell_of_heap (j := 0) hka
                  have ub0 := cell_of_heap (j := 0) hkb
                  have ua1 := cell_of_heap (j := 1) hka
                  have ub1 := cell_of_heap (j := 1) hkb
                  have ua2 := cell_of_heap (j := 2) hka
                  have ub2 := cell_of_heap (j := 2) hkb
                  have ua3 := cell_of_heap (j := 3) hka
                  have ub3 := cell_of_heap (j := 3) hkb
                  have ua4 := cell_of_heap (j := 4) hka
                  have ub4 := cell_of_heap (j := 4) hkb
                  have ua5 := cell_of_heap (j := 5) hka
                  have ub5 := cell_of_heap (j := 5) hkb
                  have ua6 := cell_of_heap (j := 6) hka
                  have ub6 := cell_of_heap (j := 6) hkb
                  have ua7 := cell_of_heap (j := 7) hka
                  have ub7 := cell_of_heap (j := 7) hkb
                  simp at ua0 ub0 ua1 ub1 ua2 ub2 ua3 ub3 ua4 ub4 ua5 ub5 ua6 ub6 ua7 ub7
                  clear hka hkb u0 u1 u2 u3 u4 u5 u6 u7 v0 v1 v2 v3 v4 v5 v6 v7 fb2 y0 hwr1 k0 l0 b0
                  go_wp2_with (fail)
                  go_roundg (j - (i + 1))
                  case measure => have h1 := HI.out.1; have h2 := HI.out.2.2.2.1; omega
                  case rel => exact ⟨i + 1, true, Nat.add_sub_of_le HI.out.2.2.2.1, by go_num, rfl, HI.out.2.2.1, HBF.out⟩
                · have htb : (t0 == -1) = false := beq_eq_false_iff_ne.2 ht
                  have h6 := (h5.resolve_left hline).resolve_left (by decide)
                  injection h6 with h62 h63 h64
                  have h62' := h62.symm
                  have h63' := h63.symm
                  have h64' := h64.symm
                  subst h62' h63' h64'
                  clear h5 h62 h63 h64
                  go_upto_region 29 with (fail)
                  have hkb : wq2.heap[gb]? = some (Obj.cells #[.int .i64 t0, .string t1, .int .i64 t2, .int .i64 t3, .int .i64 t4, .int .i64 t5, .int .i64 t6, .int .i64 t7] 70 (0, 0)) := HG.out.2
                  have hka : wq2.heap[ga]? = some (Obj.cells #[.int .i64 t0, .string t1, .int .i64 t2, .int .i64 t3, .int .i64 t4, .int .i64 t5, .int .i64 t6, .int .i64 t7] 70 (0, 0)) := HG.out.1
                  have HBF := Lib.hid (show Below w5.heap.size w5 wq2 from HQ2.out.1)
                  have ua0 := cell_of_heap (j := 0) hka
                  have ub0 := cell_of_heap (j := 0) hkb
                  have ua1 := cell_of_heap (j := 1) hka
                  have ub1 := cell_of_heap (j := 1) hkb
                  have ua2 := cell_of_heap (j := 2) hka
                  have ub2 := cell_of_heap (j := 2) hkb
                  have ua3 := cell_of_heap (j := 3) hka
                  have ub3 := cell_of_heap (j := 3) hkb
                  have ua4 := cell_of_heap (j := 4) hka
                  have ub4 := cell_of_heap (j := 4) hkb
                  have ua5 := cell_of_heap (j := 5) hka
                  have ub5 := cell_of_heap (j := 5) hkb
                  have ua6 := cell_of_heap (j := 6) hka
                  have ub6 := cell_of_heap (j := 6) hkb
                  have ua7 := cell_of_heap (j := 7) hka
                  have ub7 := cell_of_heap (j := 7) hkb
                  simp at ua0 ub0 ua1 ub1 ua2 ub2 ua3 ub3 ua4 ub4 ua5 ub5 ua6 ub6 ua7 ub7
                  clear hka hkb u0 u1 u2 u3 u4 u5 u6 u7 v0 v1 v2 v3 v4 v5 v6 v7 fb2 y0
                  go_wp2_with (fail)
                  go_roundg (j - (i + 1))
                  case measure => have h1 := HI.out.1; have h2 := HI.out.2.2.2.1; omega
                  case rel => exact ⟨i + 1, false, Nat.add_sub_of_le HI.out.2.2.2.1, by go_num, rfl, HI.out.2.2.1, HBF.out⟩
                · have h6 := (h5.resolve_left hline).resolve_left (by decide)
                  injection h6 with h62 h63 h64
                  have h62' := h62.symm
                  have h63' := h63.symm
                  have h64' := h64.symm
                  subst h62' h63' h64'
                  clear h5 h62 h63 h64
                  go_upto_region 29 with (fail)
                  have hkb : wq2.heap[gb]? = some (Obj.cells #[.int .i64 t0, .string t1, .int .i64 t2, .int .i64 t3, .int .i64 t4, .int .i64 t5, .int .i64 t6, .int .i64 t7] 70 (0, 0)) := HG.out.2
                  have hka : wq2.heap[ga]? = some (Obj.cells #[.int .i64 t0, .string t1, .int .i64 t2, .int .i64 t3, .int .i64 t4, .int .i64 t5, .int .i64 t6, .int .i64 t7] 70 (0, 0)) := HG.out.1
                  have HBF := Lib.hid (show Below w5.heap.size w5 wq2 from HQ2.out.1)
                  have ua0 := cell_of_heap (j := 0) hka
                  have ub0 := cell_of_heap (j := 0) hkb
                  have ua1 := cell_of_heap (j := 1) hka
                  have ub1 := cell_of_heap (j := 1) hkb
                  have ua2 := cell_of_heap (j := 2) hka
                  have ub2 := cell_of_heap (j := 2) hkb
                  have ua3 := cell_of_heap (j := 3) hka
                  have ub3 := cell_of_heap (j := 3) hkb
                  have ua4 := cell_of_heap (j := 4) hka
                  have ub4 := cell_of_heap (j := 4) hkb
                  have ua5 := cell_of_heap (j := 5) hka
                  have ub5 := cell_of_heap (j := 5) hkb
                  have ua6 := cell_of_heap (j := 6) hka
                  have ub6 := cell_of_heap (j := 6) hkb
                  have ua7 := cell_of_heap (j := 7) hka
                  have ub7 := cell_of_heap (j := 7) hkb
                  simp at ua0 ub0 ua1 ub1 ua2 ub2 ua3 ub3 ua4 ub4 ua5 ub5 ua6 ub6 ua7 ub7
                  clear hka hkb u0 u1 u2 u3 u4 u5 u6 u7 v0 v1 v2 v3 v4 v5 v6 v7 fb2 y0
                  go_wp2_with (fail)
                  go_roundg (j - (i + 1))
                  case measure => have h1 := HI.out.1; have h2 := HI.out.2.2.2.1; omega
                  case rel => exact ⟨i + 1, false, Nat.add_sub_of_le HI.out.2.2.2.1, by go_num, rfl, HI.out.2.2.1, HBF.out⟩
                · have hb0 : (d == 0) = false := beq_eq_false_iff_ne.2 hd0
                  have hb1 : (d == 1) = false := beq_eq_false_iff_ne.2 hd1
                  clear h5
                  go_upto_region 29 with (fail)
                  obtain ⟨wr1, hwr1⟩ : ∃ W, ((wq2.setCell ⟨gb, 2, none⟩ (.int .i64 t2)).setCell ⟨gb, 3, none⟩ (.int .i64 t3)).setCell ⟨gb, 4, none⟩ (.int .i64 t4) = W := ⟨_, rfl⟩
                  rw [hwr1]
                  obtain ⟨k0, l0, b0⟩ := gset3 HG.out.2 (.int .i64 t2) (.int .i64 t3) (.int .i64 t4) hwr1
                  have hkb : wr1.heap[gb]? = some (Obj.cells #[.int .i64 t0, .string t1, .int .i64 t2, .int .i64 t3, .int .i64 t4, .int .i64 t5, .int .i64 t6, .int .i64 t7] 70 (0, 0)) := k0
                  have hka : wr1.heap[ga]? = some (Obj.cells #[.int .i64 t0, .string t1, .int .i64 t2, .int .i64 t3, .int .i64 t4, .int .i64 t5, .int .i64 t6, .int .i64 t7] 70 (0, 0)) := (l0 ga hnab).trans (HG.out.1)
                  have HBF := Lib.hid (show Below w5.heap.size w5 wr1 from (HQ2.out.1).trans (b0.mono HQ2.out.2))
                  have ua0 := cell_of_heap (j := 0) hka
                  have ub0 := cell_of_heap (j := 0) hkb
                  have ua1 := cell_of_heap (j := 1) hka
                  have ub1 := cell_of_heap (j := 1) hkb
                  have ua2 := cell_of_heap (j := 2) hka
                  have ub2 := cell_of_heap (j := 2) hkb
                  have ua3 := cell_of_heap (j := 3) hka
                  have ub3 := cell_of_heap (j := 3) hkb
                  have ua4 := cell_of_heap (j := 4) hka
                  have ub4 := cell_of_heap (j := 4) hkb
                  have ua5 := cell_of_heap (j := 5) hka
                  have ub5 := cell_of_heap (j := 5) hkb
                  have ua6 := cell_of_heap (j := 6) hka
                  have ub6 := cell_of_heap (j := 6) hkb
                  have ua7 := cell_of_heap (j := 7) hka
                  have ub7 := cell_of_heap (j := 7) hkb
                  simp at ua0 ub0 ua1 ub1 ua2 ub2 ua3 ub3 ua4 ub4 ua5 ub5 ua6 ub6 ua7 ub7
                  clear hka hkb u0 u1 u2 u3 u4 u5 u6 u7 v0 v1 v2 v3 v4 v5 v6 v7 fb2 y0 hwr1 k0 l0 b0
                  go_wp2_with (fail)
                  go_roundg (j - (i + 1))
                  case measure => have h1 := HI.out.1; have h2 := HI.out.2.2.2.1; omega
                  case rel => exact ⟨i + 1, true, Nat.add_sub_of_le HI.out.2.2.2.1, by go_num, rfl, HI.out.2.2.1, HBF.out⟩
                · have hb0 : (d == 0) = false := beq_eq_false_iff_ne.2 hd0
                  have hb1 : (d == 1) = false := beq_eq_false_iff_ne.2 hd1
                  have h6 := (h5.resolve_left hline).resolve_left (by decide)
                  injection h6 with h62 h63 h64
                  have h62' := h62.symm
                  have h63' := h63.symm
                  have h64' := h64.symm
                  subst h62' h63' h64'
                  clear h5 h62 h63 h64
                  go_upto_region 29 with (fail)
                  have hkb : wq2.heap[gb]? = some (Obj.cells #[.int .i64 t0, .string t1, .int .i64 t2, .int .i64 t3, .int .i64 t4, .int .i64 t5, .int .i64 t6, .int .i64 t7] 70 (0, 0)) := HG.out.2
                  have hka : wq2.heap[ga]? = some (Obj.cells #[.int .i64 t0, .string t1, .int .i64 t2, .int .i64 t3, .int .i64 t4, .int .i64 t5, .int .i64 t6, .int .i64 t7] 70 (0, 0)) := HG.out.1
                  have HBF := Lib.hid (show Below w5.heap.size w5 wq2 from HQ2.out.1)
                  have ua0 := cell_of_heap (j := 0) hka
                  have ub0 := cell_of_heap (j := 0) hkb
                  have ua1 := cell_of_heap (j := 1) hka
                  have ub1 := cell_of_heap (j := 1) hkb
                  have ua2 := cell_of_heap (j := 2) hka
                  have ub2 := cell_of_heap (j := 2) hkb
                  have ua3 := cell_of_heap (j := 3) hka
                  have ub3 := cell_of_heap (j := 3) hkb
                  have ua4 := cell_of_heap (j := 4) hka
                  have ub4 := cell_of_heap (j := 4) hkb
                  have ua5 := cell_of_heap (j := 5) hka
                  have ub5 := cell_of_heap (j := 5) hkb
                  have ua6 := cell_of_heap (j := 6) hka
                  have ub6 := cell_of_heap (j := 6) hkb
                  have ua7 := cell_of_heap (j := 7) hka
                  have ub7 := cell_of_heap (j := 7) hkb
                  simp at ua0 ub0 ua1 ub1 ua2 ub2 ua3 ub3 ua4 ub4 ua5 ub5 ua6 ub6 ua7 ub7
                  clear hka hkb u0 u1 u2 u3 u4 u5 u6 u7 v0 v1 v2 v3 v4 v5 v6 v7 fb2 y0
                  go_wp2_with (fail)
                  go_roundg (j - (i + 1))
                  case measure => have h1 := HI.out.1; have h2 := HI.out.2.2.2.1; omega
                  case rel => exact ⟨i + 1, false, Nat.add_sub_of_le HI.out.2.2.2.1, by go_num, rfl, HI.out.2.2.1, HBF.out⟩
            · have HW := Lib.hid (HC5.out.2.2.2.2.2.2.trans (hb.mono HC5.out.2.2.2.2.2.2.size))
              clear hb hag
              go_wp2_with (first
                | (go_at_call 23; refine (works_at w _ HW.out HH.out.2.1).mono ?_; rintro e w9 ⟨rfl, hb9⟩))
              go_ret
              exact ⟨rfl, HW.out.trans (hb9.mono HW.out.size)⟩
  · have HH := Lib.hid hf
    clear hs hv hf hst
    go_enter Tryd.func19, Tryd.ntmps19
    go_wp2_with (first
      | (go_at_call 20; refine (fits_no _ s HH.out).mono ?_; rintro e w1 ⟨rfl, hb1⟩))
    go_ret
    exact ⟨rfl, (boxed w s).trans (hb1.mono (Nat.le_of_lt (boxed_lt _ _)))⟩
end Go.Proofs.YtmfihkgbfoapaaaDoor
namespace Go.Proofs.YtmfihkgbfoapaaaDoor
set_option linter.unusedVariables false
open Go Go.RowKit Go.Lib Go.Shelf Go.ChangeShapes Go.WideShapes Go.ChangeAt Go.Deep Go.Proofs.YtmfihkgbfoapaaaDoorW.PrintWords
theorem cells66 : Tryd.prog.cellsOf 66 = 2 := by kernel_rfl
set_option maxRecDepth 100000 in
theorem open_steps {H : Type} {enc : TypeId × Value → H} {W : World} {base : Nat} {v1 : Value} {d1 : DataW H} {p1 : List MemPlace} (hval : Value.okWide Tryd.prog W .any base 64 v1) (h1 : DataW.Trod enc Tryd.prog W 0 (fun _ => true) true 64 v1 d1 p1) :
    ∃ a k st, v1 = .slice a st.length k ∧ StepsAt W a k st := by
  obtain ⟨a1, len, cap, rfl⟩ := okWide_slice Tryd.underlying64 hval
  obtain ⟨fuel, hf⟩ := h1
  rcases open_slice_pairs Tryd.underlying64 Tryd.underlying66 cells66 rfl rfl cells3 cells23 hf with ⟨hcs, hx⟩ | ⟨a, len', cap', m, n, V0, V1, D0, D1, P0, P1, hcs, _, hl, hm, hmm, hx, hall⟩
  · simp [Value.cells] at hcs
    obtain ⟨rfl, rfl, rfl⟩ := hcs
    exact ⟨none, 0, [], rfl, ⟨rfl, by decide, fun h => absurd h (Nat.lt_irrefl 0)⟩, Nat.le_refl _⟩
  · simp [Value.cells] at hcs
    obtain ⟨rfl, rfl, rfl⟩ := hcs
    simp only [if_true] at hmm
    have hv : ∀ i, i < len → ∃ q : K.S66, V0 i = .int .i64 q.f0 ∧ V1 i = .int .u64 q.f1 := by
      intro i hi
      obtain ⟨-, -, t0, t1⟩ := hall i (by omega)
      obtain ⟨x, e0, -⟩ := DataW.trod_int Tryd.underlying3 t0
      obtain ⟨y, e1, -⟩ := DataW.trod_int Tryd.underlying23 t1
      injection e0 with e0
      injection e1 with e1
      exact ⟨⟨x, y⟩, e0, e1⟩
    haveI : Inhabited K.S66 := ⟨K.z66⟩
    obtain ⟨q, hq⟩ := choose_lt hv
    refine ⟨some a, cap, (List.range len).map q, by rw [List.length_map, List.length_range], ?_, by rw [List.length_map, List.length_range]; exact hl⟩
    rw [List.length_map, List.length_range]
    refine ⟨by rw [List.length_map, List.length_range], by unfold maxLen at hm; omega, fun h0 => ⟨a, rfl, fun j p hp => ?_⟩⟩
    have hj : j < len := by
      have := (List.getElem?_eq_some_iff.1 hp).1
      simpa using this
    have hpj : q j = p := by simpa [hj] using hp
    obtain ⟨c0, c1, -, -⟩ := hall j (by omega)
    obtain ⟨e0, e1⟩ := hq j hj
    rw [e0, hpj] at c0
    rw [e1, hpj] at c1
    refine ⟨_, rfl, K.k66_mk W p, fun i u hu => ?_⟩
    rcases i with _ | _ | i
    · rw [← Option.some.inj hu]; exact c0
    · rw [← Option.some.inj hu]; exact c1
    · cases hu
end Go.Proofs.YtmfihkgbfoapaaaDoor
