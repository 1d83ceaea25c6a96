/- Words of the print that an append of bytes uses. -/
import Derived.Test.YtmfihkgbfoapaaaDoorZWWords
namespace Go.Proofs.YtmfihkgbfoapaaaDoorW.PrintWords
open Go.RowKit
set_option linter.unusedVariables false
set_option linter.unusedSimpArgs false
section
variable {α : Type} {enc : α → Value} {d : α}
theorem encs_get (xs : List α) (j : Nat) (h : j < xs.length) : (encs enc xs)[j]? = some (enc (xs.getD j d)) := by
  simp [encs, List.getElem?_eq_getElem h, List.getD_eq_getElem?_getD]
end
section
variable {α : Type} {P : Program} {ops : Array Oper} {rest : List Oper} {o : Oper} {a : Act} {Q : Exit → Act → World → Prop}
theorem print_append_row_of {w0 W : World} (enc : α → Value) (d : α) (base : Nat) (hgd : o.guard = none) (s x : Operand) (t e : TypeId) (z : Value) (bytes : Nat)
    (ho : o.op = .call { callee := .builtin .append, args := #[s, x], argTypes := #[t, t] })
    (ht : P.underlying t = some (.slice e)) (hinfo : (P.info? e).map (fun i => (i.zero, i.size, i.bytes)) = some (some z, 1, bytes)) (hz : z.cells.size = 1) (hb0 : 0 < bytes) (h1 : ∀ x : α, (enc x).oneCell' = true)
    (v : Value) (xs ys : List α) (A : Option Addr) (m c : Nat) (hs : a.eval s = v) (hx : a.eval x = .slice A m c)
    (HO : W.ownsRow base e 1 v xs.length (encs enc xs)) (HR : ReadsOf enc d W A m ys) (HB : Below base w0 W) (hbase : base ≤ W.heap.size) (hl : (xs.length + m) * bytes ≤ 140737488355328)
    (h : ∀ v1 w1, w1.ownsRow base e 1 v1 (xs ++ ys).length (encs enc (xs ++ ys)) → Below base w0 w1 → W.grownBy w1 v.ownBlock → (v1.ownBlock = v.ownBlock ∨ ∃ b, v1.ownBlock = some b ∧ W.heap.size ≤ b) → wpList P ops Q rest (a.put o.dst v1) w1) :
    wpList P ops Q (o :: rest) a W := by
  obtain ⟨i0, hi, hzz⟩ := Option.map_eq_some_iff.1 hinfo
  simp only [Prod.mk.injEq] at hzz
  obtain ⟨hz0, hz1, hz2⟩ := hzz
  have hm : ys.length = m := HR.1
  have hlen : xs.length + m ≤ 140737488355328 := Nat.le_trans (Nat.le_mul_of_pos_right _ hb0) hl
  have hrun : ∃ v1 w1, (Builtin.append_ #[t, t] o.type #[v, .slice A m c]).run P W = .ok v1 w1 ∧ w1.ownsRow base e 1 v1 (xs ++ ys).length (encs enc (xs ++ ys)) ∧ W.grownBy w1 v.ownBlock ∧ (v1.ownBlock = v.ownBlock ∨ v1.ownBlock = some W.heap.size) := by
    rcases A with _ | ad
    · have h0 : m = 0 := by
        rcases Nat.eq_zero_or_pos m with h0 | h0
        · exact h0
        · obtain ⟨ad, h, _⟩ := HR.2.2 h0
          cases h
      subst h0
      obtain rfl : ys = [] := List.eq_nil_of_length_eq_zero hm
      refine ⟨v, W, ?_, by simpa using HO, World.grownBy.refl W _, .inl rfl⟩
      rcases HO.2 with ⟨rfl, hn⟩ | ⟨g, cap, cur, rfl, _, _, hnc, _⟩
      · simp [Builtin.append_, run_underlying ht, sizeOf, typeInfo, hi, Builtin.lenOf, Builtin.firstCells]
      · simp [Builtin.append_, run_underlying ht, sizeOf, typeInfo, hi, Builtin.lenOf, Builtin.firstCells, hnc, storeCells]
    · have hcells : ∀ j u, (encs enc ys)[j]? = some u → W.cell? (ad.add j) = some u := by
        intro j u hu
        have hj : j < ys.length := by
          rcases Nat.lt_or_ge j ys.length with h | h
          · exact h
          · simp [encs, List.getElem?_eq_none h] at hu
        obtain ⟨ad', h', hc⟩ := HR.2.2 (by omega)
        injection h' with h'
        subst h'
        rw [encs_get (d := d) ys j hj] at hu
        rw [← hu]
        exact hc j (by omega)
      obtain ⟨v1, w1, hr, h2, h3, _, h5⟩ := run_append_own_at (P := P) W base t o.type e i0 z 1 bytes ht hi hz0 hz1 hz2 hz (by omega) v xs.length (encs enc xs) HO ad m c (encs enc ys) (by simp [encs, hm]) hcells
        (by intro u hu; simp only [encs, List.mem_map] at hu; obtain ⟨q, _, rfl⟩ := hu; exact h1 q) (by simp only [maxLen]; omega) hl hbase
      exact ⟨v1, w1, hr, by simpa [encs, hm] using h2, h3, h5⟩
  obtain ⟨v1, w1, hr, hown, hg, hat⟩ := hrun
  refine wpList_plain hgd fun K hK => ?_
  unfold Oper.wp execOp
  simp only [ho, resolve, invoke, builtin, Sem.run_bind, Sem.run_pure, Result.andThen_ok, List.map_toArray, List.map_cons, List.map_nil, hs, hx, hr]
  refine hK _ _ (h v1 w1 hown (HB.grown hg hbase (own_base HO)) hg ?_)
  rcases hat with hat | hat
  · exact .inl hat
  · exact .inr ⟨_, hat, Nat.le_refl _⟩
end
namespace Kd
theorem own_of_R {α : Type} {enc : α → Value} {h1 : ∀ x, (enc x).oneCell' = true} {e : Nat} {w : World} {base : Nat} {ok : Nat → Prop} {v : Value} {xs : List α} (h : (scalar enc h1).R e w base ok v xs) : w.ownsRow base e 1 v xs.length (encs enc xs) := by
  obtain ⟨_, inner, ho, hr⟩ := h
  have : inner = encs enc xs := by
    apply List.ext_getElem?
    intro j
    rcases Nat.lt_or_ge j xs.length with hj | hj
    · have h2 := hr.2 j _ (List.getElem?_eq_getElem hj)
      have hl : j < inner.length := by have := hr.1; simp [scalar] at this; omega
      have h3 : (inner.drop (j * 1)).take 1 = [enc xs[j]] := h2
      rw [Nat.mul_one, List.drop_eq_getElem_cons hl] at h3
      have h4 : inner[j] = enc xs[j] := by
        have h5 := congrArg List.head? h3
        rw [List.take_succ_cons] at h5
        exact Option.some.inj h5
      rw [List.getElem?_eq_getElem hl, h4]
      simp [encs, List.getElem?_eq_getElem hj]
    · have h3 : inner.length = xs.length := by have := hr.1; simp [scalar] at this; omega
      rw [List.getElem?_eq_none (by omega), List.getElem?_eq_none (by rw [encs_length]; omega)]
  rw [← this]
  exact ho
end Kd
section
variable {P : Program} {ops : Array Oper} {rest : List Oper} {o : Oper} {a : Act} {Q : Exit → Act → World → Prop}
theorem Kd.R_append_row {α : Type} (enc : α → Value) (d : α) {h1 : ∀ x : α, (enc x).oneCell' = true} {w0 W : World} (base : Nat) (hgd : o.guard = none) (s x : Operand) (t e : TypeId) (z : Value) (bytes : Nat)
    (ho : o.op = .call { callee := .builtin .append, args := #[s, x], argTypes := #[t, t] })
    (ht : P.underlying t = some (.slice e)) (hinfo : (P.info? e).map (fun i => (i.zero, i.size, i.bytes)) = some (some z, 1, bytes)) (hz : z.cells.size = 1) (hb0 : 0 < bytes)
    (v : Value) (xs ys : List α) (A : Option Addr) (m c : Nat) (ok : Nat → Prop) (hs : a.eval s = v) (hx : a.eval x = .slice A m c) (hfresh : ∀ k, W.heap.size ≤ k → ok k)
    (HO : (Kd.scalar enc h1).R e W base ok v xs) (HR : (Kd.scalar enc h1).C W A m ys) (HB : Below base w0 W) (hbase : base ≤ W.heap.size) (hl : (xs.length + m) * bytes ≤ 140737488355328)
    (h : ∀ v1 w1, (Kd.scalar enc h1).R e w1 base ok v1 (xs ++ ys) → Below base w0 w1 → W.grownBy w1 v.ownBlock → (v1.ownBlock = v.ownBlock ∨ ∃ b, v1.ownBlock = some b ∧ W.heap.size ≤ b) → wpList P ops Q rest (a.put o.dst v1) w1) :
    wpList P ops Q (o :: rest) a W := by
  refine print_append_row_of (w0 := w0) enc d base hgd s x t e z bytes ho ht hinfo hz hb0 h1 v xs ys A m c hs hx (Kd.own_of_R HO) (Kd.reads_of_C (d := d) HR) HB hbase hl ?_
  intro v1 w1 hown hb hg hat
  refine h v1 w1 (Kd.R_of_own hown (fun k hk => ?_)) hb hg hat
  rcases hat with e1 | ⟨b, e1, hbb⟩
  · exact HO.1 k (by rw [← e1]; exact hk)
  · rw [e1] at hk
    injection hk with hk
    subst hk
    exact hfresh _ hbb
end
end Go.Proofs.YtmfihkgbfoapaaaDoorW.PrintWords
