/- A region that draws its order: what holds in between, by the operations that are done. -/
import Derived.Test.YtmfihkgbfoapaaaDoorM4
namespace Go.Proofs.YtmfihkgbfoapaaaDoor
open Go
section
variable {P : Program}

/-- Of each operation those that come ahead of it. -/
def edges (l : List Oper) : List (List Nat) := l.map fun o => (o.after.toList.filter fun e => Region.binds .any e).map fun e => e.on
/-- They stand ahead of it in the text. -/
def edgesB : Nat → List (List Nat) → Bool
  | _, [] => true
  | i, p :: r => (p.all fun j => decide (j < i)) && edgesB (i + 1) r
def upd (L : Nat → Bool) (i : Nat) : Nat → Bool := fun j => if j = i then true else L j
theorem edgesB_at : ∀ (E : List (List Nat)) (k i : Nat) (p : List Nat), edgesB k E = true → E[i]? = some p → ∀ j ∈ p, j < k + i
  | [], k, i, p, _, h => by simp at h
  | q :: E, k, 0, p, hB, h => by
    simp only [edgesB, Bool.and_eq_true, List.all_eq_true, decide_eq_true_eq] at hB
    simp at h; subst h
    intro j hj; have := hB.1 j hj; omega
  | q :: E, k, i + 1, p, hB, h => by
    simp only [edgesB, Bool.and_eq_true] at hB
    simp at h
    intro j hj
    have := edgesB_at E (k + 1) i p hB.2 h j hj
    omega
theorem edges_at {l : List Oper} {i : Nat} {o : Oper} (h : l[i]? = some o) : (edges l)[i]? = some ((o.after.toList.filter fun e => Region.binds .any e).map fun e => e.on) := by
  unfold edges; rw [List.getElem?_map, h]; rfl
theorem count_set {l : Array Bool} {i : Nat} (h : l.getD i true = false) : (l.setIfInBounds i true).toList.count false + 1 = l.toList.count false := by
  have hi : i < l.size := by
    rcases Nat.lt_or_ge i l.size with h' | h'
    · exact h'
    · simp [Array.getElem?_eq_none h'] at h
  have hf : l[i] = false := by simpa [hi] using h
  have hc : 0 < l.toList.count false := List.count_pos_iff.2 (by
    have : l.toList[i]'(by simpa using hi) = false := by simpa using hf
    rw [← this]; exact List.getElem_mem _)
  rw [Array.toList_setIfInBounds, List.count_set (by simpa using hi)]
  have : (l.toList[i]'(by simpa using hi) == false) = true := by simp [hf]
  rw [this, if_pos rfl, if_neg (by decide)]
  omega
theorem any_of_inv {l : List Oper} {Q : Exit → Act → World → Prop} (Inv : (Nat → Bool) → Act → World → Prop) (hE : edgesB 0 (edges l) = true)
    (hstep : ∀ (L : Nat → Bool) (a : Act) (w : World) (i : Nat) (o : Oper), Inv L a w → l[i]? = some o → L i = false → (∀ j ∈ (edges l).getD i [], L j = true) → wpList P l.toArray (fun e a' w' => e = .normal ∧ Inv (upd L i) a' w') [o] a w)
    (hend : ∀ (L : Nat → Bool) (a : Act) (w : World), Inv L a w → (∀ j, j < l.length → L j = true) → Q .normal a w) :
    ∀ (f : Nat) (listed : Array Bool) (a : Act) (w : World), listed.size = l.length → listed.toList.count false = f → Inv (fun j => listed.getD j false) a w → wpAnyI P l.toArray (fun _ => True) (fun a w => Q .normal a w) f listed a w := by
  have done : ∀ (listed : Array Bool), listed.size = l.length → Region.ready .any l.toArray listed = [] → ∀ j, j < l.length → listed.getD j false = true := by
    intro listed hsz hr j
    induction j using Nat.strongRecOn with
    | _ j ih =>
      intro hj
      cases hx : listed.getD j false with
      | true => rfl
      | false =>
        exfalso
        have hmem : j ∈ Region.ready .any l.toArray listed := by
          refine mem_ready.2 ⟨getD_in (by omega) hx, l[j], by simp [hj], fun e he hb => ?_⟩
          have h1 := edges_at (List.getElem?_eq_getElem hj)
          have h2 := edgesB_at (edges l) 0 j _ hE h1 e.on (List.mem_map_of_mem (List.mem_filter.2 ⟨by simpa using he, hb⟩))
          exact ih e.on (by omega) (by omega)
        rw [hr] at hmem; cases hmem
  intro f
  induction f with
  | zero =>
    intro listed a w hsz hc hI
    have hall : ∀ j, j < l.length → listed.getD j false = true := fun j hj => by
      have h0 := List.count_eq_zero.1 hc
      cases hx : listed.getD j false with
      | true => rfl
      | false =>
        exfalso
        apply h0
        have hj' : j < listed.size := by omega
        have : listed[j] = false := by simpa [hj'] using hx
        rw [← this]; simp
    refine ⟨trivial, ?_, hend _ a w hI hall⟩
    cases hr : Region.ready .any l.toArray listed with
    | nil => rfl
    | cons i r =>
      have hi : i ∈ Region.ready .any l.toArray listed := by rw [hr]; exact List.mem_cons_self
      have h1 := getD_both (mem_ready.1 hi).1
      obtain ⟨_, o, ho, _⟩ := mem_ready.1 hi
      have hlt : i < l.length := by
        rcases Nat.lt_or_ge i l.length with h | h
        · exact h
        · simp [List.getElem?_eq_none h] at ho
      rw [hall i hlt] at h1; cases h1
  | succ f ih =>
    intro listed a w hsz hc hI
    refine ⟨trivial, fun hr => hend _ a w hI (done listed hsz hr), fun i hi => ?_⟩
    obtain ⟨hun, o, ho, hall⟩ := mem_ready.1 hi
    have ho' : l[i]? = some o := by simpa using ho
    have h := hstep _ a w i o hI ho' (getD_both hun) (fun j hj => by
      rw [List.getD_eq_getElem?_getD, edges_at ho'] at hj
      obtain ⟨e, he, rfl⟩ := List.mem_map.1 hj
      obtain ⟨he1, he2⟩ := List.mem_filter.1 he
      exact hall e (by simpa using he1) he2)
    have hc' : (listed.setIfInBounds i true).toList.count false = f := by have := count_set hun; omega
    have hu : upd (fun j => listed.getD j false) i = fun j => (listed.setIfInBounds i true).getD j false := by
      funext j
      unfold upd
      by_cases hji : j = i
      · subst hji
        have hj : j < listed.size := by
          rcases Nat.lt_or_ge j listed.size with h' | h'
          · exact h'
          · simp [Array.getElem?_eq_none h'] at hun
        simp [hj]
      · rw [if_neg hji, getD_set_ne false (fun e => hji e.symm)]
    rw [hu] at h
    have go : ∀ a' w', Inv (fun j => (listed.setIfInBounds i true).getD j false) a' w' → wpAnyI P l.toArray (fun _ => True) (fun a w => Q .normal a w) f (listed.setIfInBounds i true) a' w' := fun a' w' hI' => ih _ a' w' (by simpa using hsz) hc' hI'
    have key : wpOp P l.toArray (fun e a' w' => e = .normal ∧ Inv (fun j => (listed.setIfInBounds i true).getD j false) a' w') i (fun a' w' => Inv (fun j => (listed.setIfInBounds i true).getD j false) a' w') a w := by
      unfold wpOp; simp only [ho]
      unfold wpList at h
      split
      · rename_i hw
        simp only [hw, if_true] at h
        exact h.imp (Oper.wp_mono fun a w h => by simpa [wpList] using h) id
      · rename_i hw
        simp only [hw] at h
        simpa [wpList] using h
    unfold wpOp at key ⊢
    simp only [ho] at key ⊢
    split
    · rename_i hw
      simp only [hw, if_true] at key
      refine .inl ?_
      have key := key.resolve_right fun ⟨_, _, _, h, _⟩ => by cases h
      unfold Oper.wp at key ⊢
      generalize (execOp a.eval o).run P w = r at key ⊢
      cases r with
      | ok n w' =>
        cases n <;> simp only [Oper.upon] at key ⊢
        case value => exact go _ _ key
        case skip => exact go _ _ key
        case defer => exact go _ _ key
        case enter => exact Calls.mono key (fun e w'' he => by
          cases e with
          | returned v => exact go _ _ he
          | panicked ch => exact (by cases he.1)
          | outgrown => exact (by obtain ⟨_, _, h, _⟩ := he; cases h))
        case row => exact Rows.mono key (fun _ _ he => go _ _ he)
      | halt x w' => cases x <;> simp only [Oper.upon] at key ⊢ <;> first | exact key | (cases key.1)
    · rename_i hw
      simp only [hw] at key
      exact go _ _ key
theorem wp_region_inv {id : Nat} {Q : Exit → Act → World → Prop} {a : Act} {w : World} {l : List Oper} (Inv : (Nat → Bool) → Act → World → Prop) (hm : P.follows .mixedOrders = true) (hE : edgesB 0 (edges l) = true)
    (h0 : Inv (fun _ => false) a w.drew)
    (hstep : ∀ (L : Nat → Bool) (a : Act) (w : World) (i : Nat) (o : Oper), Inv L a w → l[i]? = some o → L i = false → (∀ j ∈ (edges l).getD i [], L j = true) → wpList P l.toArray (fun e a' w' => e = .normal ∧ Inv (upd L i) a' w') [o] a w)
    (hend : ∀ (L : Nat → Bool) (a : Act) (w : World), Inv L a w → (∀ j, j < l.length → L j = true) → Q .normal a w) : (Code.region id l.toArray true).wp P Q a w := by
  refine wp_region_any hm ?_
  have hi : (fun j => (Array.replicate l.length false).getD j false) = fun _ => false := by
    funext j
    by_cases hj : j < l.length <;> simp [hj]
  have := wpAny_of_I (Q' := Q) (fun _ _ h => h) _ _ _ _ (any_of_inv (P := P) (Q := Q) Inv hE hstep hend l.length (Array.replicate l.length false) a w.drew (by simp) (by simp) (by rw [hi]; exact h0))
  simpa using this
end
end Go.Proofs.YtmfihkgbfoapaaaDoor
