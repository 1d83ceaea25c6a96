/- Own texts M0 M2 of this claim, cut to what the claim uses. -/
import Derived.StillTailTactics
import Derived.KernelRfl
import Derived.BigQuiet
import Derived.ScopeJumps
namespace Go.Proofs.YtmfihkgbfoapaaaDoor
open Go
section
variable {P : Program} {ops : Array Oper} {w : World}
def midChain (ops : Array Oper) (n : Nat) : Bool :=
  (List.range ops.size).all fun t => decide (t ≤ n) || (List.range t).any fun u => decide (n ≤ u) && Region.waitsFor .any ops t u
theorem mid_waits {n : Nat} {listed : Array Bool} (hs : Region.sinkB .any ops n = true) (hc : midChain ops n = true) (hn : n < ops.size) (inv : HeadInv .any ops n listed)
    {i : Nat} (hi : i < n) (hun : listed.getD i true = false) : ∀ t, n ≤ t → t ∉ Region.ready .any ops listed := by
  -- number n is not ready: some one below it, not yet listed, is waited for
  have key : ∀ (d i : Nat), n - i = d → i < n → listed.getD i true = false → n ∉ Region.ready .any ops listed := by
    intro d
    induction d using Nat.strongRecOn with
    | _ d ih =>
      intro i hd hi hun hr
      obtain ⟨j, hj, hj2⟩ := List.any_eq_true.1 (List.all_eq_true.1 hs i (List.mem_range.2 hi))
      simp only [Bool.and_eq_true, decide_eq_true_eq] at hj2
      obtain ⟨oj, hoj, e, he, hb, hon⟩ := Region.waitsFor_spec hj2.2
      have hjn : j < n + 1 := List.mem_range.1 hj
      cases hl : listed.getD j false with
      | true =>
        have := inv.closed j oj hoj hl e he hb
        rw [hon, getD_both hun] at this; cases this
      | false =>
        by_cases hjn' : j = n
        · subst hjn'
          obtain ⟨_, on, hon', hall⟩ := mem_ready.1 hr
          have : oj = on := Option.some.inj (hoj.symm.trans hon')
          subst this
          have := hall e he hb
          rw [hon, getD_both hun] at this; cases this
        · exact ih (n - j) (by omega) j rfl (by omega) (getD_in (by rw [inv.size]; omega) hl) hr
  intro t ht hr
  by_cases htn : t = n
  · subst htn; exact key _ i rfl hi hun hr
  · obtain ⟨_, ot, hot, hall⟩ := mem_ready.1 hr
    have htlt : t < ops.size := (Array.getElem?_eq_some_iff.1 hot).1
    have h1 := List.all_eq_true.1 hc t (List.mem_range.2 htlt)
    simp only [Bool.or_eq_true, decide_eq_true_eq] at h1
    rcases h1 with h1 | h1
    · omega
    · obtain ⟨u, hu, hu2⟩ := List.any_eq_true.1 h1
      simp only [Bool.and_eq_true, decide_eq_true_eq] at hu2
      obtain ⟨o', ho', e, he, hb, hon⟩ := Region.waitsFor_spec hu2.2
      have : o' = ot := Option.some.inj (ho'.symm.trans hot)
      subst this
      have h2 := hall e he hb
      have hut : u < t := List.mem_range.1 hu
      rw [hon, getD_both (inv.tail u hu2.1 (by omega))] at h2
      cases h2
theorem mid_first {n i : Nat} {oi : Oper} {v : Value} {L : Array Bool → Act → Prop} (hi : ops[i]? = some oi) (hsel : ∀ (j : Nat) (o : Oper) cs b, ops[j]? = some o → o.op ≠ .select cs b)
    (hs : Region.sinkB .any ops n = true) (hc : midChain ops n = true) (hn : n < ops.size) (hin : i < n) (hdone : ∀ listed a, L listed a → ∀ j ∈ Region.ready .any ops listed, n ≤ j) :
    ∀ (f : Nat) (listed : Array Bool) (a : Act), HeadInv .any ops n listed →
      (∀ j oj, ops[j]? = some oj → j ≠ i → listed.getD j true = false → (∀ e ∈ oj.after, Region.binds .any e = true → e.on ≠ i) → oi.apart ops oj = true) →
      i ∈ Region.ready .any ops listed → YieldsAt P ops w oi v a →
      wpAnyL P .any ops w n L f (listed.setIfInBounds i true) (a.put oi.dst v) → wpAnyL P .any ops w n L (f + 1) listed a
  | f, listed, a, inv, hfree, hr, hy, H => by
    have hun := (mem_ready.1 hr).1
    refine ⟨fun h => (by rw [h] at hr; cases hr), fun j hj => ?_⟩
    have hjn : j < n := by
      rcases Nat.lt_or_ge j n with h | h
      · exact h
      · exact absurd hj (mid_waits hs hc hn inv hin hun j h)
    refine ⟨hjn, ?_⟩
    by_cases hji : j = i
    · subst hji; exact hy.stOp hi H
    · cases f with
      | zero => have := hdone _ _ H j (ready_mono hj hji); omega
      | succ f =>
        obtain ⟨hjun, oj, hoj, hall⟩ := mem_ready.1 hj
        have hnot : ∀ e ∈ oj.after, Region.binds .any e = true → e.on ≠ i := fun e he hb heq => by
          have h1 := hall e he hb
          rw [heq, getD_both hun] at h1
          cases h1
        have hunj : ∀ k, k ≠ j → (listed.setIfInBounds j true).getD k true = false → listed.getD k true = false := fun k hk h => by rwa [getD_set_ne true (Ne.symm hk)] at h
        refine stOp_mono (fun a' h3 => mid_first hi hsel hs hc hn hin hdone f (listed.setIfInBounds j true) a' (inv.set hj hjn) (fun k ok hk hki h hno => ?_) (ready_mono hr (Ne.symm hji)) h3.1 ?_)
          (stOp_put hoj (hfree j oj hoj hji hjun hnot) (fun cs b => hsel i oi cs b hi) (fun cs b => hsel j oj cs b hoj) hy (H.2 j (ready_mono hj hji)).2)
        · by_cases hjk : k = j
          · subst hjk; exact hfree k ok hk hki hjun hno
          · exact hfree k ok hk hki (hunj k hjk h) hno
        · rw [Array.setIfInBounds_comm _ _ hji]; exact h3.2
def midLex (ops : Array Oper) (n g : Nat) : Nat → Nat → Array Bool → Bool
  | 0, k, listed => decide (k = n) && decide (Region.ready .any ops listed = [n]) && Region.lexFrom .any ops g (n + 1) (listed.setIfInBounds n true)
  | f + 1, k, listed => (Region.ready .any ops listed).contains k && Region.free .any ops listed k && midLex ops n g f (k + 1) (listed.setIfInBounds k true)
def midB (ops : Array Oper) (n : Nat) : Bool :=
  Region.noSelect ops && decide (n < ops.size) && Region.sinkB .any ops n && midChain ops n && midLex ops n (ops.size - (n + 1)) n 0 (Array.replicate ops.size false)
theorem mid_lex {n g : Nat} {Lq : Act → Prop} (hsel : Region.noSelect ops = true) (hs : Region.sinkB .any ops n = true) (hc : midChain ops n = true) (hn : n < ops.size) :
    ∀ (l : List Oper) (k : Nat) (listed : Array Bool) (a : Act), (∀ j, j < l.length → l[j]? = ops[k + j]?) → k + l.length = n → HeadInv .any ops n listed →
    midLex ops n g l.length k listed = true → wpStill P ops w Lq l a →
    wpAnyL P .any ops w n (fun listed' a' => (Region.ready .any ops listed' = [n] ∧ Region.lexFrom .any ops g (n + 1) (listed'.setIfInBounds n true) = true) ∧ Lq a') l.length listed a
  | [], k, listed, a, _, hk, _, hB, h => by
    simp only [List.length_nil, midLex, Bool.and_eq_true, decide_eq_true_eq] at hB
    exact ⟨⟨hB.1.2, hB.2⟩, h⟩
  | o :: l, k, listed, a, hl, hk, inv, hB, h => by
    have h0 : ops[k]? = some o := by simpa using (hl 0 (by simp)).symm
    simp only [List.length_cons, midLex, Bool.and_eq_true] at hB
    obtain ⟨⟨hr, hf⟩, hB'⟩ := hB
    have hkn : k < n := by simp only [List.length_cons] at hk; omega
    have hr' : k ∈ Region.ready .any ops listed := by simpa using hr
    have hst : stOp P ops w k (wpStill P ops w Lq l) a := by unfold stOp; simp only [h0]; exact h
    obtain ⟨v, hy, hK⟩ := yieldsAt_of_stOp h0 hst
    exact mid_first h0 (Region.noSelect_spec hsel) hs hc hn hkn (fun listed' a' hL j hj => by rw [hL.1.1] at hj; have : j = n := by simpa using hj
                                                                                              omega) l.length listed a inv (Region.free_spec h0 hf) hr' hy
      (mid_lex hsel hs hc hn l (k + 1) _ _ (fun j hj => by have := hl (j + 1) (by simp; omega); simpa [Nat.add_assoc, Nat.add_comm 1 j] using this) (by simp only [List.length_cons] at hk; omega) (inv.set hr' hkn) hB' hK)
theorem wpStill_mono {Q Q' : Act → Prop} (h : ∀ a, Q a → Q' a) : ∀ (l : List Oper) {a : Act}, wpStill P ops w Q l a → wpStill P ops w Q' l a
  | [], _, hh => h _ hh
  | o :: l, a, hh => by
    simp only [wpStill] at hh ⊢
    split
    · rename_i hw; simp only [hw, if_true] at hh; exact Oper.still_mono (fun a' h' => wpStill_mono h l h') hh
    · rename_i hw; simp only [hw] at hh; exact wpStill_mono h l hh
theorem wp_region_mid {id : Nat} {Q : Exit → Act → World → Prop} {a : Act} {w : World} {l : List Oper} (n : Nat) (hm : P.follows .mixedOrders = true) (hB : midB l.toArray n = true)
    (h : ∀ w1 : World, w1.heap = w.heap → w1.tape = w.tape → w1.os = w.os → w1.output = w.output →
      wpStill P l.toArray w1 (fun a' => wpOp P l.toArray Q n (fun a2 w2 => wpStill P l.toArray w2 (fun a3 => Q .normal a3 w2) (l.drop (n + 1)) a2) a' w1) (l.take n) a) : (Code.region id l.toArray true).wp P Q a w := by
  simp only [midB, Bool.and_eq_true, decide_eq_true_eq] at hB
  obtain ⟨⟨⟨⟨hsel, hn⟩, hs⟩, hc⟩, hlex⟩ := hB
  have hn' : n < l.length := by simpa using hn
  have htl : (l.take n).length = n := by simp; omega
  have hsz : l.toArray.size = n + (1 + (l.toArray.size - (n + 1))) := by omega
  have hdl : (l.drop (n + 1)).length = l.toArray.size - (n + 1) := by simp
  have inv0 : HeadInv .any l.toArray n (Array.replicate l.toArray.size false) :=
    ⟨by simp, fun j oj _ hl => (by rw [getD_replicate_false] at hl; cases hl), fun t _ ht => getD_in (by simpa using ht) (getD_replicate_false _ _)⟩
  have H := mid_lex (P := P) (w := { w with drawn := w.drawn + 1 }) (g := l.toArray.size - (n + 1)) hsel hs hc hn (l.take n) 0 _ a (fun j hj => by
    have hj' : j < n := by rw [htl] at hj; exact hj
    simp [hj']) (by simpa using htl) inv0 (by rw [htl]; exact hlex) (h { w with drawn := w.drawn + 1 } rfl rfl rfl rfl)
  refine wp_region_any hm ?_
  have := wpAny_of_head (Q' := Q) (g := 1 + (l.toArray.size - (n + 1))) (fun listed a' hL => by
    rw [Nat.add_comm 1]
    refine ⟨fun h0 => (by rw [hL.1.1] at h0; cases h0), fun i hi => ?_⟩
    rw [hL.1.1] at hi
    have hin : i = n := by simpa using hi
    subst hin
    refine wpOp_mono (fun a2 w2 h2 => ?_) hL.2
    refine wpAny_of_still (Q := fun a3 => Q .normal a3 w2) (fun _ h => h) _ _ _ ?_
    have h3 := wpAnyS_lex (md := .any) hsel (l.drop (i + 1)) (i + 1) (listed.setIfInBounds i true) a2 (fun j => by simp [List.getElem?_drop]) (by rw [hdl]; exact hL.1.2) h2
    rwa [hdl] at h3) _ _ _ H
  rw [htl, ← hsz] at this
  exact this
theorem still_of_quiet {Q : Act → Prop} : ∀ (l : List Oper) {a : Act}, wpQuiet P ops (fun w' => w' = w) Q l a → wpStill P ops w Q l a
  | [], _, hh => hh
  | o :: l, a, hh => by
    simp only [wpQuiet, wpStill] at hh ⊢
    split
    · rename_i hw
      simp only [hw, if_true] at hh
      obtain ⟨v, h1, h2⟩ := hh
      have h3 := h1 w rfl
      unfold Oper.quietAt at h3
      unfold Oper.still
      generalize (execOp a.eval o).run P w = r at h3 ⊢
      cases r with
      | halt x w' => simp only [Oper.quietUpon] at h3
      | ok n w' =>
        cases n <;> simp only [Oper.quietUpon] at h3 <;> simp only [Oper.stillUpon]
        case value u => obtain ⟨e1, e2⟩ := h3; rw [e2]; exact ⟨e1, still_of_quiet l h2⟩
        case skip => obtain ⟨e1, e2⟩ := h3; rw [e2] at h2; exact ⟨e1, still_of_quiet l h2⟩
        case enter f args => exact ⟨h3.1, v, h3.2, still_of_quiet l h2⟩
    · rename_i hw
      simp only [hw] at hh
      exact still_of_quiet l hh
theorem wp_region_call {id : Nat} {Q : Exit → Act → World → Prop} {a : Act} {w : World} {l : List Oper} (n : Nat) {o : Oper} (ho : l[n]? = some o) (hg : o.guard = none) (hm : P.follows .mixedOrders = true) (hB : midB l.toArray n = true)
    (h : ∀ w1 : World, w1.heap = w.heap → w1.tape = w.tape → w1.os = w.os → w1.output = w.output →
      wpQuiet P l.toArray (fun w' => w' = w1) (fun a' => ∀ K : Act → World → Prop, (∀ a2 w2, wpQuiet P l.toArray (fun w' => w' = w2) (fun a3 => Q .normal a3 w2) (l.drop (n + 1)) a2 → K a2 w2) → o.wp P a' w1 K Q) (l.take n) a) : (Code.region id l.toArray true).wp P Q a w := by
  refine wp_region_mid n hm hB fun w1 e1 e2 e3 e4 => ?_
  refine wpStill_mono (fun a' h' => ?_) _ (still_of_quiet _ (h w1 e1 e2 e3 e4))
  have h2 := h' _ (fun a2 w2 h3 => still_of_quiet _ h3)
  have ho' : l.toArray[n]? = some o := by simpa using ho
  unfold wpOp
  rw [ho']
  have hw : Region.wanted o (yielded l.toArray a'.tmps) = true := by unfold Region.wanted; rw [hg]
  simp only [hw, if_true]
  exact .inl h2
theorem wp_region_tail {id : Nat} {Q : Exit → Act → World → Prop} {a : Act} {w : World} {l : List Oper} (n : Nat) (hm : P.follows .mixedOrders = true) (hB : Region.lexTailB .any l.toArray n = true)
    (h : ∀ w1 : World, w1.heap = w.heap → w1.tape = w.tape → w1.os = w.os → w1.output = w.output → wpQuiet P l.toArray (fun w' => w' = w1) (fun a' => wpList P l.toArray Q (l.drop n) a' w1) (l.take n) a) : (Code.region id l.toArray true).wp P Q a w :=
  wp_region_still_tail n hm hB (still_of_quiet _ (h _ rfl rfl rfl rfl))
end
end Go.Proofs.YtmfihkgbfoapaaaDoor
namespace Go.Proofs.YtmfihkgbfoapaaaDoor
open Go
section
variable {P : Program} {a : Act} {w : World} {Q : Exit → Act → World → Prop}
theorem wp_scope_redo {c X : Code} (l : Nat) (J : Nat → Act → World → Prop) (hf : findLabel c l = some (.seq .skip X))
    (pass : ∀ n a w, J n a w → X.wp P (Exit.jump l (fun a' w' => ∃ m, m < n ∧ J m a' w') Q) a w)
    (first : (∀ n a w, J n a w → X.wp P (Exit.jump l (fun a' w' => ∃ m, J m a' w') Q) a w) → c.wp P (Exit.jump l (fun a' w' => ∃ m, J m a' w') Q) a w) : (Code.scope c).wp P Q a w := by
  have hX : ∀ (a : Act) (w : World) (Q' : Exit → Act → World → Prop), X.wp P Q' a w → (Code.seq .skip X).wp P Q' a w := fun a w Q' h => wp_seq (wp_skip h)
  intro b k cs
  have hg : gotoIn l (.inScope c :: k) = some (.code (.seq .skip X) :: .inScope c :: k) := by simp [gotoIn, hf]
  have key : ∀ n a w, J n a w → ∃ e a' w', Q e a' w' ∧ Arrives P (lone (b.at a (.code (.seq .skip X) :: .inScope c :: k)) cs w) b k cs e a' w' := by
    intro n
    induction n using Nat.strongRecOn with
    | _ n ih =>
      intro a w hJ
      obtain ⟨e, a₁, w₁, hq, harr⟩ := hX _ _ _ (pass n a w hJ) b (.inScope c :: k) cs
      cases e with
      | normal => exact ⟨.normal, a₁, w₁, hq, Steps.trans harr (.one step_inScope)⟩
      | exit id => exact ⟨.exit id, a₁, w₁, hq, fun k' hk => harr k' (by simp [exitTo, hk])⟩
      | goto l' =>
        obtain ⟨rfl, m, hm, hJ'⟩ := hq
        obtain ⟨e₂, a₂, w₂, hq₂, harr₂⟩ := ih m hm a₁ w₁ hJ'
        exact ⟨e₂, a₂, w₂, hq₂, .of_steps (harr _ hg) harr₂⟩
      | ret => exact ⟨_, a₁, w₁, hq, harr⟩
      | panic ch => exact ⟨_, a₁, w₁, hq, harr⟩
      | outgrown => exact ⟨_, a₁, w₁, hq, harr⟩
  have pass' : ∀ n a w, J n a w → X.wp P (Exit.jump l (fun a' w' => ∃ m, J m a' w') Q) a w := by
    intro n a w hJ b' k' cs'
    obtain ⟨e, a₁, w₁, hq, harr⟩ := pass n a w hJ b' k' cs'
    refine ⟨e, a₁, w₁, ?_, harr⟩
    cases e with
    | goto l' => obtain ⟨h1, m, _, h2⟩ := hq; exact ⟨h1, m, h2⟩
    | normal => exact hq
    | exit id => exact hq
    | ret => exact hq
    | panic ch => exact hq
    | outgrown => exact hq
  obtain ⟨e, a₁, w₁, hq, harr⟩ := first pass' b (.inScope c :: k) cs
  cases e with
  | normal => exact ⟨.normal, a₁, w₁, hq, .head step_scope (Steps.trans harr (.one step_inScope))⟩
  | exit id => exact ⟨.exit id, a₁, w₁, hq, fun k' hk => .head step_scope (harr k' (by simp [exitTo, hk]))⟩
  | goto l' =>
    obtain ⟨rfl, m, hJ'⟩ := hq
    obtain ⟨e₂, a₂, w₂, hq₂, harr₂⟩ := key m a₁ w₁ hJ'
    exact ⟨e₂, a₂, w₂, hq₂, .of_steps (.head step_scope (harr _ hg)) harr₂⟩
  | ret => exact ⟨_, a₁, w₁, hq, .of_steps (.one step_scope) harr⟩
  | panic ch => exact ⟨_, a₁, w₁, hq, .of_steps (.one step_scope) harr⟩
  | outgrown => exact ⟨_, a₁, w₁, hq, .of_steps (.one step_scope) harr⟩
end
end Go.Proofs.YtmfihkgbfoapaaaDoor
