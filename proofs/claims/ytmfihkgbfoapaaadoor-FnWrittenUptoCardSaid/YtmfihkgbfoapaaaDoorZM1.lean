/- Own texts M1 M4 M6 M5 of this claim, cut to what the claim uses. -/
import Derived.StillTailTactics
import Derived.KernelRfl
import Derived.BigQuiet
namespace Go.Proofs.YtmfihkgbfoapaaaDoor
open Go
section
variable {P : Program} {ops : Array Oper} {C : World → Prop}
def wpAnyQL (P : Program) (ops : Array Oper) (C : World → Prop) (n : Nat) (L : Array Bool → Act → Prop) : Nat → Array Bool → Act → Prop
  | 0, listed, a => L listed a
  | f + 1, listed, a => Region.ready .any ops listed ≠ [] ∧ ∀ i ∈ Region.ready .any ops listed, i < n ∧ qOp P ops C i (wpAnyQL P ops C n L f (listed.setIfInBounds i true)) a
theorem wpAny_of_qhead {n g : Nat} {L : Array Bool → Act → Prop} {Q' : Exit → Act → World → Prop} (hL : ∀ listed a w, C w → L listed a → wpAny P .any ops Q' g listed a w) :
    ∀ (f : Nat) (listed : Array Bool) (a : Act) (w : World), C w → wpAnyQL P ops C n L f listed a → wpAny P .any ops Q' (f + g) listed a w
  | 0, listed, a, w, hw, h => by rw [Nat.zero_add]; exact hL _ _ _ hw h
  | f + 1, listed, a, w, hw, h => by
    rw [show f + 1 + g = (f + g) + 1 by omega]
    exact ⟨fun h0 => absurd h0 h.1, fun i hi => wpOp_of_qOp hw (fun a' w' hw' h' => wpAny_of_qhead hL f _ a' w' hw' h') (h.2 i hi).2⟩
theorem qtail_first {n i : Nat} {oi : Oper} {v : Value} {L : Array Bool → Act → Prop} (hi : ops[i]? = some oi) (hsel : ∀ (j : Nat) (o : Oper) cs b, ops[j]? = some o → o.op ≠ .select cs b)
    (hs : Region.sinkB .any ops n = true) (hc : Region.chainB .any ops n = true) (hn : n < ops.size) (hin : i < n) (hdone : ∀ listed a, L listed a → ∀ j ∈ Region.ready .any ops listed, n ≤ j) :
    ∀ (f : Nat) (listed : Array Bool) (a : Act), HeadInv .any ops n listed →
      (∀ j oj, ops[j]? = some oj → j ≠ i → listed.getD j true = false → (∀ e ∈ oj.after, Region.binds .any e = true → e.on ≠ i) → oi.apart ops oj = true) →
      i ∈ Region.ready .any ops listed → YieldsIn P ops C oi v a →
      wpAnyQL P ops C n L f (listed.setIfInBounds i true) (a.put oi.dst v) → wpAnyQL P ops C n L (f + 1) listed a
  | f, listed, a, inv, hfree, hr, hy, H => by
    have hun := (mem_ready.1 hr).1
    refine ⟨fun h => (by rw [h] at hr; cases hr), fun j hj => ?_⟩
    have hjn : j < n := by
      rcases Nat.lt_or_ge j n with h | h
      · exact h
      · exact absurd hj (tail_waits hs hc hn inv _ i rfl hin hun j h)
    refine ⟨hjn, ?_⟩
    by_cases hji : j = i
    · subst hji; exact hy.qOp hi H
    · cases f with
      | zero => have := hdone _ _ H j (ready_mono hj hji); omega
      | succ f =>
        obtain ⟨hjun, oj, hoj, hall⟩ := mem_ready.1 hj
        have hnot : ∀ e ∈ oj.after, Region.binds .any e = true → e.on ≠ i := fun e he hb heq => by
          have h1 := hall e he hb
          rw [heq, getD_both hun] at h1
          cases h1
        have hunj : ∀ k, k ≠ j → (listed.setIfInBounds j true).getD k true = false → listed.getD k true = false := fun k hk h => by rwa [getD_set_ne true (Ne.symm hk)] at h
        refine qOp_mono (fun a' h3 => qtail_first hi hsel hs hc hn hin hdone f (listed.setIfInBounds j true) a' (inv.set hj hjn) (fun k ok hk hki h hno => ?_) (ready_mono hr (Ne.symm hji)) h3.1 ?_)
          (qOp_put hoj (hfree j oj hoj hji hjun hnot) (fun cs b => hsel i oi cs b hi) (fun cs b => hsel j oj cs b hoj) hy (H.2 j (ready_mono hj hji)).2)
        · by_cases hjk : k = j
          · subst hjk; exact hfree k ok hk hki hjun hno
          · exact hfree k ok hk hki (hunj k hjk h) hno
        · rw [Array.setIfInBounds_comm _ _ hji]; exact h3.2
theorem qtail_lex {n g : Nat} {Lq : Act → Prop} (hsel : Region.noSelect ops = true) (hs : Region.sinkB .any ops n = true) (hc : Region.chainB .any ops n = true) (hn : n < ops.size) :
    ∀ (l : List Oper) (k : Nat) (listed : Array Bool) (a : Act), (∀ j, j < l.length → l[j]? = ops[k + j]?) → k + l.length = n → HeadInv .any ops n listed →
    Region.lexHead .any ops g l.length k listed = true → wpQuiet P ops C Lq l a →
    wpAnyQL P ops C n (fun listed' a' => Region.seqB .any ops g n listed' = true ∧ Lq a') l.length listed a
  | [], k, listed, a, _, hk, _, hB, h => by
    have : k = n := by simpa using hk
    subst this
    exact ⟨by simpa [Region.lexHead] using hB, h⟩
  | o :: l, k, listed, a, hl, hk, inv, hB, h => by
    have h0 : ops[k]? = some o := by simpa using (hl 0 (by simp)).symm
    simp only [List.length_cons, Region.lexHead, Bool.and_eq_true] at hB
    obtain ⟨⟨hr, hf⟩, hB'⟩ := hB
    have hkn : k < n := by simp only [List.length_cons] at hk; omega
    have hr' : k ∈ Region.ready .any ops listed := by simpa using hr
    have hst : qOp P ops C k (wpQuiet P ops C Lq l) a := by unfold qOp; simp only [h0]; exact h
    obtain ⟨v, hy, hK⟩ := yieldsIn_of_qOp h0 hst
    exact qtail_first h0 (Region.noSelect_spec hsel) hs hc hn hkn (fun listed' a' hL => seqB_ready hL.1) l.length listed a inv (Region.free_spec h0 hf) hr' hy
      (qtail_lex hsel hs hc hn l (k + 1) _ _ (fun j hj => by have := hl (j + 1) (by simp; omega); simpa [Nat.add_assoc, Nat.add_comm 1 j] using this) (by simp only [List.length_cons] at hk; omega) (inv.set hr' hkn) hB' hK)
theorem wp_region_class_tail {id : Nat} {Q : Exit → Act → World → Prop} {a : Act} {w : World} {l : List Oper} (C : World → Prop) (n : Nat) (hm : P.follows .mixedOrders = true) (hB : Region.lexTailB .any l.toArray n = true) (hC : C w.drew)
    (h : wpQuiet P l.toArray C (fun a' => ∀ w', C w' → wpList P l.toArray Q (l.drop n) a' w') (l.take n) a) : (Code.region id l.toArray true).wp P Q a w := by
  simp only [Region.lexTailB, Bool.and_eq_true, decide_eq_true_eq] at hB
  obtain ⟨⟨⟨⟨hsel, hn⟩, hs⟩, hc⟩, hlex⟩ := hB
  have hn' : n < l.length := by simpa using hn
  have htl : (l.take n).length = n := by simp; omega
  have hdl : (l.drop n).length = l.toArray.size - n := by simp
  have hsz : l.toArray.size = n + (l.toArray.size - n) := by omega
  have inv0 : HeadInv .any l.toArray n (Array.replicate l.toArray.size false) :=
    ⟨by simp, fun j oj _ hl => (by rw [getD_replicate_false] at hl; cases hl), fun t _ ht => getD_in (by simpa using ht) (getD_replicate_false _ _)⟩
  have H := qtail_lex (P := P) (C := C) (g := l.toArray.size - n) hsel hs hc hn (l.take n) 0 _ a (fun j hj => by
    have hj' : j < n := by rw [htl] at hj; exact hj
    simp [hj']) (by simpa using htl) inv0 (by rw [htl]; exact hlex) h
  refine wp_region_any hm ?_
  have := wpAny_of_qhead (Q' := Q) (g := l.toArray.size - n) (fun listed a' w' hw' hL => by
    have h3 := wpAny_of_seq (l.drop n) n listed a' w' (fun j => by simp [List.getElem?_drop]) (by rw [hdl]; exact hL.1) (hL.2 w' hw')
    rwa [hdl] at h3) _ _ _ _ hC H
  rw [htl, ← hsz] at this
  exact this
end
end Go.Proofs.YtmfihkgbfoapaaaDoor
namespace Go.Proofs.YtmfihkgbfoapaaaDoor
open Go
def noExit : Exit → Act → World → Prop := fun _ _ _ => False
theorem noExit_out : ¬ LetsOut noExit := fun ⟨_, _, h⟩ => h
section
variable {P : Program} {ops : Array Oper} {C : World → Prop}
theorem wp_noExit {o : Oper} {a : Act} {w : World} {K K' : Act → World → Prop} {Q' : Exit → Act → World → Prop} (h : ∀ a w, K a w → K' a w) (hh : o.wp P a w K noExit) : o.wp P a w K' Q' := by
  unfold Oper.wp at *
  generalize (execOp a.eval o).run P w = r at *
  cases r with
  | ok n w' =>
    cases n <;> simp only [Oper.upon] at hh ⊢
    case value => exact h _ _ hh
    case skip => exact h _ _ hh
    case defer => exact h _ _ hh
    case enter => exact Calls.mono hh (fun e w'' he => by cases e <;> first | exact h _ _ he | exact he.elim | exact (noExit_out he).elim)
    case row => exact Rows.mono hh (fun _ _ he => h _ _ he)
  | halt x w' => cases x <;> simp only [Oper.upon] at hh ⊢ <;> first | exact hh.elim | exact hh
theorem wpOp_noExit {i : Nat} {a : Act} {w : World} {K K' : Act → World → Prop} {Q' : Exit → Act → World → Prop} (h : ∀ a w, K a w → K' a w) (hh : wpOp P ops noExit i K a w) : wpOp P ops Q' i K' a w := by
  unfold wpOp at *
  split
  · rename_i ho; simp only [ho] at hh; exact h _ _ hh
  · rename_i o ho
    simp only [ho] at hh
    split
    · rename_i hw; simp only [hw, if_true] at hh; exact .inl (wp_noExit h (hh.resolve_right fun h => noExit_out h.2))
    · rename_i hw; simp only [hw] at hh; exact h _ _ hh
def wpAnyI (P : Program) (ops : Array Oper) (C : World → Prop) (Q : Act → World → Prop) : Nat → Array Bool → Act → World → Prop
  | 0, listed, a, w => C w ∧ Region.ready .any ops listed = [] ∧ Q a w
  | f + 1, listed, a, w => C w ∧ (Region.ready .any ops listed = [] → Q a w) ∧ ∀ i ∈ Region.ready .any ops listed, wpOp P ops noExit i (wpAnyI P ops C Q f (listed.setIfInBounds i true)) a w
theorem wpAnyI.cls {Q : Act → World → Prop} : ∀ {f : Nat} {listed : Array Bool} {a : Act} {w : World}, wpAnyI P ops C Q f listed a w → C w
  | 0, _, _, _, h => h.1
  | _ + 1, _, _, _, h => h.1
theorem wpAny_of_I {Q : Act → World → Prop} {Q' : Exit → Act → World → Prop} (hQ : ∀ a w, Q a w → Q' .normal a w) : ∀ (f : Nat) (listed : Array Bool) (a : Act) (w : World), wpAnyI P ops C Q f listed a w → wpAny P .any ops Q' f listed a w
  | 0, _, _, _, h => ⟨h.2.1, hQ _ _ h.2.2⟩
  | f + 1, _, _, _, h => ⟨fun h0 => hQ _ _ (h.2.1 h0), fun i hi => wpOp_noExit (fun a' w' h' => wpAny_of_I hQ f _ a' w' h') (h.2.2 i hi)⟩
def YieldsSame (P : Program) (ops : Array Oper) (C : World → Prop) (o : Oper) (v : Value) (a : Act) : Prop :=
  (Region.wanted o (yielded ops a.tmps) = true ∧ ∀ w, C w → o.quietAt P a (fun w'' => w'' = w) w v) ∨ (Region.wanted o (yielded ops a.tmps) = false ∧ v = undef)
theorem YieldsSame.of_same {o : Oper} {v : Value} {a a' : Act} (hy : YieldsSame P ops C o v a) (he : execOp a'.eval o = execOp a.eval o) (hw : Region.wanted o (yielded ops a'.tmps) = Region.wanted o (yielded ops a.tmps)) : YieldsSame P ops C o v a' := by
  unfold YieldsSame Oper.quietAt at *
  rw [he, hw]
  exact hy
theorem YieldsSame.wpOp {i : Nat} {o : Oper} {v : Value} {a : Act} {w : World} {K : Act → World → Prop} (hi : ops[i]? = some o) (hC : C w) (hy : YieldsSame P ops C o v a) (h : K (a.put o.dst v) w) : wpOp P ops noExit i K a w := by
  unfold Go.wpOp
  simp only [hi]
  rcases hy with ⟨hw, hv⟩ | ⟨hw, rfl⟩
  · simp only [hw, if_true]
    refine .inl (Oper.wp_of_quiet (C := fun w'' => w'' = w) (K := fun a' => a' = a.put o.dst v) rfl (fun a' w' hw' ha' => by rw [ha', hw']; exact h) ⟨v, fun w' hw' => by rw [hw']; exact hv w hC, rfl⟩)
  · simp only [hw, Bool.false_eq_true, if_false]; exact h
theorem wpOp_put {j : Nat} {oi oj : Oper} {v : Value} (hj : ops[j]? = some oj) (hap : oi.apart ops oj = true) (hsi : ∀ cs b, oi.op ≠ .select cs b) (hsj : ∀ cs b, oj.op ≠ .select cs b) {K : Act → World → Prop} {a : Act} {w : World}
    (hy : YieldsSame P ops C oi v a) (h : wpOp P ops noExit j K (a.put oi.dst v) w) : wpOp P ops noExit j (fun a' w' => YieldsSame P ops C oi v a' ∧ K (a'.put oi.dst v) w') a w := by
  obtain ⟨h1, h2, h3⟩ := Oper.apart_spec hap
  have keep : ∀ (a : Act), YieldsSame P ops C oi v a → ∀ u, YieldsSame P ops C oi v (a.put oj.dst u) := fun a hy u =>
    hy.of_same (execOp_put oi hsi a oj.dst u h3) (wanted_put oi a oj.dst u h3)
  unfold wpOp at *
  simp only [hj] at *
  rw [wanted_put oj a oi.dst v h1] at h
  split
  · rename_i hw
    simp only [hw, if_true] at h
    refine .inl ?_
    have h := h.resolve_right fun h => noExit_out h.2
    unfold Oper.wp at h ⊢
    rw [execOp_put oj hsj a oi.dst v h1] at h
    generalize (execOp a.eval oj).run P w = r at h ⊢
    cases r with
    | ok n w' =>
      cases n <;> simp only [Oper.upon] at h ⊢
      case value u => exact ⟨keep a hy u, by rw [← Act.put_comm a v u h2]; exact h⟩
      case skip => exact ⟨keep a hy undef, by rw [← Act.put_comm a v undef h2]; exact h⟩
      case defer d => exact ⟨keep { a with defers := d :: a.defers } (hy.of_same rfl rfl) undef, by rw [← Act.put_comm _ v undef h2]; cases hd : oi.dst <;> rw [hd] at h <;> exact h⟩
      case enter f args => exact Calls.mono h (fun e w'' he => by cases e <;> first | exact ⟨keep a hy _, by rw [← Act.put_comm a v _ h2]; exact he⟩ | exact he.elim | exact (noExit_out he).elim)
      case row => exact Rows.mono h (fun _ _ he => ⟨keep a hy _, by rw [← Act.put_comm a v _ h2]; exact he⟩)
    | halt x w' => cases x <;> simp only [Oper.upon] at h ⊢ <;> first | exact h.elim | exact h
  · rename_i hw
    simp only [hw] at h
    exact ⟨keep a hy _, by rw [← Act.put_comm a v undef h2]; exact h⟩
theorem anyI_first {Q : Act → World → Prop} {i : Nat} {oi : Oper} {v : Value} (hi : ops[i]? = some oi) (hsel : ∀ (j : Nat) (o : Oper) cs b, ops[j]? = some o → o.op ≠ .select cs b) :
    ∀ (f : Nat) (listed : Array Bool) (a : Act) (w : World),
      (∀ j oj, ops[j]? = some oj → j ≠ i → listed.getD j true = false → (∀ e ∈ oj.after, Region.binds .any e = true → e.on ≠ i) → oi.apart ops oj = true) →
      i ∈ Region.ready .any ops listed → YieldsSame P ops C oi v a → wpAnyI P ops C Q f (listed.setIfInBounds i true) (a.put oi.dst v) w → wpAnyI P ops C Q (f + 1) listed a w
  | f, listed, a, w, hfree, hr, hy, H => by
    refine ⟨H.cls, fun h => (by rw [h] at hr; cases hr), fun j hj => ?_⟩
    by_cases hji : j = i
    · subst hji; exact hy.wpOp hi H.cls H
    · cases f with
      | zero => have := ready_mono hj hji; rw [H.2.1] at this; cases this
      | succ f =>
        obtain ⟨hjun, oj, hoj, hall⟩ := mem_ready.1 hj
        have hnot : ∀ e ∈ oj.after, Region.binds .any e = true → e.on ≠ i := fun e he hb heq => by
          have h1 := hall e he hb
          have h0 := (mem_ready.1 hr).1
          rw [heq] at h1
          rcases Nat.lt_or_ge i listed.size with h' | h'
          · simp [h'] at h0 h1; rw [h0] at h1; cases h1
          · simp [Array.getElem?_eq_none h'] at h1
        refine wpOp_mono (fun a' w' h3 => anyI_first hi hsel f (listed.setIfInBounds j true) a' w' (fun k ok hk hki hun hno => ?_) (ready_mono hr (Ne.symm hji)) h3.1 ?_)
          (wpOp_put hoj (hfree j oj hoj hji hjun hnot) (fun cs b => hsel i oi cs b hi) (fun cs b => hsel j oj cs b hoj) hy (H.2.2 j (ready_mono hj hji)))
        · refine hfree k ok hk hki ?_ hno
          by_cases hjk : j = k
          · subst hjk; exact hjun
          · rw [getD_set_ne true hjk] at hun; exact hun
        · rw [Array.setIfInBounds_comm _ _ hji]; exact h3.2
def seqNB (ops : Array Oper) : List Nat → Array Bool → Bool
  | [], listed => (Region.ready .any ops listed).isEmpty
  | k :: ks, listed => decide (Region.ready .any ops listed = [k]) && seqNB ops ks (listed.setIfInBounds k true)
def ordB (ops : Array Oper) : List Nat → List Nat → Array Bool → Bool
  | [], rest, listed => seqNB ops rest listed
  | i :: ord, rest, listed => (Region.ready .any ops listed).contains i && Region.free .any ops listed i && ordB ops ord rest (listed.setIfInBounds i true)
def wpSeqI (P : Program) (ops : Array Oper) (C : World → Prop) (Q : Act → World → Prop) : List Nat → Act → World → Prop
  | [], a, w => Q a w
  | k :: ks, a, w => match ops[k]? with | none => False | some o => wpList P ops (fun e a' w' => e = .normal ∧ C w' ∧ wpSeqI P ops C Q ks a' w') [o] a w
theorem anyI_of_seq {Q : Act → World → Prop} : ∀ (ks : List Nat) (listed : Array Bool) (a : Act) (w : World), C w → seqNB ops ks listed = true → wpSeqI P ops C Q ks a w → wpAnyI P ops C Q ks.length listed a w
  | [], _, _, _, hC, hB, h => ⟨hC, by simpa [seqNB] using hB, h⟩
  | k :: ks, listed, a, w, hC, hB, h => by
    simp only [seqNB, Bool.and_eq_true, decide_eq_true_eq] at hB
    refine ⟨hC, fun h1 => (by rw [hB.1] at h1; cases h1), fun i hi => ?_⟩
    rw [hB.1] at hi
    have hik : i = k := by simpa using hi
    subst hik
    unfold wpSeqI at h
    cases ho : ops[i]? with
    | none => rw [ho] at h; exact h.elim
    | some o =>
      rw [ho] at h
      simp only at h
      have key : wpOp P ops (fun e a' w' => e = .normal ∧ C w' ∧ wpSeqI P ops C Q ks a' w') i (fun a' w' => C w' ∧ wpSeqI P ops C Q ks a' w') a w := by
        unfold wpOp; simp only [ho]
        unfold wpList at h
        split
        · rename_i hw
          simp only [hw, if_true] at h
          exact h.imp (Oper.wp_mono fun a w h => by simpa [wpList] using h) id
        · rename_i hw
          simp only [hw] at h
          simpa [wpList] using h
      unfold wpOp at key ⊢
      simp only [ho] at key ⊢
      split
      · rename_i hw
        simp only [hw, if_true] at key
        refine .inl ?_
        have key := key.resolve_right fun ⟨_, _, _, h, _⟩ => by cases h
        unfold Oper.wp at key ⊢
        generalize (execOp a.eval o).run P w = r at key ⊢
        have go : ∀ a' w', (C w' ∧ wpSeqI P ops C Q ks a' w') → wpAnyI P ops C Q ks.length (listed.setIfInBounds i true) a' w' := fun a' w' h => anyI_of_seq ks _ a' w' h.1 hB.2 h.2
        cases r with
        | ok n w' =>
          cases n <;> simp only [Oper.upon] at key ⊢
          case value => exact go _ _ key
          case skip => exact go _ _ key
          case defer => exact go _ _ key
          case enter => exact Calls.mono key (fun e w'' he => by
            cases e with
            | returned v => exact go _ _ he
            | panicked ch => exact (by cases he.1)
            | outgrown => exact (by obtain ⟨_, _, h, _⟩ := he; cases h))
          case row => exact Rows.mono key (fun _ _ he => go _ _ he)
        | halt x w' => cases x <;> simp only [Oper.upon] at key ⊢ <;> first | exact key | (cases key.1)
      · rename_i hw
        simp only [hw] at key
        exact anyI_of_seq ks _ _ _ key.1 hB.2 key.2
def plainOp : Op → Bool
  | .move _ => true
  | .load _ _ => true
  | .fieldAddr _ _ _ => true
  | _ => false
theorem andThen_value {r : Result Value} {f : FuncId} {args : Array Value} {w' : World} : (r.andThen fun a w => .ok (Next.value a) w) ≠ .ok (.enter f args) w' := by
  cases r <;> simp
theorem plain_no_enter {o : Oper} (h : plainOp o.op = true) (e : Operand → Value) (w : World) (f : FuncId) (args : Array Value) (w' : World) : (execOp e o).run P w ≠ .ok (.enter f args) w' := by
  unfold execOp
  cases ho : o.op <;> rw [ho] at h <;> first | (cases h; done) | skip
  all_goals simp only [Sem.run_bind, Sem.run_pure]
  all_goals first | exact andThen_value | (intro h; cases h; done)
theorem quiet_same {o : Oper} (h : plainOp o.op = true) {a : Act} {w : World} {v : Value} (hq : o.quietAt P a C w v) : o.quietAt P a (fun w'' => w'' = w) w v := by
  unfold Oper.quietAt at *
  have hn := plain_no_enter (P := P) h a.eval w
  generalize (execOp a.eval o).run P w = r at *
  cases r with
  | ok n w' =>
    cases n <;> simp only [Oper.quietUpon] at hq ⊢
    case value => exact hq
    case skip => exact hq
    case enter => exact absurd rfl (hn _ _ _)
  | halt x w' => simp only [Oper.quietUpon] at hq
def plainAt (ops : Array Oper) (i : Nat) : Bool := match ops[i]? with | some o => plainOp o.op | none => false
def wpOrd (P : Program) (ops : Array Oper) (C : World → Prop) (Q : Act → Prop) : List Nat → Act → Prop
  | [], a => Q a
  | i :: l, a => match ops[i]? with | none => False | some o => wpQuiet P ops C (fun a' => wpOrd P ops C Q l a') [o] a
theorem anyI_of_ord {Q : Act → World → Prop} {rest : List Nat} (hsel : Region.noSelect ops = true) {w : World} (hC : C w) : ∀ (ord : List Nat) (listed : Array Bool) (a : Act), ordB ops ord rest listed = true → ord.all (plainAt ops) = true →
    wpOrd P ops C (fun a' => wpSeqI P ops C Q rest a' w) ord a → wpAnyI P ops C Q (ord.length + rest.length) listed a w
  | [], listed, a, hB, _, h => by rw [List.length_nil, Nat.zero_add]; exact anyI_of_seq rest listed a w hC hB h
  | i :: ord, listed, a, hB, hp, h => by
    simp only [ordB, Bool.and_eq_true] at hB
    simp only [List.all_cons, Bool.and_eq_true] at hp
    unfold wpOrd at h
    cases ho : ops[i]? with
    | none => rw [ho] at h; exact h.elim
    | some o =>
      rw [ho] at h
      simp only [wpQuiet] at h
      have hpl : plainOp o.op = true := by have := hp.1; unfold plainAt at this; rw [ho] at this; exact this
      rw [List.length_cons, show ord.length + 1 + rest.length = (ord.length + rest.length) + 1 by omega]
      split at h
      · rename_i hw
        obtain ⟨v, h1, h2⟩ := h
        exact anyI_first ho (Region.noSelect_spec hsel) _ listed a w (Region.free_spec ho hB.1.2) (by simpa using hB.1.1) (.inl ⟨hw, fun w hw => quiet_same hpl (h1 w hw)⟩) (anyI_of_ord hsel hC ord _ _ hB.2 hp.2 h2)
      · rename_i hw
        exact anyI_first ho (Region.noSelect_spec hsel) _ listed a w (Region.free_spec ho hB.1.2) (by simpa using hB.1.1) (.inr ⟨by simpa using hw, rfl⟩) (anyI_of_ord hsel hC ord _ _ hB.2 hp.2 h)
theorem wp_region_ord {id : Nat} {Q : Exit → Act → World → Prop} {a : Act} {w : World} {l : List Oper} (C : World → Prop) (ord rest : List Nat) (hm : P.follows .mixedOrders = true)
    (hB : (Region.noSelect l.toArray && decide (ord.length + rest.length = l.length) && ord.all (plainAt l.toArray) && ordB l.toArray ord rest (Array.replicate l.length false)) = true) (hC : C w.drew)
    (h : wpOrd P l.toArray C (fun a' => wpSeqI P l.toArray C (fun a2 w2 => Q .normal a2 w2) rest a' w.drew) ord a) : (Code.region id l.toArray true).wp P Q a w := by
  simp only [Bool.and_eq_true, decide_eq_true_eq] at hB
  obtain ⟨⟨⟨hsel, hlen⟩, hp⟩, hB⟩ := hB
  refine wp_region_any hm ?_
  have := wpAny_of_I (Q' := Q) (fun _ _ h => h) _ _ _ _ (anyI_of_ord hsel hC ord _ a hB hp h)
  rw [hlen] at this
  simpa using this
end
end Go.Proofs.YtmfihkgbfoapaaaDoor
namespace Go.Proofs.YtmfihkgbfoapaaaDoor
open Go
section
variable {P : Program} {ops : Array Oper} {C : World → Prop}
def plain2 : Op → Bool
  | .move _ => true
  | .load _ _ => true
  | .fieldAddr _ _ _ => true
  | .extract _ _ => true
  | .assign _ => true
  | .binOp _ _ _ _ _ => true
  | .unOp _ _ _ => true
  | .pick _ _ _ => true
  | .indexAddr _ _ _ => true
  | .build _ _ => true
  | .slice _ _ _ _ _ => true
  | .convert _ _ _ => true
  | _ => false
theorem plain2_no_enter {o : Oper} (h : plain2 o.op = true) (e : Operand → Value) (w : World) (f : FuncId) (args : Array Value) (w' : World) : (execOp e o).run P w ≠ .ok (.enter f args) w' := by
  unfold execOp
  cases ho : o.op <;> rw [ho] at h <;> first | (cases h; done) | skip
  all_goals simp only [Sem.run_bind, Sem.run_pure]
  all_goals first | exact andThen_value | (intro h; cases h; done) | (rename_i c _ _ _; generalize Sem.run P (asBool (e c)) w = r; cases r <;> (intro h; cases h)) | (rename_i c _ _; generalize Sem.run P (asBool (e c)) w = r; cases r <;> (intro h; cases h))
theorem quiet2_same {o : Oper} (h : plain2 o.op = true) {a : Act} {w : World} {v : Value} (hq : o.quietAt P a C w v) : o.quietAt P a (fun w'' => w'' = w) w v := by
  unfold Oper.quietAt at *
  have hn := plain2_no_enter (P := P) h a.eval w
  generalize (execOp a.eval o).run P w = r at *
  cases r with
  | ok n w' =>
    cases n <;> simp only [Oper.quietUpon] at hq ⊢
    case value => exact hq
    case skip => exact hq
    case enter => exact absurd rfl (hn _ _ _)
  | halt x w' => simp only [Oper.quietUpon] at hq
def plain2At (ops : Array Oper) (i : Nat) : Bool := match ops[i]? with | some o => plain2 o.op | none => false
def wpMix (P : Program) (ops : Array Oper) (C : World → Prop) (Q : Act → World → Prop) : List (Bool × Nat) → Act → World → Prop
  | [], a, w => Q a w
  | (true, k) :: ks, a, w => match ops[k]? with | none => False | some o => wpList P ops (fun e a' w' => e = .normal ∧ C w' ∧ wpMix P ops C Q ks a' w') [o] a w
  | (false, i) :: ks, a, w => match ops[i]? with | none => False | some o => wpQuiet P ops C (fun a' => wpMix P ops C Q ks a' w) [o] a
def mixB (ops : Array Oper) : List (Bool × Nat) → Array Bool → Bool
  | [], listed => (Region.ready .any ops listed).isEmpty
  | (true, k) :: ks, listed => decide (Region.ready .any ops listed = [k]) && mixB ops ks (listed.setIfInBounds k true)
  | (false, i) :: ks, listed => (Region.ready .any ops listed).contains i && Region.free .any ops listed i && plain2At ops i && mixB ops ks (listed.setIfInBounds i true)
theorem anyI_of_mix {Q : Act → World → Prop} (hsel : Region.noSelect ops = true) : ∀ (ks : List (Bool × Nat)) (listed : Array Bool) (a : Act) (w : World), C w → mixB ops ks listed = true → wpMix P ops C Q ks a w → wpAnyI P ops C Q ks.length listed a w
  | [], _, _, _, hC, hB, h => ⟨hC, by simpa [mixB] using hB, h⟩
  | (true, k) :: ks, listed, a, w, hC, hB, h => by
    simp only [mixB, Bool.and_eq_true, decide_eq_true_eq] at hB
    refine ⟨hC, fun h1 => (by rw [hB.1] at h1; cases h1), fun i hi => ?_⟩
    rw [hB.1] at hi
    have hik : i = k := by simpa using hi
    subst hik
    unfold wpMix at h
    cases ho : ops[i]? with
    | none => rw [ho] at h; exact h.elim
    | some o =>
      rw [ho] at h
      simp only at h
      have key : wpOp P ops (fun e a' w' => e = .normal ∧ C w' ∧ wpMix P ops C Q ks a' w') i (fun a' w' => C w' ∧ wpMix P ops C Q ks a' w') a w := by
        unfold wpOp; simp only [ho]
        unfold wpList at h
        split
        · rename_i hw
          simp only [hw, if_true] at h
          exact h.imp (Oper.wp_mono fun a w h => by simpa [wpList] using h) id
        · rename_i hw
          simp only [hw] at h
          simpa [wpList] using h
      unfold wpOp at key ⊢
      simp only [ho] at key ⊢
      split
      · rename_i hw
        simp only [hw, if_true] at key
        refine .inl ?_
        have key := key.resolve_right fun ⟨_, _, _, h, _⟩ => by cases h
        unfold Oper.wp at key ⊢
        generalize (execOp a.eval o).run P w = r at key ⊢
        have go : ∀ a' w', (C w' ∧ wpMix P ops C Q ks a' w') → wpAnyI P ops C Q ks.length (listed.setIfInBounds i true) a' w' := fun a' w' h => anyI_of_mix hsel ks _ a' w' h.1 hB.2 h.2
        cases r with
        | ok n w' =>
          cases n <;> simp only [Oper.upon] at key ⊢
          case value => exact go _ _ key
          case skip => exact go _ _ key
          case defer => exact go _ _ key
          case enter => exact Calls.mono key (fun e w'' he => by
            cases e with
            | returned v => exact go _ _ he
            | panicked ch => exact (by cases he.1)
            | outgrown => exact (by obtain ⟨_, _, h, _⟩ := he; cases h))
          case row => exact Rows.mono key (fun _ _ he => go _ _ he)
        | halt x w' => cases x <;> simp only [Oper.upon] at key ⊢ <;> first | exact key | (cases key.1)
      · rename_i hw
        simp only [hw] at key
        exact anyI_of_mix hsel ks _ _ _ key.1 hB.2 key.2
  | (false, i) :: ks, listed, a, w, hC, hB, h => by
    simp only [mixB, Bool.and_eq_true] at hB
    unfold wpMix at h
    cases ho : ops[i]? with
    | none => rw [ho] at h; exact h.elim
    | some o =>
      rw [ho] at h
      simp only [wpQuiet] at h
      have hpl : plain2 o.op = true := by have := hB.1.2; unfold plain2At at this; rw [ho] at this; exact this
      rw [List.length_cons]
      split at h
      · rename_i hw
        obtain ⟨v, h1, h2⟩ := h
        exact anyI_first ho (Region.noSelect_spec hsel) _ listed a w (Region.free_spec ho hB.1.1.2) (by simpa using hB.1.1.1) (.inl ⟨hw, fun w hw => quiet2_same hpl (h1 w hw)⟩) (anyI_of_mix hsel ks _ _ _ hC hB.2 h2)
      · rename_i hw
        exact anyI_first ho (Region.noSelect_spec hsel) _ listed a w (Region.free_spec ho hB.1.1.2) (by simpa using hB.1.1.1) (.inr ⟨by simpa using hw, rfl⟩) (anyI_of_mix hsel ks _ _ _ hC hB.2 h)
theorem wp_region_mix {id : Nat} {Q : Exit → Act → World → Prop} {a : Act} {w : World} {l : List Oper} (C : World → Prop) (ks : List (Bool × Nat)) (hm : P.follows .mixedOrders = true)
    (hB : (Region.noSelect l.toArray && decide (ks.length = l.length) && mixB l.toArray ks (Array.replicate l.length false)) = true) (hC : C w.drew)
    (h : wpMix P l.toArray C (fun a2 w2 => Q .normal a2 w2) ks a w.drew) : (Code.region id l.toArray true).wp P Q a w := by
  simp only [Bool.and_eq_true, decide_eq_true_eq] at hB
  obtain ⟨⟨hsel, hlen⟩, hB⟩ := hB
  refine wp_region_any hm ?_
  have := wpAny_of_I (Q' := Q) (fun _ _ h => h) _ _ _ _ (anyI_of_mix hsel ks _ a _ hC hB h)
  rw [hlen] at this
  simpa using this
end
end Go.Proofs.YtmfihkgbfoapaaaDoor
namespace Go.Proofs.YtmfihkgbfoapaaaDoor
open Go
section
variable {P : Program} {ops : Array Oper} {C : World → Prop}
end
end Go.Proofs.YtmfihkgbfoapaaaDoor
namespace Go.Proofs.YtmfihkgbfoapaaaDoor
open Go
section
variable {P : Program}
def edges (l : List Oper) : List (List Nat) := l.map fun o => (o.after.toList.filter fun e => Region.binds .any e).map fun e => e.on
def edgesB : Nat → List (List Nat) → Bool
  | _, [] => true
  | i, p :: r => (p.all fun j => decide (j < i)) && edgesB (i + 1) r
def upd (L : Nat → Bool) (i : Nat) : Nat → Bool := fun j => if j = i then true else L j
theorem edgesB_at : ∀ (E : List (List Nat)) (k i : Nat) (p : List Nat), edgesB k E = true → E[i]? = some p → ∀ j ∈ p, j < k + i
  | [], k, i, p, _, h => by simp at h
  | q :: E, k, 0, p, hB, h => by
    simp only [edgesB, Bool.and_eq_true, List.all_eq_true, decide_eq_true_eq] at hB
    simp at h; subst h
    intro j hj; have := hB.1 j hj; omega
  | q :: E, k, i + 1, p, hB, h => by
    simp only [edgesB, Bool.and_eq_true] at hB
    simp at h
    intro j hj
    have := edgesB_at E (k + 1) i p hB.2 h j hj
    omega
theorem edges_at {l : List Oper} {i : Nat} {o : Oper} (h : l[i]? = some o) : (edges l)[i]? = some ((o.after.toList.filter fun e => Region.binds .any e).map fun e => e.on) := by
  unfold edges; rw [List.getElem?_map, h]; rfl
theorem count_set {l : Array Bool} {i : Nat} (h : l.getD i true = false) : (l.setIfInBounds i true).toList.count false + 1 = l.toList.count false := by
  have hi : i < l.size := by
    rcases Nat.lt_or_ge i l.size with h' | h'
    · exact h'
    · simp [Array.getElem?_eq_none h'] at h
  have hf : l[i] = false := by simpa [hi] using h
  have hc : 0 < l.toList.count false := List.count_pos_iff.2 (by
    have : l.toList[i]'(by simpa using hi) = false := by simpa using hf
    rw [← this]; exact List.getElem_mem _)
  rw [Array.toList_setIfInBounds, List.count_set (by simpa using hi)]
  have : (l.toList[i]'(by simpa using hi) == false) = true := by simp [hf]
  rw [this, if_pos rfl, if_neg (by decide)]
  omega
theorem any_of_inv {l : List Oper} {Q : Exit → Act → World → Prop} (Inv : (Nat → Bool) → Act → World → Prop) (hE : edgesB 0 (edges l) = true)
    (hstep : ∀ (L : Nat → Bool) (a : Act) (w : World) (i : Nat) (o : Oper), Inv L a w → l[i]? = some o → L i = false → (∀ j ∈ (edges l).getD i [], L j = true) → wpList P l.toArray (fun e a' w' => e = .normal ∧ Inv (upd L i) a' w') [o] a w)
    (hend : ∀ (L : Nat → Bool) (a : Act) (w : World), Inv L a w → (∀ j, j < l.length → L j = true) → Q .normal a w) :
    ∀ (f : Nat) (listed : Array Bool) (a : Act) (w : World), listed.size = l.length → listed.toList.count false = f → Inv (fun j => listed.getD j false) a w → wpAnyI P l.toArray (fun _ => True) (fun a w => Q .normal a w) f listed a w := by
  have done : ∀ (listed : Array Bool), listed.size = l.length → Region.ready .any l.toArray listed = [] → ∀ j, j < l.length → listed.getD j false = true := by
    intro listed hsz hr j
    induction j using Nat.strongRecOn with
    | _ j ih =>
      intro hj
      cases hx : listed.getD j false with
      | true => rfl
      | false =>
        exfalso
        have hmem : j ∈ Region.ready .any l.toArray listed := by
          refine mem_ready.2 ⟨getD_in (by omega) hx, l[j], by simp [hj], fun e he hb => ?_⟩
          have h1 := edges_at (List.getElem?_eq_getElem hj)
          have h2 := edgesB_at (edges l) 0 j _ hE h1 e.on (List.mem_map_of_mem (List.mem_filter.2 ⟨by simpa using he, hb⟩))
          exact ih e.on (by omega) (by omega)
        rw [hr] at hmem; cases hmem
  intro f
  induction f with
  | zero =>
    intro listed a w hsz hc hI
    have hall : ∀ j, j < l.length → listed.getD j false = true := fun j hj => by
      have h0 := List.count_eq_zero.1 hc
      cases hx : listed.getD j false with
      | true => rfl
      | false =>
        exfalso
        apply h0
        have hj' : j < listed.size := by omega
        have : listed[j] = false := by simpa [hj'] using hx
        rw [← this]; simp
    refine ⟨trivial, ?_, hend _ a w hI hall⟩
    cases hr : Region.ready .any l.toArray listed with
    | nil => rfl
    | cons i r =>
      have hi : i ∈ Region.ready .any l.toArray listed := by rw [hr]; exact List.mem_cons_self
      have h1 := getD_both (mem_ready.1 hi).1
      obtain ⟨_, o, ho, _⟩ := mem_ready.1 hi
      have hlt : i < l.length := by
        rcases Nat.lt_or_ge i l.length with h | h
        · exact h
        · simp [List.getElem?_eq_none h] at ho
      rw [hall i hlt] at h1; cases h1
  | succ f ih =>
    intro listed a w hsz hc hI
    refine ⟨trivial, fun hr => hend _ a w hI (done listed hsz hr), fun i hi => ?_⟩
    obtain ⟨hun, o, ho, hall⟩ := mem_ready.1 hi
    have ho' : l[i]? = some o := by simpa using ho
    have h := hstep _ a w i o hI ho' (getD_both hun) (fun j hj => by
      rw [List.getD_eq_getElem?_getD, edges_at ho'] at hj
      obtain ⟨e, he, rfl⟩ := List.mem_map.1 hj
      obtain ⟨he1, he2⟩ := List.mem_filter.1 he
      exact hall e (by simpa using he1) he2)
    have hc' : (listed.setIfInBounds i true).toList.count false = f := by have := count_set hun; omega
    have hu : upd (fun j => listed.getD j false) i = fun j => (listed.setIfInBounds i true).getD j false := by
      funext j
      unfold upd
      by_cases hji : j = i
      · subst hji
        have hj : j < listed.size := by
          rcases Nat.lt_or_ge j listed.size with h' | h'
          · exact h'
          · simp [Array.getElem?_eq_none h'] at hun
        simp [hj]
      · rw [if_neg hji, getD_set_ne false (fun e => hji e.symm)]
    rw [hu] at h
    have go : ∀ a' w', Inv (fun j => (listed.setIfInBounds i true).getD j false) a' w' → wpAnyI P l.toArray (fun _ => True) (fun a w => Q .normal a w) f (listed.setIfInBounds i true) a' w' := fun a' w' hI' => ih _ a' w' (by simpa using hsz) hc' hI'
    have key : wpOp P l.toArray (fun e a' w' => e = .normal ∧ Inv (fun j => (listed.setIfInBounds i true).getD j false) a' w') i (fun a' w' => Inv (fun j => (listed.setIfInBounds i true).getD j false) a' w') a w := by
      unfold wpOp; simp only [ho]
      unfold wpList at h
      split
      · rename_i hw
        simp only [hw, if_true] at h
        exact h.imp (Oper.wp_mono fun a w h => by simpa [wpList] using h) id
      · rename_i hw
        simp only [hw] at h
        simpa [wpList] using h
    unfold wpOp at key ⊢
    simp only [ho] at key ⊢
    split
    · rename_i hw
      simp only [hw, if_true] at key
      refine .inl ?_
      have key := key.resolve_right fun ⟨_, _, _, h, _⟩ => by cases h
      unfold Oper.wp at key ⊢
      generalize (execOp a.eval o).run P w = r at key ⊢
      cases r with
      | ok n w' =>
        cases n <;> simp only [Oper.upon] at key ⊢
        case value => exact go _ _ key
        case skip => exact go _ _ key
        case defer => exact go _ _ key
        case enter => exact Calls.mono key (fun e w'' he => by
          cases e with
          | returned v => exact go _ _ he
          | panicked ch => exact (by cases he.1)
          | outgrown => exact (by obtain ⟨_, _, h, _⟩ := he; cases h))
        case row => exact Rows.mono key (fun _ _ he => go _ _ he)
      | halt x w' => cases x <;> simp only [Oper.upon] at key ⊢ <;> first | exact key | (cases key.1)
    · rename_i hw
      simp only [hw] at key
      exact go _ _ key
theorem wp_region_inv {id : Nat} {Q : Exit → Act → World → Prop} {a : Act} {w : World} {l : List Oper} (Inv : (Nat → Bool) → Act → World → Prop) (hm : P.follows .mixedOrders = true) (hE : edgesB 0 (edges l) = true)
    (h0 : Inv (fun _ => false) a w.drew)
    (hstep : ∀ (L : Nat → Bool) (a : Act) (w : World) (i : Nat) (o : Oper), Inv L a w → l[i]? = some o → L i = false → (∀ j ∈ (edges l).getD i [], L j = true) → wpList P l.toArray (fun e a' w' => e = .normal ∧ Inv (upd L i) a' w') [o] a w)
    (hend : ∀ (L : Nat → Bool) (a : Act) (w : World), Inv L a w → (∀ j, j < l.length → L j = true) → Q .normal a w) : (Code.region id l.toArray true).wp P Q a w := by
  refine wp_region_any hm ?_
  have hi : (fun j => (Array.replicate l.length false).getD j false) = fun _ => false := by
    funext j
    by_cases hj : j < l.length <;> simp [hj]
  have := wpAny_of_I (Q' := Q) (fun _ _ h => h) _ _ _ _ (any_of_inv (P := P) (Q := Q) Inv hE hstep hend l.length (Array.replicate l.length false) a w.drew (by simp) (by simp) (by rw [hi]; exact h0))
  simpa using this
end
end Go.Proofs.YtmfihkgbfoapaaaDoor
