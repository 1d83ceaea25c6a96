/- A region that draws its order: operations that may be taken first (they only read, and give the same in each world of a class) and operations that come alone, in any sequence. -/
import Derived.Test.YtmfihkgbfoapaaaDoorM1
namespace Go.Proofs.YtmfihkgbfoapaaaDoor
open Go
section
variable {P : Program} {ops : Array Oper} {C : World → Prop}

/-- An operation that hands back a value at once, or halts: no call. -/
def plain2 : Op → Bool
  | .move _ => true
  | .load _ _ => true
  | .fieldAddr _ _ _ => true
  | .extract _ _ => true
  | .assign _ => true
  | .binOp _ _ _ _ _ => true
  | .unOp _ _ _ => true
  | .pick _ _ _ => true
  | .indexAddr _ _ _ => true
  | .build _ _ => true
  | .slice _ _ _ _ _ => true
  | .convert _ _ _ => true
  | _ => false
theorem plain2_no_enter {o : Oper} (h : plain2 o.op = true) (e : Operand → Value) (w : World) (f : FuncId) (args : Array Value) (w' : World) : (execOp e o).run P w ≠ .ok (.enter f args) w' := by
  unfold execOp
  cases ho : o.op <;> rw [ho] at h <;> first | (cases h; done) | skip
  all_goals simp only [Sem.run_bind, Sem.run_pure]
  all_goals first | exact andThen_value | (intro h; cases h; done) | (rename_i c _ _ _; generalize Sem.run P (asBool (e c)) w = r; cases r <;> (intro h; cases h)) | (rename_i c _ _; generalize Sem.run P (asBool (e c)) w = r; cases r <;> (intro h; cases h))
theorem quiet2_same {o : Oper} (h : plain2 o.op = true) {a : Act} {w : World} {v : Value} (hq : o.quietAt P a C w v) : o.quietAt P a (fun w'' => w'' = w) w v := by
  unfold Oper.quietAt at *
  have hn := plain2_no_enter (P := P) h a.eval w
  generalize (execOp a.eval o).run P w = r at *
  cases r with
  | ok n w' =>
    cases n <;> simp only [Oper.quietUpon] at hq ⊢
    case value => exact hq
    case skip => exact hq
    case enter => exact absurd rfl (hn _ _ _)
  | halt x w' => simp only [Oper.quietUpon] at hq
def plain2At (ops : Array Oper) (i : Nat) : Bool := match ops[i]? with | some o => plain2 o.op | none => false
/-- A sequence: of each operation whether it comes alone. -/
def wpMix (P : Program) (ops : Array Oper) (C : World → Prop) (Q : Act → World → Prop) : List (Bool × Nat) → Act → World → Prop
  | [], a, w => Q a w
  | (true, k) :: ks, a, w => match ops[k]? with | none => False | some o => wpList P ops (fun e a' w' => e = .normal ∧ C w' ∧ wpMix P ops C Q ks a' w') [o] a w
  | (false, i) :: ks, a, w => match ops[i]? with | none => False | some o => wpQuiet P ops C (fun a' => wpMix P ops C Q ks a' w) [o] a
def mixB (ops : Array Oper) : List (Bool × Nat) → Array Bool → Bool
  | [], listed => (Region.ready .any ops listed).isEmpty
  | (true, k) :: ks, listed => decide (Region.ready .any ops listed = [k]) && mixB ops ks (listed.setIfInBounds k true)
  | (false, i) :: ks, listed => (Region.ready .any ops listed).contains i && Region.free .any ops listed i && plain2At ops i && mixB ops ks (listed.setIfInBounds i true)
theorem anyI_of_mix {Q : Act → World → Prop} (hsel : Region.noSelect ops = true) : ∀ (ks : List (Bool × Nat)) (listed : Array Bool) (a : Act) (w : World), C w → mixB ops ks listed = true → wpMix P ops C Q ks a w → wpAnyI P ops C Q ks.length listed a w
  | [], _, _, _, hC, hB, h => ⟨hC, by simpa [mixB] using hB, h⟩
  | (true, k) :: ks, listed, a, w, hC, hB, h => by
    simp only [mixB, Bool.and_eq_true, decide_eq_true_eq] at hB
    refine ⟨hC, fun h1 => (by rw [hB.1] at h1; cases h1), fun i hi => ?_⟩
    rw [hB.1] at hi
    have hik : i = k := by simpa using hi
    subst hik
    unfold wpMix at h
    cases ho : ops[i]? with
    | none => rw [ho] at h; exact h.elim
    | some o =>
      rw [ho] at h
      simp only at h
      have key : wpOp P ops (fun e a' w' => e = .normal ∧ C w' ∧ wpMix P ops C Q ks a' w') i (fun a' w' => C w' ∧ wpMix P ops C Q ks a' w') a w := by
        unfold wpOp; simp only [ho]
        unfold wpList at h
        split
        · rename_i hw
          simp only [hw, if_true] at h
          exact h.imp (Oper.wp_mono fun a w h => by simpa [wpList] using h) id
        · rename_i hw
          simp only [hw] at h
          simpa [wpList] using h
      unfold wpOp at key ⊢
      simp only [ho] at key ⊢
      split
      · rename_i hw
        simp only [hw, if_true] at key
        refine .inl ?_
        have key := key.resolve_right fun ⟨_, _, _, h, _⟩ => by cases h
        unfold Oper.wp at key ⊢
        generalize (execOp a.eval o).run P w = r at key ⊢
        have go : ∀ a' w', (C w' ∧ wpMix P ops C Q ks a' w') → wpAnyI P ops C Q ks.length (listed.setIfInBounds i true) a' w' := fun a' w' h => anyI_of_mix hsel ks _ a' w' h.1 hB.2 h.2
        cases r with
        | ok n w' =>
          cases n <;> simp only [Oper.upon] at key ⊢
          case value => exact go _ _ key
          case skip => exact go _ _ key
          case defer => exact go _ _ key
          case enter => exact Calls.mono key (fun e w'' he => by
            cases e with
            | returned v => exact go _ _ he
            | panicked ch => exact (by cases he.1)
            | outgrown => exact (by obtain ⟨_, _, h, _⟩ := he; cases h))
          case row => exact Rows.mono key (fun _ _ he => go _ _ he)
        | halt x w' => cases x <;> simp only [Oper.upon] at key ⊢ <;> first | exact key | (cases key.1)
      · rename_i hw
        simp only [hw] at key
        exact anyI_of_mix hsel ks _ _ _ key.1 hB.2 key.2
  | (false, i) :: ks, listed, a, w, hC, hB, h => by
    simp only [mixB, Bool.and_eq_true] at hB
    unfold wpMix at h
    cases ho : ops[i]? with
    | none => rw [ho] at h; exact h.elim
    | some o =>
      rw [ho] at h
      simp only [wpQuiet] at h
      have hpl : plain2 o.op = true := by have := hB.1.2; unfold plain2At at this; rw [ho] at this; exact this
      rw [List.length_cons]
      split at h
      · rename_i hw
        obtain ⟨v, h1, h2⟩ := h
        exact anyI_first ho (Region.noSelect_spec hsel) _ listed a w (Region.free_spec ho hB.1.1.2) (by simpa using hB.1.1.1) (.inl ⟨hw, fun w hw => quiet2_same hpl (h1 w hw)⟩) (anyI_of_mix hsel ks _ _ _ hC hB.2 h2)
      · rename_i hw
        exact anyI_first ho (Region.noSelect_spec hsel) _ listed a w (Region.free_spec ho hB.1.1.2) (by simpa using hB.1.1.1) (.inr ⟨by simpa using hw, rfl⟩) (anyI_of_mix hsel ks _ _ _ hC hB.2 h)
theorem wp_region_mix {id : Nat} {Q : Exit → Act → World → Prop} {a : Act} {w : World} {l : List Oper} (C : World → Prop) (ks : List (Bool × Nat)) (hm : P.follows .mixedOrders = true)
    (hB : (Region.noSelect l.toArray && decide (ks.length = l.length) && mixB l.toArray ks (Array.replicate l.length false)) = true) (hC : C w.drew)
    (h : wpMix P l.toArray C (fun a2 w2 => Q .normal a2 w2) ks a w.drew) : (Code.region id l.toArray true).wp P Q a w := by
  simp only [Bool.and_eq_true, decide_eq_true_eq] at hB
  obtain ⟨⟨hsel, hlen⟩, hB⟩ := hB
  refine wp_region_any hm ?_
  have := wpAny_of_I (Q' := Q) (fun _ _ h => h) _ _ _ _ (anyI_of_mix hsel ks _ a _ hC hB h)
  rw [hlen] at this
  simpa using this
end
end Go.Proofs.YtmfihkgbfoapaaaDoor
