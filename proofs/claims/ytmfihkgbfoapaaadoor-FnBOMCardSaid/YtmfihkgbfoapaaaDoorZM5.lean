/- Own texts M5 U7 of this claim, cut to what the claim uses. -/
import Derived.Test.YtmfihkgbfoapaaaDoorZM1
import Derived.Test.YtmfihkgbfoapaaaDoorZU2
namespace Go.Proofs.YtmfihkgbfoapaaaDoor
open Go
section
variable {P : Program}
def edges (l : List Oper) : List (List Nat) := l.map fun o => (o.after.toList.filter fun e => Region.binds .any e).map fun e => e.on
def edgesB : Nat → List (List Nat) → Bool
  | _, [] => true
  | i, p :: r => (p.all fun j => decide (j < i)) && edgesB (i + 1) r
def upd (L : Nat → Bool) (i : Nat) : Nat → Bool := fun j => if j = i then true else L j
theorem edgesB_at : ∀ (E : List (List Nat)) (k i : Nat) (p : List Nat), edgesB k E = true → E[i]? = some p → ∀ j ∈ p, j < k + i
  | [], k, i, p, _, h => by simp at h
  | q :: E, k, 0, p, hB, h => by
    simp only [edgesB, Bool.and_eq_true, List.all_eq_true, decide_eq_true_eq] at hB
    simp at h; subst h
    intro j hj; have := hB.1 j hj; omega
  | q :: E, k, i + 1, p, hB, h => by
    simp only [edgesB, Bool.and_eq_true] at hB
    simp at h
    intro j hj
    have := edgesB_at E (k + 1) i p hB.2 h j hj
    omega
theorem edges_at {l : List Oper} {i : Nat} {o : Oper} (h : l[i]? = some o) : (edges l)[i]? = some ((o.after.toList.filter fun e => Region.binds .any e).map fun e => e.on) := by
  unfold edges; rw [List.getElem?_map, h]; rfl
theorem count_set {l : Array Bool} {i : Nat} (h : l.getD i true = false) : (l.setIfInBounds i true).toList.count false + 1 = l.toList.count false := by
  have hi : i < l.size := by
    rcases Nat.lt_or_ge i l.size with h' | h'
    · exact h'
    · simp [Array.getElem?_eq_none h'] at h
  have hf : l[i] = false := by simpa [hi] using h
  have hc : 0 < l.toList.count false := List.count_pos_iff.2 (by
    have : l.toList[i]'(by simpa using hi) = false := by simpa using hf
    rw [← this]; exact List.getElem_mem _)
  rw [Array.toList_setIfInBounds, List.count_set (by simpa using hi)]
  have : (l.toList[i]'(by simpa using hi) == false) = true := by simp [hf]
  rw [this, if_pos rfl, if_neg (by decide)]
  omega
theorem any_of_inv {l : List Oper} {Q : Exit → Act → World → Prop} (Inv : (Nat → Bool) → Act → World → Prop) (hE : edgesB 0 (edges l) = true)
    (hstep : ∀ (L : Nat → Bool) (a : Act) (w : World) (i : Nat) (o : Oper), Inv L a w → l[i]? = some o → L i = false → (∀ j ∈ (edges l).getD i [], L j = true) → wpList P l.toArray (fun e a' w' => e = .normal ∧ Inv (upd L i) a' w') [o] a w)
    (hend : ∀ (L : Nat → Bool) (a : Act) (w : World), Inv L a w → (∀ j, j < l.length → L j = true) → Q .normal a w) :
    ∀ (f : Nat) (listed : Array Bool) (a : Act) (w : World), listed.size = l.length → listed.toList.count false = f → Inv (fun j => listed.getD j false) a w → wpAnyI P l.toArray (fun _ => True) (fun a w => Q .normal a w) f listed a w := by
  have done : ∀ (listed : Array Bool), listed.size = l.length → Region.ready .any l.toArray listed = [] → ∀ j, j < l.length → listed.getD j false = true := by
    intro listed hsz hr j
    induction j using Nat.strongRecOn with
    | _ j ih =>
      intro hj
      cases hx : listed.getD j false with
      | true => rfl
      | false =>
        exfalso
        have hmem : j ∈ Region.ready .any l.toArray listed := by
          refine mem_ready.2 ⟨getD_in (by omega) hx, l[j], by simp [hj], fun e he hb => ?_⟩
          have h1 := edges_at (List.getElem?_eq_getElem hj)
          have h2 := edgesB_at (edges l) 0 j _ hE h1 e.on (List.mem_map_of_mem (List.mem_filter.2 ⟨by simpa using he, hb⟩))
          exact ih e.on (by omega) (by omega)
        rw [hr] at hmem; cases hmem
  intro f
  induction f with
  | zero =>
    intro listed a w hsz hc hI
    have hall : ∀ j, j < l.length → listed.getD j false = true := fun j hj => by
      have h0 := List.count_eq_zero.1 hc
      cases hx : listed.getD j false with
      | true => rfl
      | false =>
        exfalso
        apply h0
        have hj' : j < listed.size := by omega
        have : listed[j] = false := by simpa [hj'] using hx
        rw [← this]; simp
    refine ⟨trivial, ?_, hend _ a w hI hall⟩
    cases hr : Region.ready .any l.toArray listed with
    | nil => rfl
    | cons i r =>
      have hi : i ∈ Region.ready .any l.toArray listed := by rw [hr]; exact List.mem_cons_self
      have h1 := getD_both (mem_ready.1 hi).1
      obtain ⟨_, o, ho, _⟩ := mem_ready.1 hi
      have hlt : i < l.length := by
        rcases Nat.lt_or_ge i l.length with h | h
        · exact h
        · simp [List.getElem?_eq_none h] at ho
      rw [hall i hlt] at h1; cases h1
  | succ f ih =>
    intro listed a w hsz hc hI
    refine ⟨trivial, fun hr => hend _ a w hI (done listed hsz hr), fun i hi => ?_⟩
    obtain ⟨hun, o, ho, hall⟩ := mem_ready.1 hi
    have ho' : l[i]? = some o := by simpa using ho
    have h := hstep _ a w i o hI ho' (getD_both hun) (fun j hj => by
      rw [List.getD_eq_getElem?_getD, edges_at ho'] at hj
      obtain ⟨e, he, rfl⟩ := List.mem_map.1 hj
      obtain ⟨he1, he2⟩ := List.mem_filter.1 he
      exact hall e (by simpa using he1) he2)
    have hc' : (listed.setIfInBounds i true).toList.count false = f := by have := count_set hun; omega
    have hu : upd (fun j => listed.getD j false) i = fun j => (listed.setIfInBounds i true).getD j false := by
      funext j
      unfold upd
      by_cases hji : j = i
      · subst hji
        have hj : j < listed.size := by
          rcases Nat.lt_or_ge j listed.size with h' | h'
          · exact h'
          · simp [Array.getElem?_eq_none h'] at hun
        simp [hj]
      · rw [if_neg hji, getD_set_ne false (fun e => hji e.symm)]
    rw [hu] at h
    have go : ∀ a' w', Inv (fun j => (listed.setIfInBounds i true).getD j false) a' w' → wpAnyI P l.toArray (fun _ => True) (fun a w => Q .normal a w) f (listed.setIfInBounds i true) a' w' := fun a' w' hI' => ih _ a' w' (by simpa using hsz) hc' hI'
    have key : wpOp P l.toArray (fun e a' w' => e = .normal ∧ Inv (fun j => (listed.setIfInBounds i true).getD j false) a' w') i (fun a' w' => Inv (fun j => (listed.setIfInBounds i true).getD j false) a' w') a w := by
      unfold wpOp; simp only [ho]
      unfold wpList at h
      split
      · rename_i hw
        simp only [hw, if_true] at h
        exact h.imp (Oper.wp_mono fun a w h => by simpa [wpList] using h) id
      · rename_i hw
        simp only [hw] at h
        simpa [wpList] using h
    unfold wpOp at key ⊢
    simp only [ho] at key ⊢
    split
    · rename_i hw
      simp only [hw, if_true] at key
      refine .inl ?_
      have key := key.resolve_right fun ⟨_, _, _, h, _⟩ => by cases h
      unfold Oper.wp at key ⊢
      generalize (execOp a.eval o).run P w = r at key ⊢
      cases r with
      | ok n w' =>
        cases n <;> simp only [Oper.upon] at key ⊢
        case value => exact go _ _ key
        case skip => exact go _ _ key
        case defer => exact go _ _ key
        case enter => exact Calls.mono key (fun e w'' he => by
          cases e with
          | returned v => exact go _ _ he
          | panicked ch => exact (by cases he.1)
          | outgrown => exact (by obtain ⟨_, _, h, _⟩ := he; cases h))
        case row => exact Rows.mono key (fun _ _ he => go _ _ he)
      | halt x w' => cases x <;> simp only [Oper.upon] at key ⊢ <;> first | exact key | (cases key.1)
    · rename_i hw
      simp only [hw] at key
      exact go _ _ key
theorem wp_region_inv {id : Nat} {Q : Exit → Act → World → Prop} {a : Act} {w : World} {l : List Oper} (Inv : (Nat → Bool) → Act → World → Prop) (hm : P.follows .mixedOrders = true) (hE : edgesB 0 (edges l) = true)
    (h0 : Inv (fun _ => false) a w.drew)
    (hstep : ∀ (L : Nat → Bool) (a : Act) (w : World) (i : Nat) (o : Oper), Inv L a w → l[i]? = some o → L i = false → (∀ j ∈ (edges l).getD i [], L j = true) → wpList P l.toArray (fun e a' w' => e = .normal ∧ Inv (upd L i) a' w') [o] a w)
    (hend : ∀ (L : Nat → Bool) (a : Act) (w : World), Inv L a w → (∀ j, j < l.length → L j = true) → Q .normal a w) : (Code.region id l.toArray true).wp P Q a w := by
  refine wp_region_any hm ?_
  have hi : (fun j => (Array.replicate l.length false).getD j false) = fun _ => false := by
    funext j
    by_cases hj : j < l.length <;> simp [hj]
  have := wpAny_of_I (Q' := Q) (fun _ _ h => h) _ _ _ _ (any_of_inv (P := P) (Q := Q) Inv hE hstep hend l.length (Array.replicate l.length false) a w.drew (by simp) (by simp) (by rw [hi]; exact h0))
  simpa using this
end
end Go.Proofs.YtmfihkgbfoapaaaDoor
namespace Go.Proofs.YtmfihkgbfoapaaaDoor
set_option linter.unusedVariables false
set_option linter.unusedSimpArgs false
open Go Go.RowKit Go.Lib Go.BigFrame Go.Proofs.YtmfihkgbfoapaaaDoorW.PrintWords
def nulText (src src2 : List UInt8) : List UInt8 := src ++ 0 :: src2
theorem inf5 : (Tryd.prog.info? 5).map (fun i => (i.zero, i.size, i.bytes)) = some (some (.int .u8 0), 1, 1) := by kernel_rfl
theorem src_C {B : Nat} {w : World} {a : Option Addr} {k : Nat} {src : List UInt8} (h : SrcAt B w a k src) : Kd.C (Kd.int .u8) w a src.length (ints src) := Kd.C_of_reads (readsInt_of.1 h.reads)
theorem ints_append (a b : List UInt8) : ints (a ++ b) = ints a ++ ints b := by simp [ints]
theorem row_nil {w : World} {base : Nat} (h : base ≤ w.heap.size) {W : World} (hq : W.heap[w.heap.size]? = some (.cells #[] 5 (0, 0))) : Kd.R (Kd.int .u8) 5 W base (fun _ => True) (.slice (some ⟨w.heap.size, 0, none⟩) 0 0) [] := by
  exact Kd.R_of_own (enc := Value.int .u8) (h1 := fun _ => rfl) ⟨rfl, .inr ⟨w.heap.size, 0, #[], rfl, h, hq, Nat.le_refl _, Nat.zero_le _, rfl, rfl⟩⟩ (fun _ _ => trivial)
theorem row_new {w : World} {base : Nat} {ok : Nat → Prop} {v : Value} {xs : List Int} (h : Kd.R (Kd.int .u8) 5 w base ok v xs) : v.ownBlock ≠ some w.heap.size := by
  intro e
  obtain ⟨h0, inner, ho, hr⟩ := h
  obtain ⟨cs, hc⟩ := own_typed ho _ e
  exact absurd (lt_of_heap hc) (Nat.lt_irrefl _)
theorem R_src {W : World} {base : Nat} {ok : Nat → Prop} {v : Value} {txt : List UInt8} (h : Kd.R (Kd.int .u8) 5 W base ok v (ints txt)) : ∃ A c, v = .slice A txt.length c ∧ SrcAt W.heap.size W A c txt := by
  obtain ⟨A, c, e, hc, hC⟩ := Kd.R_reads h
  rw [ints_length] at e hc hC
  refine ⟨A, c, e, hc, ?_, fun h0 => ?_⟩
  · obtain ⟨-, inner, ⟨hl, ho⟩, -⟩ := h
    rcases ho with ⟨e1, -⟩ | ⟨g, cap, cur, e1, _, _, _, hm, _⟩
    · rw [e] at e1; injection e1 with _ _ e2; omega
    · rw [e] at e1; injection e1 with _ _ e2; omega
  · obtain ⟨-, inner, ⟨hl, ho⟩, -⟩ := h
    rcases ho with ⟨e1, hn⟩ | ⟨g, cap, cur, e1, _, hq, _, hm, _⟩
    · rw [ints_length] at hn; omega
    · rw [e] at e1
      injection e1 with e2 _ _
      refine ⟨g, 0, e2, lt_of_heap hq, fun j hj => ?_⟩
      obtain ⟨ad, e3, hcell⟩ := Kd.at_int hC (j : Int) (by omega) (by omega)
      rw [e2] at e3; injection e3 with e3; subst e3
      rw [Int.toNat_natCast, Addr.add_lit, rd_ints] at hcell
      exact hcell
structure NulSt (n : Nat) (w1 : World) (a : Option Addr) (k : Nat) (src : List UInt8) (a2 : Option Addr) (k2 : Nat) (src2 : List UInt8) (s F : Stp) (L : Nat → Bool) (u7 u8 u9 u23 u24 u25 u26 u27 u28 u29 u30 u31 u32 u33 u34 u35 u36 : Value) (w : World) : Prop where
  below : Below w1.heap.size w1 w
  o42 : L 4 = true → L 2 = true
  o43 : L 4 = true → L 3 = true
  o64 : L 6 = true → L 4 = true
  f25 : L 1 = true → u25 = .slice a src.length k
  f29 : L 5 = true → u29 = .slice a2 src2.length k2
  f31 : L 7 = true → u31 = .agg #[.bool s.d, .int .i64 s.m, .int .u64 s.wh, .bool s.cu, .string s.f1, .string s.f2]
  f32 : L 8 = true → u32 = .agg #[.bool F.d, .int .i64 F.m, .int .u64 F.wh, .bool F.cu, .string F.f1, .string F.f2]
  row0 : L 0 = true → L 2 = false → Kd.R (Kd.int .u8) 5 w w1.heap.size (fun _ => True) u24 []
  row2 : L 2 = true → L 4 = false → Kd.R (Kd.int .u8) 5 w w1.heap.size (fun _ => True) u26 (ints src)
  row4 : L 4 = true → L 6 = false → Kd.R (Kd.int .u8) 5 w w1.heap.size (fun _ => True) u28 (ints src ++ ints [0])
  row6 : L 6 = true → Kd.R (Kd.int .u8) 5 w w1.heap.size (fun _ => True) u30 (ints src ++ ints [0] ++ ints src2)
  zero : L 3 = true → L 4 = false → ∃ g, u27 = .slice (some ⟨g, 0, none⟩) 1 1 ∧ w1.heap.size ≤ g ∧ w.heap[g]? = some (.cells #[.int .u8 0] 5 (0, 0)) ∧ (L 0 = true → L 2 = false → u24.ownBlock ≠ some g) ∧ (L 2 = true → u26.ownBlock ≠ some g)
  f33 : L 9 = true → ∃ v, u33 = .tuple #[v, .int .i64 (errNum F.cfg (nulText src src2) : Nat), .int .i64 (errNum F.cfg (nulText src src2) : Nat)]
  f23 : L 10 = true → ∃ v, u23 = .tuple #[v, .int .i64 (errNum F.cfg (nulText src src2) : Nat), .int .i64 (errNum F.cfg (nulText src src2) : Nat)]
  f35 : L 12 = true → u35 = .int .i64 (errNum F.cfg (nulText src src2) : Nat)
  g8 : L 15 = true → u8 = .int .i64 (errNum F.cfg (nulText src src2) : Nat)
end Go.Proofs.YtmfihkgbfoapaaaDoor
