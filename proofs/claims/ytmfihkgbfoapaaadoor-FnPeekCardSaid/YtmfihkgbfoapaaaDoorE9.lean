/- The tokens' row beside a scanner; kinds; what carries over from world to world. -/
import Derived.Test.YtmfihkgbfoapaaaDoorE7
import Derived.Test.YtmfihkgbfoapaaaDoorK1
namespace Go.Proofs.YtmfihkgbfoapaaaDoor
open Go Go.RowKit Go.Lib Go.BigFrame Go.Proofs.YtmfihkgbfoapaaaDoorW.PrintWords

theorem kind_ge (k : Nat) (c : Int) (h : 0 ≤ c ∧ c ≤ 1114111) (j : Nat) (hj : j ≤ 8) (hk : 8 - j < k) : K.impl_kind.l0 k c [(-1), (-2), (-3), (-4), (-5), (-6), (-7), (-8)] 8 j = some c := by
  induction k generalizing j with
  | zero => omega
  | succ k ih =>
    unfold K.impl_kind.l0
    by_cases h8 : j = 8
    · subst h8
      rw [if_neg (by decide)]
      congr 1; unfold wrap64; omega
    · have hj8 : j = 0 ∨ j = 1 ∨ j = 2 ∨ j = 3 ∨ j = 4 ∨ j = 5 ∨ j = 6 ∨ j = 7 := by omega
      rw [if_pos (by omega), if_pos (by omega), if_pos (by simp only [List.length_cons, List.length_nil]; omega)]
      have hw : wrap64 ((j : Int) + 1) = ((j + 1 : Nat) : Int) := by unfold wrap64; omega
      rw [hw, ih (j + 1) (by omega) (by omega), if_neg]
      rcases hj8 with rfl | rfl | rfl | rfl | rfl | rfl | rfl | rfl <;> (intro hh; exact absurd h.1 (by rw [hh]; decide))
theorem kind_m1 : K.impl_kind.f 20 (-1) = some (-1) := by kernel_rfl
theorem kind_m2 : K.impl_kind.f 20 (-2) = some (-2) := by kernel_rfl
theorem kind_m3 : K.impl_kind.f 20 (-3) = some (-3) := by kernel_rfl
theorem kind_m4 : K.impl_kind.f 20 (-4) = some (-4) := by kernel_rfl
theorem kind_m5 : K.impl_kind.f 20 (-5) = some (-5) := by kernel_rfl
theorem kind_m6 : K.impl_kind.f 20 (-6) = some (-6) := by kernel_rfl
theorem kind_m7 : K.impl_kind.f 20 (-7) = some (-7) := by kernel_rfl
theorem kind_m8 : K.impl_kind.f 20 (-8) = some (-8) := by kernel_rfl
theorem kind_val (c : Int) (h : -8 ≤ c ∧ c ≤ 1114111) : K.impl_kind.f 20 c = some c := by
  by_cases h0 : 0 ≤ c
  · exact kind_ge 20 c ⟨h0, h.2⟩ 0 (by omega) (by omega)
  · have : c = -1 ∨ c = -2 ∨ c = -3 ∨ c = -4 ∨ c = -5 ∨ c = -6 ∨ c = -7 ∨ c = -8 := by omega
    clear h h0
    rcases this with h | h | h | h | h | h | h | h
    · rw [h]; exact kind_m1
    · rw [h]; exact kind_m2
    · rw [h]; exact kind_m3
    · rw [h]; exact kind_m4
    · rw [h]; exact kind_m5
    · rw [h]; exact kind_m6
    · rw [h]; exact kind_m7
    · rw [h]; exact kind_m8
theorem kind_spec (w : World) (c : Int) (h : -8 ≤ c ∧ c ≤ 1114111) : Calls Tryd.prog 44 #[.int .i32 c] w fun e w' => e = .returned (.int .i64 c) ∧ Below w.heap.size w w' :=
  K.impl_kind.calls 20 c c w (kind_val c h)
theorem place_spec (w : World) (f : ByteArray) (a b c : Int) : Calls Tryd.prog 47 #[.agg #[.string f, .int .i64 a, .int .i64 b, .int .i64 c]] w fun e w' => e = .returned (.agg #[.int .i64 a, .int .i64 b, .int .i64 c]) ∧ Below w.heap.size w w' :=
  K.impl_place.calls f a b c a b c w rfl

/-- The tokens' row lies there still. -/
theorem R_keep {w w1 : World} {base : Nat} {ok : Nat → Prop} {v : Value} {xs : List K.S37} (h : Kd.R K.k37 37 w base ok v xs) (hk : ∀ (g : Nat) (cs : Array Value), v.ownBlock = some g → w.heap[g]? = some (Obj.cells cs 37 (0, 0)) → w1.heap[g]? = some (Obj.cells cs 37 (0, 0))) : Kd.R K.k37 37 w1 base ok v xs := by
  obtain ⟨h0, inner, ⟨hl, ho⟩, hr⟩ := h
  refine ⟨h0, inner, ⟨hl, ?_⟩, ⟨hr.1, fun j p hp => ?_⟩⟩
  · rcases ho with ho | ⟨g, cap, cur, e1, e2, e3, e4⟩
    · exact .inl ho
    · exact .inr ⟨g, cap, cur, e1, e2, hk _ _ (by rw [e1]; rfl) e3, e4⟩
  · have := hr.2 j p hp
    rw [K.k37_openM this]
    exact K.k37_mkM _ _ _ _
theorem Fr.row37 {E : Env} {w w1 : World} {r : Regs} (hR : Raw E w r) (h : Fr (E.at w) w1) (g : Nat) (cs : Array Value) (hg : w.heap[g]? = some (.cells cs 37 (0, 0))) : w1.heap[g]? = some (.cells cs 37 (0, 0)) := by
  refine h.2 g _ hg ?_ ?_ ?_ (fun c fz h => by cases h)
  · intro e; obtain ⟨cs', hb⟩ := hR.tagb; have e' : g = E.b := e; rw [e', hb] at hg; cases hg
  · intro e; obtain ⟨a, c, hr, _⟩ := hR.rd; have e' : g = E.bR := e; rw [e', hr] at hg; cases hg
  · intro e; have hr := hR.cnt; have e' : g = E.bC := e; rw [e', hr] at hg; cases hg

theorem R_block {w : World} {base : Nat} {ok : Nat → Prop} {v : Value} {xs : List K.S37} (h : Kd.R K.k37 37 w base ok v xs) {g : Nat} (hg : v.ownBlock = some g) : g < w.heap.size ∧ ∃ cs, w.heap[g]? = some (Obj.cells cs 37 (0, 0)) := by
  obtain ⟨h0, inner, ho, hr⟩ := h
  obtain ⟨cs, hc⟩ := own_typed ho g hg
  exact ⟨lt_of_heap hc, cs, hc⟩
theorem St.old {E : Env} {src : List UInt8} {w w1 : World} {l : List Item} {x : Sx} (h : St E src w l x) (hb : Below w.heap.size w w1) : St E src w1 l x := by
  obtain ⟨pre, r, h, h1⟩ := h; exact ⟨pre, r, h.old hb, h1⟩
theorem St.rebase {E : Env} {src : List UInt8} {w : World} {l : List Item} {x : Sx} (h : St E src w l x) : St (E.at w) src w l x := by
  obtain ⟨pre, r, h, h1⟩ := h; exact ⟨pre, r, h.rebase, h1⟩
/-- Behind what touches rows of tokens alone. -/
theorem Raw.moved {E : Env} {w w1 : World} {r : Regs} (h : Raw E w r) (hlow : ∀ k, k < E.B → w1.heap[k]? = w.heap[k]?) (hk : ∀ (k : Nat) (cs : Array Value) (t : TypeId) (fr : Nat × Nat), t ≠ 37 → w.heap[k]? = some (Obj.cells cs t fr) → w1.heap[k]? = some (Obj.cells cs t fr)) : Raw (E.at w1) w1 r := by
  obtain ⟨hB, v, lr, ⟨cs, c1, c2⟩, ⟨hl, ho⟩, hne⟩ := h.buf
  refine ⟨⟨hB, v, lr, ⟨cs, hk _ _ _ _ (by decide) c1, c2⟩, ⟨hl, ?_⟩, hne⟩, h.blen, ?_, hk _ _ _ _ (by decide) h.cnt, hk _ _ _ _ (by decide) h.cap, h.BR, h.BC, h.szs.of hlow, Fr.refl _⟩
  · rcases ho with ho | ⟨g, cap, cur, e1, e2, e3, e4⟩
    · exact .inl ho
    · exact .inr ⟨g, cap, cur, e1, e2, hk _ _ _ _ (by decide) e3, e4⟩
  · have hrd := h.rd
    obtain ⟨a, c, hb, _⟩ := hrd
    exact h.rd.of (E := E) ((hk _ _ _ _ (by decide) hb).trans hb.symm) hlow rfl rfl
theorem St.moved {E : Env} {src : List UInt8} {w w1 : World} {l : List Item} {x : Sx} (h : St E src w l x) (hlow : ∀ k, k < E.B → w1.heap[k]? = w.heap[k]?) (hk : ∀ (k : Nat) (cs : Array Value) (t : TypeId) (fr : Nat × Nat), t ≠ 37 → w.heap[k]? = some (Obj.cells cs t fr) → w1.heap[k]? = some (Obj.cells cs t fr)) : St (E.at w1) src w1 l x := by
  obtain ⟨pre, r, h, h1⟩ := h; exact ⟨pre, r, h.moved hlow hk, h1⟩

/-- How the scanner's identifiers are asked. -/
def IdAt (E : Env) (I : Idr) : Prop :=
  (E.ident = .nilFunc ∧ I = idGo) ∨ ∃ g d m wh cu f1 f2, E.ident = .func (.func 65) #[] #[.pointer (some ⟨g, 0, none⟩)] ∧ E.w0.heap[g]? = some (.cells (setCells d m wh cu f1 f2) 25 (0, 0)) ∧ g ≠ E.b ∧ g ≠ E.bR ∧ g ≠ E.bC ∧ I = idCustom f1 f2
theorem IdAt.ok {E : Env} {I : Idr} (h : IdAt E I) (U : Uni E.B E.w0) : IdOk E I := by
  rcases h with ⟨h1, rfl⟩ | ⟨g, d, m, wh, cu, f1, f2, h1, h2, h3, h4, h5, rfl⟩
  · exact ident_go E h1 U
  · exact ident_custom E g d m wh cu f1 f2 h1 h2 h3 h4 h5
theorem IdAt.move {E : Env} {I : Idr} {w : World} (h : IdAt E I) (f : Fr E w) : IdAt (E.at w) I := by
  rcases h with h | ⟨g, d, m, wh, cu, f1, f2, h1, h2, h3, h4, h5, h6⟩
  · exact .inl h
  · exact .inr ⟨g, d, m, wh, cu, f1, f2, h1, f.2 g _ h2 h3 h4 h5 (fun c fz h => by cases h), h3, h4, h5, h6⟩
theorem Uni.move {B : Nat} {w0 w : World} (h : Uni B w0) (f : Below B w0 w) : Uni B w :=
  ⟨fun w' hb => h.props w' (f.trans hb), fun w' hb => h.letter w' (f.trans hb), fun w' hb => h.digit w' (f.trans hb)⟩
end Go.Proofs.YtmfihkgbfoapaaaDoor
