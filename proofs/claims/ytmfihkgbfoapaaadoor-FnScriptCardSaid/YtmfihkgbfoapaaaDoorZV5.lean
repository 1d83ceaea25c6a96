/- Own texts V5 V6 V7 V8 of this claim, cut to what the claim uses. -/
import Derived.Test.YtmfihkgbfoapaaaDoorZU2
import Derived.Test.YtmfihkgbfoapaaaDoorZK4
namespace Go.Proofs.YtmfihkgbfoapaaaDoor
set_option linter.unusedVariables false
set_option linter.unusedSimpArgs false
open Go Go.RowKit Go.Lib Go.BigFrame Go.Proofs.YtmfihkgbfoapaaaDoorW.PrintWords
structure Ss where
  l : List Item
  fr : Bool
  mode : Int
  white : Int
  offs : Int
  ln : Int
  co : Int
def Ss.pos (src : List UInt8) (s : Ss) : K.S35 := if s.fr = true then ⟨0, 1, 1⟩ else ⟨(offOf src s.l : Nat), (lineAt src s.l : Nat), (colAt src s.l : Nat)⟩
def Ss.step (I : Idr) (src : List UInt8) (s : Ss) (p : K.S66) : Ss × Int × ByteArray :=
  if p.f0 = 0 then (⟨(scanGo ⟨s.mode, s.white, I⟩ src s.l).l, false, s.mode, s.white, (offOf src (scanGo ⟨s.mode, s.white, I⟩ src s.l).at_ : Nat), (tokLn src (scanGo ⟨s.mode, s.white, I⟩ src s.l).at_ : Nat), (tokCo src (scanGo ⟨s.mode, s.white, I⟩ src s.l).at_ : Nat)⟩,
    (scanGo ⟨s.mode, s.white, I⟩ src s.l).tok, ⟨(txt src (offOf src (scanGo ⟨s.mode, s.white, I⟩ src s.l).at_) (scanGo ⟨s.mode, s.white, I⟩ src s.l).l).toArray⟩)
  else if p.f0 = 1 then (⟨s.l.tail, false, s.mode, s.white, s.offs, 0, s.co⟩, chOf s.l, ⟨#[]⟩)
  else if p.f0 = 2 then (⟨s.l, false, s.mode, s.white, s.offs, s.ln, s.co⟩, chOf s.l, ⟨#[]⟩)
  else if p.f0 = 3 then (⟨s.l, s.fr, 4 * (p.f1 % 256), s.white, s.offs, s.ln, s.co⟩, 0, ⟨#[]⟩)
  else (⟨s.l, s.fr, s.mode, p.f1, s.offs, s.ln, s.co⟩, 0, ⟨#[]⟩)
def Ss.saw (I : Idr) (src : List UInt8) (s : Ss) (p : K.S66) : K.S37 :=
  ⟨(s.step I src p).2.1, (s.step I src p).2.2, ⟨(s.step I src p).1.offs, (s.step I src p).1.ln, (s.step I src p).1.co⟩, (s.step I src p).1.pos src⟩
def Ss.run (I : Idr) (src : List UInt8) : Ss → List K.S66 → List K.S37
  | _, [] => []
  | s, p :: ps => s.saw I src p :: Ss.run I src (s.step I src p).1 ps
theorem Ss.run_len (I : Idr) (src : List UInt8) (s : Ss) (ps : List K.S66) : (Ss.run I src s ps).length = ps.length := by
  induction ps generalizing s with
  | nil => rfl
  | cons p ps ih => simp only [Ss.run, List.length_cons, ih]
def InSs (E : Env) (src : List UInt8) (w : World) (s : Ss) : Prop :=
  ∃ x : Sx, ((s.fr = false ∧ Sl E src w s.l x ∧ x.ch = chOf s.l) ∨ (s.fr = true ∧ Sl0 E src w x ∧ x.ch = -2 ∧ s.l = startL src)) ∧ x.mode = s.mode ∧ x.white = s.white ∧ x.offs = s.offs ∧ x.ln = s.ln ∧ x.co = s.co
theorem InSs.ready {E : Env} {src : List UInt8} {w : World} {s : Ss} (h : InSs E src w s) : ∃ x : Sx, Ready E src w s.l x ∧ x.mode = s.mode ∧ x.white = s.white ∧ x.offs = s.offs ∧ x.ln = s.ln ∧ x.co = s.co := by
  obtain ⟨x, h1 | h1, h2⟩ := h
  · exact ⟨x, .inl h1.2, h2⟩
  · exact ⟨x, .inr h1.2, h2⟩
theorem InSs.raw {E : Env} {src : List UInt8} {w : World} {s : Ss} (h : InSs E src w s) : ∃ r, Raw E w r := by
  obtain ⟨x, hx, _⟩ := h.ready
  exact hx.frame
theorem InSs.frame {E : Env} {src : List UInt8} {w : World} {s : Ss} (h : InSs E src w s) : Fr E w := by
  obtain ⟨r, hr⟩ := h.raw
  exact hr.fr
theorem InSs.pos {E : Env} {src : List UInt8} {w : World} {s : Ss} (h : InSs E src w s) (hlen : Fits src) : ∃ (r : Regs) (o a b : Nat), Raw E w r ∧ PosIs r o a b ∧ s.pos src = ⟨(o : Nat), (a : Nat), (b : Nat)⟩ := by
  obtain ⟨x, ⟨h0, h1, _⟩ | ⟨h0, h1, _⟩, _⟩ := h
  · obtain ⟨r, hr, hp⟩ := h1.pos hlen
    exact ⟨r, _, _, _, hr, hp, by unfold Ss.pos; rw [h0, if_neg (by decide)]⟩
  · obtain ⟨r, hr, hp⟩ := h1.pos
    exact ⟨r, _, _, _, hr, hp, by unfold Ss.pos; rw [h0, if_pos rfl]; rfl⟩
theorem InSs.old {E : Env} {src : List UInt8} {w w1 : World} {s : Ss} (h : InSs E src w s) (hb : Below w.heap.size w w1) : InSs E src w1 s := by
  obtain ⟨x, ⟨h0, h1, h3⟩ | ⟨h0, ⟨r, hr, h1, h4⟩, h3⟩, h2⟩ := h
  · exact ⟨x, .inl ⟨h0, h1.old hb, h3⟩, h2⟩
  · exact ⟨x, .inr ⟨h0, ⟨r, hr.old hb, h1, h4⟩, h3⟩, h2⟩
theorem InSs.rebase {E : Env} {src : List UInt8} {w : World} {s : Ss} (h : InSs E src w s) : InSs (E.at w) src w s := by
  obtain ⟨x, ⟨h0, h1, h3⟩ | ⟨h0, ⟨r, hr, h1, h4⟩, h3⟩, h2⟩ := h
  · exact ⟨x, .inl ⟨h0, h1.rebase, h3⟩, h2⟩
  · exact ⟨x, .inr ⟨h0, ⟨r, hr.rebase, h1, h4⟩, h3⟩, h2⟩
theorem R70_keep {w w1 : World} {base : Nat} {ok : Nat → Prop} {v : Value} {xs : List K.S37} (h : Kd.R K.k37 70 w base ok v xs) (hk : ∀ (g : Nat) (cs : Array Value), v.ownBlock = some g → w.heap[g]? = some (Obj.cells cs 70 (0, 0)) → w1.heap[g]? = some (Obj.cells cs 70 (0, 0))) : Kd.R K.k37 70 w1 base ok v xs := by
  obtain ⟨h0, inner, ⟨hl, ho⟩, hr⟩ := h
  refine ⟨h0, inner, ⟨hl, ?_⟩, ⟨hr.1, fun j p hp => ?_⟩⟩
  · rcases ho with ho | ⟨g, cap, cur, e1, e2, e3, e4⟩
    · exact .inl ho
    · exact .inr ⟨g, cap, cur, e1, e2, hk _ _ (by rw [e1]; rfl) e3, e4⟩
  · have := hr.2 j p hp
    rw [K.k37_openM this]
    exact K.k37_mkM _ _ _ _
theorem R70_block {w : World} {base : Nat} {ok : Nat → Prop} {v : Value} {xs : List K.S37} (h : Kd.R K.k37 70 w base ok v xs) {g : Nat} (hg : v.ownBlock = some g) : g < w.heap.size ∧ ∃ cs, w.heap[g]? = some (Obj.cells cs 70 (0, 0)) := by
  obtain ⟨h0, inner, ho, hr⟩ := h
  obtain ⟨cs, hc⟩ := own_typed ho g hg
  exact ⟨lt_of_heap hc, cs, hc⟩
theorem Fr.rowT {E : Env} {w w1 : World} {r : Regs} (hR : Raw E w r) (h : Fr (E.at w) w1) (t : TypeId) (ht : t = 70 ∨ t = 66) (g : Nat) (cs : Array Value) (hg : w.heap[g]? = some (.cells cs t (0, 0))) : w1.heap[g]? = some (.cells cs t (0, 0)) := by
  rcases ht with rfl | rfl
  all_goals
    refine h.2 g _ hg ?_ ?_ ?_ (fun c fz h => by cases h)
    · intro e; obtain ⟨cs', hb⟩ := hR.tagb; have e' : g = E.b := e; rw [e', hb] at hg; cases hg
    · intro e; obtain ⟨a, c, hr, _⟩ := hR.rd; have e' : g = E.bR := e; rw [e', hr] at hg; cases hg
    · intro e; have hr := hR.cnt; have e' : g = E.bC := e; rw [e', hr] at hg; cases hg
theorem Raw.moved70 {E : Env} {w w1 : World} {r : Regs} (h : Raw E w r) (hlow : ∀ k, k < E.B → w1.heap[k]? = w.heap[k]?) (hk : ∀ (k : Nat) (cs : Array Value) (t : TypeId) (fr : Nat × Nat), t ≠ 70 → w.heap[k]? = some (Obj.cells cs t fr) → w1.heap[k]? = some (Obj.cells cs t fr)) : Raw (E.at w1) w1 r := by
  obtain ⟨hB, v, lr, ⟨cs, c1, c2⟩, ⟨hl, ho⟩, hne⟩ := h.buf
  refine ⟨⟨hB, v, lr, ⟨cs, hk _ _ _ _ (by decide) c1, c2⟩, ⟨hl, ?_⟩, hne⟩, h.blen, ?_, hk _ _ _ _ (by decide) h.cnt, hk _ _ _ _ (by decide) h.cap, h.BR, h.BC, h.szs.of hlow, Fr.refl _⟩
  · rcases ho with ho | ⟨g, cap, cur, e1, e2, e3, e4⟩
    · exact .inl ho
    · exact .inr ⟨g, cap, cur, e1, e2, hk _ _ _ _ (by decide) e3, e4⟩
  · have hrd := h.rd
    obtain ⟨a, c, hb, _⟩ := hrd
    exact h.rd.of (E := E) ((hk _ _ _ _ (by decide) hb).trans hb.symm) hlow rfl rfl
theorem InSs.moved70 {E : Env} {src : List UInt8} {w w1 : World} {s : Ss} (h : InSs E src w s) (hlow : ∀ k, k < E.B → w1.heap[k]? = w.heap[k]?) (hk : ∀ (k : Nat) (cs : Array Value) (t : TypeId) (fr : Nat × Nat), t ≠ 70 → w.heap[k]? = some (Obj.cells cs t fr) → w1.heap[k]? = some (Obj.cells cs t fr)) : InSs (E.at w1) src w1 s := by
  obtain ⟨x, ⟨h0, ⟨pre, r, hr, h1⟩, h3⟩ | ⟨h0, ⟨r, hr, h1⟩, h3⟩, h2⟩ := h
  · exact ⟨x, .inl ⟨h0, ⟨pre, r, hr.moved70 hlow hk, h1⟩, h3⟩, h2⟩
  · exact ⟨x, .inr ⟨h0, ⟨r, hr.moved70 hlow hk, h1⟩, h3⟩, h2⟩
def InSt (E : Env) (src : List UInt8) (w : World) (s : Ss) (t : Nat) : Prop :=
  ∃ x : Sx, St E src w s.l x ∧ x.tok = some t ∧ s.fr = false ∧ x.ch = chOf s.l ∧ x.mode = s.mode ∧ x.white = s.white ∧ x.offs = s.offs ∧ x.ln = s.ln ∧ x.co = s.co
theorem InSt.ss {E : Env} {src : List UInt8} {w : World} {s : Ss} {t : Nat} (h : InSt E src w s t) : InSs E src w s := by
  obtain ⟨x, h1, -, h2, h3, h4⟩ := h
  exact ⟨x, .inl ⟨h2, h1.sl, h3⟩, h4⟩
theorem InSt.old {E : Env} {src : List UInt8} {w w1 : World} {s : Ss} {t : Nat} (h : InSt E src w s t) (hb : Below w.heap.size w w1) : InSt E src w1 s t := by
  obtain ⟨x, h1, h2⟩ := h
  exact ⟨x, h1.old hb, h2⟩
theorem InSs.suffix {E : Env} {src : List UInt8} {w : World} {s : Ss} (h : InSs E src w s) : ∃ pre, items src = pre ++ s.l := by
  obtain ⟨x, ⟨h0, h1, _⟩ | ⟨h0, h1, _, h3⟩, _⟩ := h
  · obtain ⟨pre, r, _, hd, _⟩ := h1
    exact ⟨pre, hd.split⟩
  · rw [h3]; exact startL_pre src
theorem InSs.rng {E : Env} {src : List UInt8} {w : World} {s : Ss} (h : InSs E src w s) : -8 ≤ chOf s.l ∧ chOf s.l ≤ 1114111 := by
  obtain ⟨pre, hp⟩ := h.suffix
  have := chOf_range hp
  omega
theorem InSs.rngG {E : Env} {src : List UInt8} {w : World} {s : Ss} (h : InSs E src w s) (C : Cfg) : -8 ≤ (scanGo C src s.l).tok ∧ (scanGo C src s.l).tok ≤ 1114111 := by
  obtain ⟨pre, hp⟩ := h.suffix
  exact scanGo_tok C src s.l fun c hc => items_rune (src := src) (by rw [hp]; exact List.mem_append_right _ hc)
theorem ss_scan (E : Env) (I : Idr) (src : List UInt8) (w : World) (s : Ss) (h : InSs E src w s) (hw : 0 ≤ s.white ∧ s.white < 18446744073709551616) (gl : Glob E) (hI : IdOk E I) (hlen : Fits src) (p : K.S66) (hp : p.f0 = 0) :
    Calls Tryd.prog 45 #[.pointer (some ⟨E.b, 0, none⟩)] w fun e w' => e = .returned (.int .i32 (s.step I src p).2.1) ∧ InSt E src w' (s.step I src p).1 (offOf src (scanGo ⟨s.mode, s.white, I⟩ src s.l).at_) := by
  obtain ⟨x, hr, h1, h2, h3, h4, h5⟩ := h.ready
  refine (scan_sl E ⟨s.mode, s.white, I⟩ src w s.l x hr ⟨h1, h2⟩ hw gl hI hlen).mono ?_
  rintro e w' ⟨rfl, hs⟩
  unfold Ss.step
  rw [if_pos hp]
  exact ⟨rfl, _, hs, rfl, rfl, rfl, h1, h2, rfl, rfl, rfl⟩
theorem ss_text (E : Env) (I : Idr) (src : List UInt8) (w : World) (s : Ss) (p : K.S66) (hp : p.f0 = 0) (h : InSt E src w (s.step I src p).1 (offOf src (scanGo ⟨s.mode, s.white, I⟩ src s.l).at_)) (hlen : Fits src) :
    Calls Tryd.prog 46 #[.pointer (some ⟨E.b, 0, none⟩)] w fun e w' => e = .returned (.string (s.step I src p).2.2) ∧ InSs E src w' (s.step I src p).1 := by
  obtain ⟨x, h1, h2, h3⟩ := h
  refine (tokenText_st E src w _ x _ h1 h2 hlen).mono ?_
  rintro e w' ⟨rfl, hs⟩
  have e1 : (s.step I src p).2.2 = ⟨(txt src (offOf src (scanGo ⟨s.mode, s.white, I⟩ src s.l).at_) (s.step I src p).1.l).toArray⟩ := by unfold Ss.step; rw [if_pos hp]
  exact ⟨by rw [e1], InSt.ss ⟨x, hs, h2, h3⟩⟩
theorem ss_next (E : Env) (I : Idr) (src : List UInt8) (w : World) (s : Ss) (h : InSs E src w s) (gl : Glob E) (hlen : Fits src) (p : K.S66) (hp : p.f0 = 1) :
    Calls Tryd.prog 55 #[.pointer (some ⟨E.b, 0, none⟩)] w fun e w' => e = .returned (.int .i32 (s.step I src p).2.1) ∧ InSs E src w' (s.step I src p).1 := by
  obtain ⟨x, hr, h1, h2, h3, h4, h5⟩ := h.ready
  refine (nextch_sl E src w s.l x hr gl hlen).mono ?_
  rintro e w' ⟨rfl, hs⟩
  unfold Ss.step
  rw [if_neg (by omega), if_pos hp]
  exact ⟨rfl, _, .inl ⟨rfl, hs, rfl⟩, h1, h2, h3, rfl, h5⟩
theorem ss_peek (E : Env) (I : Idr) (src : List UInt8) (w : World) (s : Ss) (h : InSs E src w s) (gl : Glob E) (hlen : Fits src) (p : K.S66) (hp : p.f0 = 2) :
    Calls Tryd.prog 56 #[.pointer (some ⟨E.b, 0, none⟩)] w fun e w' => e = .returned (.int .i32 (s.step I src p).2.1) ∧ InSs E src w' (s.step I src p).1 := by
  obtain ⟨x, hr, h1, h2, h3, h4, h5⟩ := h.ready
  refine (peek_sl E src w s.l x hr gl hlen).mono ?_
  rintro e w' ⟨rfl, hs⟩
  unfold Ss.step
  rw [if_neg (by omega), if_neg (by omega), if_pos hp]
  exact ⟨rfl, _, .inl ⟨rfl, hs, rfl⟩, h1, h2, h3, h4, h5⟩
end Go.Proofs.YtmfihkgbfoapaaaDoor
namespace Go.Proofs.YtmfihkgbfoapaaaDoor
set_option linter.unusedVariables false
set_option linter.unusedSimpArgs false
open Go Go.RowKit Go.Lib Go.BigFrame Go.Proofs.YtmfihkgbfoapaaaDoorW.PrintWords
theorem mode_cong {m m' : Int} (h : ∀ i : Int, 0 ≤ i → i < 8 → Go.bits .and .i64 (K.shr .i64 m i) 1 = Go.bits .and .i64 (K.shr .i64 m' i) 1) (y : List Int) : ∀ (k : Nat) (x3 x8 : Int), 0 ≤ x8 →
    K.impl_mode.l0 k m x3 y 8 x8 = K.impl_mode.l0 k m' x3 y 8 x8
  | 0, _, _, _ => rfl
  | k + 1, x3, x8, h0 => by
    have ih := mode_cong h y k
    unfold K.impl_mode.l0
    by_cases h8 : x8 < 8
    · rw [if_pos h8, if_pos h8, h x8 h0 h8]
      rw [wrap64_id (by omega) (by omega), ih _ _ (by omega), ih _ _ (by omega)]
    · rw [if_neg h8, if_neg h8]
theorem bit_one {x : Int} (h0 : 0 ≤ x) (h1 : x < 9223372036854775808) : Go.bits .and .i64 x 1 = x % 2 := by
  obtain ⟨n, rfl⟩ : ∃ n : Nat, x = n := ⟨x.toNat, by omega⟩
  unfold Go.bits
  have e1 : (BitVec.ofInt IntKind.i64.bits (n : Int)).toNat = n := by
    rw [BitVec.toNat_ofInt]
    show ((n : Int) % ((2 ^ 64 : Nat) : Int)).toNat = n
    omega
  have e : (BitVec.ofInt IntKind.i64.bits (n : Int) &&& BitVec.ofInt IntKind.i64.bits 1).toNat = n % 2 := by
    rw [BitVec.toNat_and, e1]
    show n &&& 1 = n % 2
    exact Nat.and_one_is_mod n
  simp only [e]
  rw [IntKind.wrap_i64]
  omega
theorem mode_l0 (x : Int) : K.impl_mode.f 20 x = K.impl_mode.l0 20 x 0 [4, 8, 16, 32, 64, 128, 256, 512] 8 0 := by
  unfold K.impl_mode.f
  rw [Option.bind_some]
  congr 1
theorem mode_any {m : Int} (h0 : 0 ≤ m) (h1 : m < 9223372036854775808) : K.impl_mode.f 20 m = some (4 * (m % 256)) := by
  have hm := mode_val (m := m % 256) (by omega) (by omega)
  rw [mode_l0] at hm ⊢
  rw [← hm]
  refine mode_cong (m := m) (m' := m % 256) (fun i hi h8 => ?_) [4, 8, 16, 32, 64, 128, 256, 512] 20 0 0 (by omega)
  have hp : min i.toNat IntKind.i64.bits = i.toNat := Nat.min_eq_left (by show i.toNat ≤ 64; omega)
  unfold K.shr
  rw [hp]
  have hk : i = 0 ∨ i = 1 ∨ i = 2 ∨ i = 3 ∨ i = 4 ∨ i = 5 ∨ i = 6 ∨ i = 7 := by omega
  have key : ∀ d : Int, 0 < d → (m / d) % 2 = (m % 256 / d) % 2 → Go.bits .and .i64 (m / d) 1 = Go.bits .and .i64 (m % 256 / d) 1 := fun d hd h => by
    have a1 : 0 ≤ m / d := Int.ediv_nonneg h0 (by omega)
    have a2 : m / d ≤ m := Int.ediv_le_self _ h0
    have a3 : 0 ≤ m % 256 / d := Int.ediv_nonneg (by omega) (by omega)
    have a4 : m % 256 / d ≤ m % 256 := Int.ediv_le_self _ (by omega)
    rw [bit_one a1 (by omega), bit_one a3 (by omega), h]
  rcases hk with rfl | rfl | rfl | rfl | rfl | rfl | rfl | rfl
  · exact key 1 (by decide) (by omega)
  · exact key 2 (by decide) (by omega)
  · exact key 4 (by decide) (by omega)
  · exact key 8 (by decide) (by omega)
  · exact key 16 (by decide) (by omega)
  · exact key 32 (by decide) (by omega)
  · exact key 64 (by decide) (by omega)
  · exact key 128 (by decide) (by omega)
end Go.Proofs.YtmfihkgbfoapaaaDoor
namespace Go.Proofs.YtmfihkgbfoapaaaDoor
set_option linter.unusedVariables false
set_option linter.unusedSimpArgs false
open Go Go.RowKit Go.Lib Go.BigFrame Go.Proofs.YtmfihkgbfoapaaaDoorW.PrintWords
theorem InSs.place {E : Env} {src : List UInt8} {w : World} {s : Ss} (h : InSs E src w s) :
    w.cell? ⟨E.b, 1044, none⟩ = some (.string ⟨#[]⟩) ∧ w.cell? ⟨E.b, 1045, none⟩ = some (.int .i64 s.offs) ∧ w.cell? ⟨E.b, 1046, none⟩ = some (.int .i64 s.ln) ∧ w.cell? ⟨E.b, 1047, none⟩ = some (.int .i64 s.co) := by
  obtain ⟨x, ⟨h0, h1, _⟩ | ⟨h0, ⟨r, hr, h1, hX⟩, _⟩, -, -, h3, h4, h5⟩ := h
  · exact ⟨h1.c_file, by rw [← h3]; exact h1.c_offs, by rw [← h4]; exact h1.c_ln, by rw [← h5]; exact h1.c_co⟩
  · exact ⟨hr.c_file, by rw [hr.c_offs, hX.offs, h3], by rw [hr.c_ln, hX.ln, h4], by rw [hr.c_co, hX.co, h5]⟩
theorem InSs.set_mode {E : Env} {src : List UInt8} {w : World} {s : Ss} (h : InSs E src w s) (c : Int) : InSs E src (w.setCell ⟨E.b, 1041, none⟩ (.int .u64 c)) { s with mode := c } := by
  obtain ⟨x, ⟨h0, h1, h6⟩ | ⟨h0, h1, h6⟩, h2, h3, h4⟩ := h
  · exact ⟨_, .inl ⟨h0, h1.set_mode c, h6⟩, rfl, h3, h4⟩
  · exact ⟨_, .inr ⟨h0, h1.set_mode c, h6⟩, rfl, h3, h4⟩
theorem InSs.set_white {E : Env} {src : List UInt8} {w : World} {s : Ss} (h : InSs E src w s) (c : Int) : InSs E src (w.setCell ⟨E.b, 1042, none⟩ (.int .u64 c)) { s with white := c } := by
  obtain ⟨x, ⟨h0, h1, h6⟩ | ⟨h0, h1, h6⟩, h2, h3, h4⟩ := h
  · exact ⟨_, .inl ⟨h0, h1.set_white c, h6⟩, h2, rfl, h4⟩
  · exact ⟨_, .inr ⟨h0, h1.set_white c, h6⟩, h2, rfl, h4⟩
end Go.Proofs.YtmfihkgbfoapaaaDoor
namespace Go.Proofs.YtmfihkgbfoapaaaDoor
set_option linter.unusedVariables false
set_option linter.unusedSimpArgs false
open Go Go.RowKit Go.Lib Go.BigFrame Go.Proofs.YtmfihkgbfoapaaaDoorW.PrintWords
theorem IdAt.old {E : Env} {I : Idr} {w w1 : World} (h : IdAt (E.at w) I) (hb : Below w.heap.size w w1) : IdAt (E.at w1) I := by
  rcases h with h | ⟨g, d, m, wh, cu, f1, f2, h1, h2, h3, h4, h5, h6⟩
  · exact .inl h
  · exact .inr ⟨g, d, m, wh, cu, f1, f2, h1, (hb.block g (lt_of_heap h2)).trans h2, h3, h4, h5, h6⟩
def MidS (E : Env) (I : Idr) (src : List UInt8) (w : World) (n q : Nat) (z : Ss) (p : K.S66) (v : Value) (xs : List K.S37) (w5 : World) : Prop :=
  InSs (E.at w5) src w5 (z.step I src p).1 ∧ IdAt (E.at w5) I ∧ Vars E.B w5 ∧ Kd.R K.k37 70 w5 n (fun q => n ≤ q) v xs ∧ Below n w w5 ∧
  w5.heap[q]? = some (Obj.cells (tcells (z.step I src p).2.1 (z.step I src p).2.2 0 0 0 0 0 0) 70 (0, 0))
theorem mid_of {E : Env} {I : Idr} {src : List UInt8} {w wr wb w4 w5 : World} {n q : Nat} {z : Ss} {p : K.S66} {v : Value} {xs : List K.S37} (hEB : E.B = n) (hid : IdAt (E.at wr) I) (hvs : Vars E.B wr) (hR : Kd.R K.k37 70 wr n (fun q => n ≤ q) v xs) (hb : Below n w wr) (hsz : w.heap.size = n)
    (h0 : InSs (E.at wb) src wb z) (hwb : Below wr.heap.size wr wb) (hq : wr.heap.size ≤ q) (h4 : InSs (E.at wb) src w4 (z.step I src p).1)
    (b5 : Below q w4 w5) (o5 : ∀ k, k ≠ q → w5.heap[k]? = w4.heap[k]?) (q4 : ∃ cs, w4.heap[q]? = some (Obj.cells cs 70 (0, 0))) (q5 : w5.heap[q]? = some (Obj.cells (tcells (z.step I src p).2.1 (z.step I src p).2.2 0 0 0 0 0 0) 70 (0, 0))) : MidS E I src w n q z p v xs w5 := by
  obtain ⟨r0, hr0⟩ := h0.raw
  have hBn : n ≤ wr.heap.size := by have := hb.size; omega
  have F4 : Fr (E.at wb) w4 := h4.frame
  have own : ∀ g, v.ownBlock = some g → g < wr.heap.size := fun g hg => (R70_block hR hg).1
  have b1 : Below n wb w4 := by have := F4.1; rw [show (E.at wb).B = E.B from rfl, hEB] at this; exact this
  have hB5 : Below n wr w5 := ((hwb.mono hBn).trans b1).trans (b5.mono (by omega))
  refine ⟨?_, ?_, hvs.move (by rw [hEB]; exact hB5), ?_, hb.trans hB5, q5⟩
  · refine InSs.moved70 (E := E.at wb) h4 (fun k hk => o5 k (by have : k < E.B := hk; omega)) (fun k cs t fr ht h => ?_)
    obtain ⟨cs4, h44⟩ := q4
    exact (o5 k (fun e => by rw [e, h44] at h; injection h with h; injection h with _ h _; exact ht h.symm)).trans h
  · rcases hid with h | ⟨g, d, m, wh, cu, f1, f2, h1, h2, h3, h4', h5, h6⟩
    · exact .inl h
    · have hgl : g < wr.heap.size := lt_of_heap h2
      have g1 := (hwb.block g hgl).trans h2
      have g2 := F4.2 g _ g1 h3 h4' h5 (fun c fz e => by cases e)
      exact .inr ⟨g, d, m, wh, cu, f1, f2, h1, (o5 g (by omega)).trans g2, h3, h4', h5, h6⟩
  · refine R70_keep hR fun g cs hg h => ?_
    have g1 := (hwb.block g (own g hg)).trans h
    have g2 := Fr.rowT hr0 F4 70 (.inl rfl) g cs g1
    exact (o5 g (by have := own g hg; omega)).trans g2
theorem Ss.step_white {I : Idr} {src : List UInt8} {z : Ss} {d ar : Int} (h : 0 ≤ z.white ∧ z.white < 18446744073709551616) (h0 : 0 ≤ ar) (h1 : ar < 9223372036854775808) : 0 ≤ (z.step I src ⟨d, ar⟩).1.white ∧ (z.step I src ⟨d, ar⟩).1.white < 18446744073709551616 := by
  unfold Ss.step
  simp only
  repeat' split
  all_goals simp only
  all_goals omega
theorem saw_stores {w4 : World} {q : Nat} {a0 a1 a2 a3 a4 a5 a6 a7 : Value} {ty : TypeId} (h : w4.heap[q]? = some (Obj.cells #[a0, a1, a2, a3, a4, a5, a6, a7] ty (0, 0))) (b2 b3 b4 b5 b6 b7 : Value) {w5 : World}
    (hw : ((((((w4.setCell ⟨q, 2, none⟩ b2).setCell ⟨q, 3, none⟩ b3).setCell ⟨q, 4, none⟩ b4).setCell ⟨q, 5, none⟩ b5).setCell ⟨q, 6, none⟩ b6).setCell ⟨q, 7, none⟩ b7) = w5) :
    w5.heap[q]? = some (Obj.cells #[a0, a1, b2, b3, b4, b5, b6, b7] ty (0, 0)) ∧ (∀ k, k ≠ q → w5.heap[k]? = w4.heap[k]?) ∧ Below q w4 w5 ∧ w5.heap.size = w4.heap.size := by
  subst hw
  have h2 := Go.Lib.heap_setCell_same (i := 2) h b2
  have h3 := Go.Lib.heap_setCell_same (i := 3) h2 b3
  have h4 := Go.Lib.heap_setCell_same (i := 4) h3 b4
  have h5 := Go.Lib.heap_setCell_same (i := 5) h4 b5
  have h6 := Go.Lib.heap_setCell_same (i := 6) h5 b6
  have h7 := Go.Lib.heap_setCell_same (i := 7) h6 b7
  refine ⟨h7, fun k hk => ?_, ?_, by simp only [World.size_setCell]⟩
  · iterate 6 rw [Below.heap_setCell _ _ _ _ (by exact hk)]
  · exact ((((((Below.refl q w4).setCell (p := ⟨q, 2, none⟩) (Nat.le_refl q) _).setCell (p := ⟨q, 3, none⟩) (Nat.le_refl q) _).setCell (p := ⟨q, 4, none⟩) (Nat.le_refl q) _).setCell (p := ⟨q, 5, none⟩) (Nat.le_refl q) _).setCell (p := ⟨q, 6, none⟩) (Nat.le_refl q) _).setCell (p := ⟨q, 7, none⟩) (Nat.le_refl q) _
def okStep (p : K.S66) : Prop := 0 ≤ p.f0 ∧ p.f0 ≤ 4 ∧ 0 ≤ p.f1 ∧ p.f1 < 9223372036854775808
def Ss.init (src : List UInt8) (mode white : Int) : Ss := ⟨startL src, true, mode, white, 0, 0, 0⟩
set_option maxRecDepth 100000 in
set_option maxHeartbeats 3200000 in
theorem script_run (w : World) (a1 a2 a3 : Option Addr) (k1 k2 k3 : Nat) (src : List UInt8) (sz : List Int) (s : Stp) (ps : List K.S66) (h : s.Ok)
    (hs : SrcAt w.heap.size w a1 k1 src) (hsz : SzAt w.heap.size w a2 sz) (hps : Kd.C K.k66 w a3 ps.length ps) (hpl : ps.length ≤ 2147483647) (hpo : ∀ p ∈ ps, okStep p) (hlen : Fits src) (hl10 : src.length ≤ 10000000000) (hv : Vars w.heap.size w) :
    Calls Tryd.prog 34 #[.slice a1 src.length k1, .slice a2 sz.length k2, .agg #[.bool s.d, .int .i64 s.m, .int .u64 s.wh, .bool s.cu, .string s.f1, .string s.f2], .slice a3 ps.length k3] w fun e w' =>
      ∃ v, e = .returned v ∧ Kd.R K.k37 70 w' w.heap.size (fun q => w.heap.size ≤ q) v (Ss.run s.cfg.I src (Ss.init src s.cfg.mode s.cfg.white) ps) ∧ Below w.heap.size w w' := by
  go_enter Tryd.func34, Tryd.ntmps34
  go_wp2_with (fail)
  obtain ⟨W, hW⟩ : ∃ W, (w.alloc (Obj.cells #[.bool s.d, .int .i64 s.m, .int .u64 s.wh, .bool s.cu, .string s.f1, .string s.f2] 25)).alloc (Obj.cells #[Value.int IntKind.i64 0] 3) = W := ⟨_, rfl⟩
  rw [hW]
  obtain ⟨t1, t2, t3⟩ := two_blocks _ _ _ hW
  clear hW
  obtain ⟨n, hn⟩ : ∃ n, w.heap.size = n := ⟨_, rfl⟩
  rw [hn] at hs hsz hv t1 t2 t3 ⊢
  obtain ⟨p, hp⟩ : ∃ p, n + 1 = p := ⟨_, rfl⟩
  rw [hp] at t1 ⊢
  refine (start_spec W n p a1 a2 k1 k2 src sz s.d s.m s.wh s.cu s.f1 s.f2 20 (4 * s.m) (mode_val h.m0 h.m1) t1 (by omega) (hs.of fun k hk => t2.block k hk) (hsz.of fun k hk => t2.block k hk) hlen).mono ?_
  rintro e w3 ⟨E, rfl, hEB, hEp, hEw, hb, hbR, hB3, hS0, hid1, hid2⟩
  have hB : Below n w w3 := t2.trans (hB3.mono (by omega))
  have hE : E.at w3 = E := by rw [← hEw]; rfl
  have hss : InSs (E.at w3) src w3 (Ss.init src s.cfg.mode s.cfg.white) := by
    rw [hE]
    exact ⟨_, .inr ⟨rfl, hS0, rfl, rfl⟩, rfl, rfl, rfl, rfl, rfl⟩
  have hid : IdAt (E.at w3) s.cfg.I := by
    rw [hE]
    have hI : s.cfg.I = if s.d = false ∧ s.cu = true then idCustom s.f1 s.f2 else idGo := rfl
    rw [hI]
    cases hd : s.d with
    | true => exact .inl ⟨hid1 (.inl hd), by simp⟩
    | false =>
      cases hc : s.cu with
      | false => exact .inl ⟨hid1 (.inr hc), by simp⟩
      | true =>
        obtain ⟨g, g1, g2, g3, g4, g5⟩ := hid2 hd hc
        exact .inr ⟨g, _, _, _, _, _, _, g1, by rw [hEw]; exact g2, g3, g4, g5, by simp⟩
  have HB := Lib.hid (And.intro hEB hEp)
  have HT := Lib.hid (And.intro hss (And.intro hid (And.intro (show Vars E.B w3 by rw [hEB]; exact hv.move hB) hB)))
  have HN := Lib.hid (And.intro hn hp)
  have HP := Lib.hid (And.intro hps (And.intro hpo hpl))
  clear hid1 hid2 hS0 hB3 hb hbR hE hEw t1 t2 t3 hs hsz hv hB hEB hEp hn hp hss hid hps hpo
  obtain ⟨I, hI⟩ : ∃ I, s.cfg.I = I := ⟨_, rfl⟩
  rw [hI] at HT
  obtain ⟨s0, hs0⟩ : ∃ z, Ss.init src s.cfg.mode s.cfg.white = z := ⟨_, rfl⟩
  rw [hs0] at HT
  go_wp2_with (fail)
  go_loopg [11, 21] ps.length (fun kk v t wr => ∃ (j : Nat) (z : Ss) (xs : List K.S37), j + kk = ps.length ∧ t = .int .i64 (j : Nat) ∧ InSs (E.at wr) src wr z ∧ IdAt (E.at wr) I ∧ Vars E.B wr ∧ (0 ≤ z.white ∧ z.white < 18446744073709551616) ∧ Kd.R K.k37 70 wr n (fun q => n ≤ q) v xs ∧ Below n w wr ∧
    xs ++ Ss.run I src z (ps.drop j) = Ss.run I src s0 ps ∧ xs.length = j)
  case atStart =>
    refine ⟨0, s0, [], by omega, rfl, HT.out.1, HT.out.2.1, HT.out.2.2.1, ?_, Kd.R_nil _ _ _ _ _, HT.out.2.2.2, by simp, rfl⟩
    rw [← hs0]
    show 0 ≤ s.cfg.white ∧ s.cfg.white < 18446744073709551616
    unfold Stp.cfg
    have h1 := h.w0
    have h2 := h.w1
    simp only
    split <;> omega
  case round =>
    obtain ⟨j, z, xs, hj, rfl, hss, hid, hvs, hwz, hR, hb, hru, hxl⟩ := hrel
    by_cases hlt : j < ps.length
    · obtain ⟨ad, e, y0, y1⟩ := K.at_T66 (Kd.C_below HP.out.1 (show Below w.heap.size w wr by rw [HN.out.1]; exact hb)) (j : Int) (by omega) (by omega)
      obtain ⟨P, hP⟩ : ∃ P, K.rd_T66 ps (j : Int) = P := ⟨_, rfl⟩
      rw [hP] at y0 y1
      have hPm : P ∈ ps := by
        rw [← hP]; unfold K.rd_T66; simp [List.getD_eq_getElem?_getD, List.getElem?_eq_getElem hlt]
      have hdr : ps.drop j = P :: ps.drop (j + 1) := by
        rw [List.drop_eq_getElem_cons hlt]
        congr 1
        rw [← hP]; unfold K.rd_T66; simp [List.getD_eq_getElem?_getD, List.getElem?_eq_getElem hlt]
      have hok := HP.out.2.1 P hPm
      obtain ⟨d, ar⟩ := P
      obtain ⟨hd0, hd4, ha0, ha1⟩ := hok
      have hxs := congrArg List.length hru
      rw [List.length_append, Ss.run_len, Ss.run_len] at hxs
      obtain ⟨g, o, spot⟩ := ad
      have hspot : spot = none := by
        obtain ⟨ad0, e0, z0, -⟩ := K.at_T66 (Kd.C_below HP.out.1 (show Below w.heap.size w wr by rw [HN.out.1]; exact hb)) 0 (by omega) (by omega)
        rw [e] at e0
        injection e0 with e0
        subst e0
        simpa [Addr.add] using World.cell?_spot z0
      subst hspot
      subst e
      simp only [Int.toNat_natCast, Addr.add_lit] at y0 y1
      have hjb : (j : Int) ≤ 2147483647 := by omega
      have HH := Lib.hid (And.intro hj (And.intro hss (And.intro hid (And.intro hvs (And.intro hwz (And.intro hR (And.intro hb (And.intro hru hxl))))))))
      have HD := Lib.hid (And.intro hdr hP)
      clear hj hss hid hvs hwz hR hb hru hxl hdr hP hPm hxs
      simp only at hd0 hd4 ha0 ha1 y0 y1
      go_upto_block 2 with (fail)
      obtain ⟨wb, hwb⟩ : ∃ W, (wr.alloc (Obj.cells #[Value.int IntKind.i64 d, Value.int IntKind.u64 ar] 66)).alloc (Obj.cells #[.int .i64 0, .string ⟨#[]⟩, .int .i64 0, .int .i64 0, .int .i64 0, .int .i64 0, .int .i64 0, .int .i64 0] 70) = W := ⟨_, rfl⟩
      obtain ⟨qq, hqq⟩ : ∃ q, wr.heap.size = q := ⟨_, rfl⟩
      have hb0 : Below wr.heap.size wr wb := by rw [← hwb]; exact ((Below.refl _ wr).alloc (Nat.le_refl _) _).alloc (by rw [World.size_alloc]; omega) _
      have hx6 : wb.heap[qq]? = some (Obj.cells #[Value.int IntKind.i64 d, Value.int IntKind.u64 ar] 66 (0, 0)) := by rw [← hwb, ← hqq, Below.heap_alloc _ _ _ (by rw [World.size_alloc]; omega)]; exact heap_alloc_new _ _
      have hx7 : wb.heap[qq + 1]? = some (Obj.cells #[.int .i64 0, .string ⟨#[]⟩, .int .i64 0, .int .i64 0, .int .i64 0, .int .i64 0, .int .i64 0, .int .i64 0] 70 (0, 0)) := by
        have s1 : (wr.alloc (Obj.cells #[Value.int IntKind.i64 d, Value.int IntKind.u64 ar] 66)).heap.size = qq + 1 := by rw [World.size_alloc, hqq]
        rw [← hwb, ← s1]; exact heap_alloc_new _ _
      rw [hwb]
      have HX := Lib.hid (And.intro hb0 (And.intro hx6 (And.intro hx7 hqq)))
      have hssb : InSs (E.at wb) src wb z := (HH.out.2.1.old hb0).rebase
      have HSB := Lib.hid hssb
      clear hwb hb0 hx6 hx7 hssb y0 y1
      have hvb : Vars E.B wb := HH.out.2.2.2.1.move (HX.out.1.mono (by obtain ⟨r, hr⟩ := HH.out.2.1.raw; exact hr.Bsize))
      have hidb : IdAt (E.at wb) I := HH.out.2.2.1.old HX.out.1
      have HG := Lib.hid (And.intro hvb.glob (hidb.ok hvb.uni))
      have e66 := cell_of_heap (j := 0) HX.out.2.1
      have e67 := cell_of_heap (j := 1) HX.out.2.1
      simp at e66 e67
      clear hvb hidb
      have hS0 : wr.heap.size ≤ qq + 1 := by have := HX.out.2.2.2; omega
      have HS0 := Lib.hid hS0
      clear hS0
      obtain ⟨⟨z1, t1, s1⟩, hZ⟩ : ∃ Z, z.step I src ⟨d, ar⟩ = Z := ⟨_, rfl⟩
      have HZ := Lib.hid hZ
      clear hZ
      rw [HX.out.2.2.2]
      go_cut [] (fun w5 => MidS E I src w n (qq + 1) z ⟨d, ar⟩ u11 xs w5)
      case first =>
        have hdc : d = 0 ∨ d = 1 ∨ d = 2 ∨ d = 3 ∨ d = 4 := by omega
        rcases hdc with rfl | rfl | rfl | rfl | rfl
        · have H45 := Lib.hid (ss_scan (E.at wb) I src wb z HSB.out HH.out.2.2.2.2.1 HG.out.1 HG.out.2 hlen ⟨0, ar⟩ rfl)
          have hrg := HSB.out.rngG ⟨z.mode, z.white, I⟩
          have hst1 : (z.step I src ⟨0, ar⟩).2.1 = (scanGo ⟨z.mode, z.white, I⟩ src z.l).tok := by unfold Ss.step; rw [if_pos rfl]
          rw [← hst1] at hrg
          have HTX := Lib.hid (fun w1 h => ss_text (E.at wb) I src w1 z ⟨0, ar⟩ rfl h hlen)
          rw [HZ.out] at H45 hrg HTX
          simp only at H45 hrg HTX
          clear hst1
          go_wp2_with (first
            | (go_at_call 45; refine (H45.out).mono ?_; rintro e w1 ⟨rfl, h'⟩; have S := Lib.hid h'; clear h')
            | (go_at_call 44; refine (kind_spec _ _ hrg).mono ?_; rintro e w2 ⟨rfl, hb2⟩; have S2 := Lib.hid (S.out.old hb2); clear hb2)
            | (go_at_call 46; refine (HTX.out _ S2.out).mono ?_; rintro e w4 ⟨rfl, h4⟩; have S4 := Lib.hid h4; obtain ⟨r0, hr0⟩ := HSB.out.raw; have q4 := Fr.rowT hr0 h4.frame 70 (.inl rfl) _ _ HX.out.2.2.1; have d0 := cell_of_heap (j := 0) q4; have d1 := cell_of_heap (j := 1) q4; have f0 := frozen_of_heap q4; simp at d0 d1; have HQ4 := Lib.hid q4; clear h4 hr0 q4))
          go_meet
          have m0 := Go.Lib.heap_setCell_same (i := 0) HQ4.out (.int .i64 t1)
          have m1 := Go.Lib.heap_setCell_same (i := 1) m0 (.string s1)
          refine mid_of (wr := wr) (wb := wb) (w4 := w4) HB.out.1 HH.out.2.2.1 HH.out.2.2.2.1 HH.out.2.2.2.2.2.1 HH.out.2.2.2.2.2.2.1 HN.out.1 HSB.out HX.out.1 HS0.out (by rw [HZ.out]; exact S4.out) ?_ (fun k hk => ?_) ⟨_, HQ4.out⟩ (by rw [HZ.out]; exact m1)
          · exact (((Below.refl _ w4).setCell (p := ⟨qq + 1, 0, none⟩) (Nat.le_refl _) _).setCell (p := ⟨qq + 1, 1, none⟩) (Nat.le_refl _) _)
          · rw [Below.heap_setCell _ _ _ _ (by exact hk), Below.heap_setCell _ _ _ _ (by exact hk)]
        · have H55 := Lib.hid (ss_next (E.at wb) I src wb z HSB.out HG.out.1 hlen ⟨1, ar⟩ rfl)
          have hrg := HSB.out.rng
          have hst1 : (z.step I src ⟨1, ar⟩).2.1 = chOf z.l ∧ (z.step I src ⟨1, ar⟩).2.2 = ⟨#[]⟩ := by unfold Ss.step; rw [if_neg (by simp), if_pos rfl]; exact ⟨rfl, rfl⟩
          rw [← hst1.1] at hrg
          rw [HZ.out] at H55 hrg hst1
          simp only at H55 hrg hst1
          obtain ⟨-, rfl⟩ := hst1
          go_wp2_with (first
            | (go_at_call 55; refine (H55.out).mono ?_; rintro e w1 ⟨rfl, h'⟩; have S := Lib.hid h'; clear h')
            | (go_at_call 44; refine (kind_spec _ _ hrg).mono ?_; rintro e w4 ⟨rfl, hb2⟩; have h4 := S.out.old hb2; have S4 := Lib.hid h4; obtain ⟨r0, hr0⟩ := HSB.out.raw; have q4 := Fr.rowT hr0 h4.frame 70 (.inl rfl) _ _ HX.out.2.2.1; have d0 := cell_of_heap (j := 0) q4; have d1 := cell_of_heap (j := 1) q4; have f0 := frozen_of_heap q4; simp at d0 d1; have HQ4 := Lib.hid q4; clear h4 hr0 q4; clear hb2))
          go_meet
          have m0 := Go.Lib.heap_setCell_same (i := 0) HQ4.out (.int .i64 t1)
          refine mid_of (wr := wr) (wb := wb) (w4 := w4) HB.out.1 HH.out.2.2.1 HH.out.2.2.2.1 HH.out.2.2.2.2.2.1 HH.out.2.2.2.2.2.2.1 HN.out.1 HSB.out HX.out.1 HS0.out (by rw [HZ.out]; exact S4.out) ?_ (fun k hk => ?_) ⟨_, HQ4.out⟩ (by rw [HZ.out]; exact m0)
          · exact ((Below.refl _ w4).setCell (p := ⟨qq + 1, 0, none⟩) (Nat.le_refl _) _)
          · rw [Below.heap_setCell _ _ _ _ (by exact hk)]
        · have H55 := Lib.hid (ss_peek (E.at wb) I src wb z HSB.out HG.out.1 hlen ⟨2, ar⟩ rfl)
          have hrg := HSB.out.rng
          have hst1 : (z.step I src ⟨2, ar⟩).2.1 = chOf z.l ∧ (z.step I src ⟨2, ar⟩).2.2 = ⟨#[]⟩ := by unfold Ss.step; rw [if_neg (by simp), if_neg (by simp), if_pos rfl]; exact ⟨rfl, rfl⟩
          rw [← hst1.1] at hrg
          rw [HZ.out] at H55 hrg hst1
          simp only at H55 hrg hst1
          obtain ⟨-, rfl⟩ := hst1
          go_wp2_with (first
            | (go_at_call 56; refine (H55.out).mono ?_; rintro e w1 ⟨rfl, h'⟩; have S := Lib.hid h'; clear h')
            | (go_at_call 44; refine (kind_spec _ _ hrg).mono ?_; rintro e w4 ⟨rfl, hb2⟩; have h4 := S.out.old hb2; have S4 := Lib.hid h4; obtain ⟨r0, hr0⟩ := HSB.out.raw; have q4 := Fr.rowT hr0 h4.frame 70 (.inl rfl) _ _ HX.out.2.2.1; have d0 := cell_of_heap (j := 0) q4; have d1 := cell_of_heap (j := 1) q4; have f0 := frozen_of_heap q4; simp at d0 d1; have HQ4 := Lib.hid q4; clear h4 hr0 q4; clear hb2))
          go_meet
          have m0 := Go.Lib.heap_setCell_same (i := 0) HQ4.out (.int .i64 t1)
          refine mid_of (wr := wr) (wb := wb) (w4 := w4) HB.out.1 HH.out.2.2.1 HH.out.2.2.2.1 HH.out.2.2.2.2.2.1 HH.out.2.2.2.2.2.2.1 HN.out.1 HSB.out HX.out.1 HS0.out (by rw [HZ.out]; exact S4.out) ?_ (fun k hk => ?_) ⟨_, HQ4.out⟩ (by rw [HZ.out]; exact m0)
          · exact ((Below.refl _ w4).setCell (p := ⟨qq + 1, 0, none⟩) (Nat.le_refl _) _)
          · rw [Below.heap_setCell _ _ _ _ (by exact hk)]
        · have hst1 : z.step I src ⟨3, ar⟩ = (⟨z.l, z.fr, 4 * (ar % 256), z.white, z.offs, z.ln, z.co⟩, 0, ⟨#[]⟩) := by unfold Ss.step; rw [if_neg (by simp), if_neg (by simp), if_neg (by simp), if_pos rfl]
          have hz3 := HZ.out
          rw [hst1] at hz3
          simp only [Prod.mk.injEq] at hz3
          obtain ⟨hz1, rfl, rfl⟩ := hz3
          have HZ1 := Lib.hid hz1
          have HM := Lib.hid (mode_any ha0 ha1)
          clear hz1 hst1
          go_wp2_with (first
            | (go_at_call 54; refine (K.impl_mode.calls 20 ar (4 * (ar % 256)) _ HM.out).mono ?_; rintro e w8 ⟨rfl, hb8⟩; have S8 := Lib.hid (HSB.out.old hb8); have hq8 := (hb8.block _ (lt_of_heap HX.out.2.2.1)).trans HX.out.2.2.1; have Q8 := Lib.hid hq8; obtain ⟨r0, hr0⟩ := S8.out.raw; have cm : w8.cell? ⟨E.b, 1041, none⟩ = some (.int .u64 r0.mode) := hr0.c_mode; have cf : ∀ j, w8.frozen? ⟨E.b, j, none⟩ = false := hr0.frozen; have CF := Lib.hid (show qq + 1 ≠ E.b from fun e => by obtain ⟨cs', hb'⟩ := hr0.tagb; rw [show (E.at wb).b = E.b from rfl, ← e, hq8] at hb'; injection hb' with hb'; injection hb' with _ hb' _; exact absurd hb' (by decide)); clear hr0 hq8 hb8))
          go_meet
          have h5 := S8.out.set_mode (4 * (ar % 256))
          have hq5 : (w8.setCell ⟨E.b, 1041, none⟩ (.int .u64 (4 * (ar % 256)))).heap[qq + 1]? = _ := (Below.heap_setCell _ _ _ _ (by exact CF.out)).trans Q8.out
          refine mid_of (wr := wr) (wb := wb) (w4 := w8.setCell ⟨E.b, 1041, none⟩ (.int .u64 (4 * (ar % 256)))) HB.out.1 HH.out.2.2.1 HH.out.2.2.2.1 HH.out.2.2.2.2.2.1 HH.out.2.2.2.2.2.2.1 HN.out.1 HSB.out HX.out.1 HS0.out (by rw [HZ.out, ← HZ1.out]; exact h5) (Below.refl _ _) (fun k hk => rfl) ⟨_, hq5⟩ (by rw [HZ.out]; exact hq5)
        · have hst1 : z.step I src ⟨4, ar⟩ = (⟨z.l, z.fr, z.mode, ar, z.offs, z.ln, z.co⟩, 0, ⟨#[]⟩) := by unfold Ss.step; rw [if_neg (by simp), if_neg (by simp), if_neg (by simp), if_neg (by simp)]
          have hz3 := HZ.out
          rw [hst1] at hz3
          simp only [Prod.mk.injEq] at hz3
          obtain ⟨hz1, rfl, rfl⟩ := hz3
          have HZ1 := Lib.hid hz1
          clear hz1 hst1
          obtain ⟨r0, hr0⟩ := HSB.out.raw
          have cm : wb.cell? ⟨E.b, 1042, none⟩ = some (.int .u64 r0.white) := hr0.c_white
          have cf : ∀ j, wb.frozen? ⟨E.b, j, none⟩ = false := hr0.frozen
          have CF := Lib.hid (show qq + 1 ≠ E.b from fun e => by obtain ⟨cs', hb'⟩ := hr0.tagb; rw [show (E.at wb).b = E.b from rfl, ← e, HX.out.2.2.1] at hb'; injection hb' with hb'; injection hb' with _ hb' _; exact absurd hb' (by decide))
          clear hr0
          go_wp2_with (fail)
          go_meet
          have h5 := HSB.out.set_white ar
          have hq5 : (wb.setCell ⟨E.b, 1042, none⟩ (.int .u64 ar)).heap[qq + 1]? = _ := (Below.heap_setCell _ _ _ _ (by exact CF.out)).trans HX.out.2.2.1
          refine mid_of (wr := wr) (wb := wb) (w4 := wb.setCell ⟨E.b, 1042, none⟩ (.int .u64 ar)) HB.out.1 HH.out.2.2.1 HH.out.2.2.2.1 HH.out.2.2.2.2.2.1 HH.out.2.2.2.2.2.2.1 HN.out.1 HSB.out HX.out.1 HS0.out (by rw [HZ.out, ← HZ1.out]; exact h5) (Below.refl _ _) (fun k hk => rfl) ⟨_, hq5⟩ (by rw [HZ.out]; exact hq5)
      case rest =>
        obtain ⟨hI5, hid5, hv5, hR5, hb5, hq5⟩ := hcut
        rw [HZ.out] at hI5 hq5
        simp only at hI5 hq5
        obtain ⟨p1, p2, p3, p4⟩ := hI5.place
        have c1 : wc.cell? ⟨E.b, 1044, none⟩ = some (.string ⟨#[]⟩) := p1
        have c2 : wc.cell? ⟨E.b, 1045, none⟩ = some (.int .i64 z1.offs) := p2
        have c3 : wc.cell? ⟨E.b, 1046, none⟩ = some (.int .i64 z1.ln) := p3
        have c4 : wc.cell? ⟨E.b, 1047, none⟩ = some (.int .i64 z1.co) := p4
        clear p1 p2 p3 p4
        obtain ⟨pO, hpO⟩ : ∃ x, (z1.pos src).f0 = x := ⟨_, rfl⟩
        obtain ⟨pL, hpL⟩ : ∃ x, (z1.pos src).f1 = x := ⟨_, rfl⟩
        obtain ⟨pC, hpC⟩ : ∃ x, (z1.pos src).f2 = x := ⟨_, rfl⟩
        have HPos := Lib.hid (fun (w1 : World) (h : InSs (E.at wc) src w1 z1) => show Calls Tryd.prog 48 #[.pointer (some ⟨E.b, 0, none⟩)] w1 fun e w' => e = .returned (.agg #[.string ⟨#[]⟩, .int .i64 pO, .int .i64 pL, .int .i64 pC]) ∧ Below w1.heap.size w1 w' from by
          obtain ⟨r, o', a', b', hr, hp, he⟩ := h.pos hlen
          rw [he] at hpO hpL hpC
          have := pos_raw (E.at wc) w1 r o' a' b' hr hp
          rw [← hpO, ← hpL, ← hpC]
          exact this)
        have HC := Lib.hid (And.intro hI5 (And.intro hid5 (And.intro hv5 (And.intro hR5 (And.intro hb5 hq5)))))
        have HPP := Lib.hid (And.intro hpO (And.intro hpL hpC))
        clear hI5 hid5 hv5 hR5 hb5 hq5 hpO hpL hpC HSB HG e66 e67
        go_upto_region 20 with (first
          | (have T1 := c1; go_at_call 47; refine (place_spec _ _ _ _ _).mono ?_; rintro e w1 ⟨rfl, hb1⟩; have B1 := Lib.hid hb1; clear hb1 T1 c1 c2 c3 c4)
          | (go_at_call 48; refine (HPos.out _ (HC.out.1.old B1.out)).mono ?_; rintro e w2 ⟨rfl, hb2⟩; have B2 := Lib.hid (B1.out.trans (hb2.mono B1.out.size)); clear hb2)
          | (go_at_call 47; refine (place_spec _ _ _ _ _).mono ?_; rintro e w3' ⟨rfl, hb3⟩; have B3 := Lib.hid (B2.out.trans (hb3.mono B2.out.size)); clear hb3; have q4 := (B3.out.block _ (lt_of_heap HC.out.2.2.2.2.2)).trans HC.out.2.2.2.2.2; have d2 := cell_of_heap (j := 2) q4; have d3 := cell_of_heap (j := 3) q4; have d4 := cell_of_heap (j := 4) q4; have d5 := cell_of_heap (j := 5) q4; have d6 := cell_of_heap (j := 6) q4; have d7 := cell_of_heap (j := 7) q4; have f0 := frozen_of_heap q4; unfold tcells at d2 d3 d4 d5 d6 d7; simp at d2 d3 d4 d5 d6 d7; have Q4 := Lib.hid q4; clear q4))
        obtain ⟨w5, hw5⟩ : ∃ W, ((((((w3'.setCell ⟨qq + 1, 2, none⟩ (Value.int .i64 z1.offs)).setCell ⟨qq + 1, 3, none⟩ (Value.int .i64 z1.ln)).setCell ⟨qq + 1, 4, none⟩ (Value.int .i64 z1.co)).setCell ⟨qq + 1, 5, none⟩ (Value.int .i64 pO)).setCell ⟨qq + 1, 6, none⟩ (Value.int .i64 pL)).setCell ⟨qq + 1, 7, none⟩ (Value.int .i64 pC)) = W := ⟨_, rfl⟩
        rw [hw5]
        obtain ⟨q5, o5, b5, s5⟩ := saw_stores Q4.out _ _ _ _ _ _ hw5
        clear hw5 d2 d3 d4 d5 d6 d7 f0
        have hnq : n ≤ qq := by have h1 := HH.out.2.2.2.2.2.2.1.size; have h2 := HN.out.1; have h3 := HX.out.2.2.2; omega
        have hown : ∀ g, u11.ownBlock = some g → g < qq := fun g hg => by have := (R70_block HH.out.2.2.2.2.2.1 hg).1; have := HX.out.2.2.2; omega
        have hcw : qq + 1 < wc.heap.size := lt_of_heap HC.out.2.2.2.2.2
        have hR5 : Kd.R K.k37 70 w5 n (fun q => n ≤ q) u11 xs := R70_keep (Kd.R_below HC.out.2.2.2.1 B3.out) fun g cs hg h => (o5 g (by have := hown g hg; omega)).trans h
        have hB5 : Below n w w5 := (HC.out.2.2.2.2.1.trans (B3.out.mono (by omega))).trans (b5.mono (by omega))
        have c0 := cell_of_heap (j := 0) q5
        have c1 := cell_of_heap (j := 1) q5
        have c2 := cell_of_heap (j := 2) q5
        have c3 := cell_of_heap (j := 3) q5
        have c4 := cell_of_heap (j := 4) q5
        have c5 := cell_of_heap (j := 5) q5
        have c6 := cell_of_heap (j := 6) q5
        have c7 := cell_of_heap (j := 7) q5
        simp at c0 c1 c2 c3 c4 c5 c6 c7
        have H5 := Lib.hid (And.intro q5 (And.intro o5 (And.intro s5 (And.intro hR5 (And.intro hB5 (And.intro hown (And.intro hnq hcw)))))))
        clear q5 o5 b5 s5 hR5 hB5 hown hnq hcw
        go_upto_region 21 with (first | ((with_reducible refine gate_builtin (b := .append) (xs := #[.tmp 75, .tmp 77]) rfl ?_); at_builtin; refine Kd.R_append K.k37 (w0 := w) n rfl (.tmp 75) (.tmp 77) 67 70 (.agg #[.int .i64 0, .string ⟨#[]⟩, .int .i64 0, .int .i64 0, .int .i64 0, .int .i64 0, .int .i64 0, .int .i64 0]) 72 rfl Tryd.underlying67 K.info70 rfl (by decide) (by omega) u11 xs ⟨t1, s1, ⟨z1.offs, z1.ln, z1.co⟩, ⟨pO, pL, pC⟩⟩ [.int .i64 t1, .string s1, .int .i64 z1.offs, .int .i64 z1.ln, .int .i64 z1.co, .int .i64 pO, .int .i64 pL, .int .i64 pC] (fun k_ => (n ≤ k_)) (fun _ => False) rfl rfl ?aP (fun _ hk => hk.elim) ?aF ?aO ?aB ?aS ?aL ?_; (case aP => exact K.k37_mkM _ _ _ (⟨t1, s1, ⟨z1.offs, z1.ln, z1.co⟩, ⟨pO, pL, pC⟩⟩ : K.S37)); (case aF => intro k_ hk; have := H5.out.2.2.2.2.1.size; have := HN.out.1; omega); (case aO => exact H5.out.2.2.2.1); (case aB => exact H5.out.2.2.2.2.1); (case aS => have := H5.out.2.2.2.2.1.size; have := HN.out.1; omega); (case aL => have h1 := HH.out.2.2.2.2.2.2.2.2; omega); intro v1 w6 ho hb hg hat; have HAP := Lib.hid (And.intro ho (And.intro hb hg)); clear ho hb hg hat))
        clear c0 c1 c2 c3 c4 c5 c6 c7
        go_wp2_with (fail)
        obtain ⟨hj, hss, hid, hvs, hwz, hR, hb, hru, hxl⟩ := HH.out
        obtain ⟨ho6, hb6, hg6⟩ := HAP.out
        have hb3 : Below n w w3' := HC.out.2.2.2.2.1.trans (B3.out.mono (by have := H5.out.2.2.2.2.2.2.2; have := H5.out.2.2.2.2.2.2.1; omega))
        have hk6 : ∀ (k : Nat) (cs : Array Value) (t : TypeId) (fr : Nat × Nat), t ≠ 70 → w3'.heap[k]? = some (Obj.cells cs t fr) → w6.heap[k]? = some (Obj.cells cs t fr) := fun k cs t fr ht h => by
          have hkq : k ≠ qq + 1 := fun e => by rw [e, Q4.out] at h; injection h with h; injection h with _ h _; exact ht h.symm
          have h5 := (H5.out.2.1 k hkq).trans h
          exact after_append h5 hg6 (fun e => by
            obtain ⟨_, cs', hc⟩ := R70_block H5.out.2.2.2.1 e
            rw [hc] at h5; injection h5 with h5; injection h5 with _ h5 _; exact ht h5.symm)
        have hss6 : InSs (E.at w6) src w6 z1 := InSs.moved70 (E := E.at wc) (HC.out.1.old B3.out) (fun k hk => by
          have hk' : k < n := by rw [← HB.out.1]; exact hk
          exact (hb6.block k hk').trans (hb3.block k hk').symm) hk6
        have hbc : Below n wc w6 := ⟨hb6.os.trans HC.out.2.2.2.2.1.os.symm, hb6.tape.trans HC.out.2.2.2.2.1.tape.symm, hb6.output.trans HC.out.2.2.2.2.1.output.symm, (by have h1 := B3.out.size; have h2 := H5.out.2.2.1; have h3 := hg6.size; omega), fun k hk => (hb6.block k hk).trans (HC.out.2.2.2.2.1.block k hk).symm⟩
        have hid6 : IdAt (E.at w6) I := by
          rcases HC.out.2.1 with h | ⟨g', d', m', wh', cu', f1', f2', h1, h2, h3, h4, h5, h6⟩
          · exact .inl h
          · exact .inr ⟨g', d', m', wh', cu', f1', f2', h1, hk6 g' _ 25 _ (by decide) ((B3.out.block g' (lt_of_heap h2)).trans h2), h3, h4, h5, h6⟩
        have hsaw : z.saw I src ⟨d, ar⟩ = (⟨t1, s1, ⟨z1.offs, z1.ln, z1.co⟩, ⟨pO, pL, pC⟩⟩ : K.S37) := by
          unfold Ss.saw
          rw [HZ.out, ← HPP.out.1, ← HPP.out.2.1, ← HPP.out.2.2]
        have hwz6 := Ss.step_white (I := I) (src := src) (d := d) hwz ha0 ha1
        rw [HZ.out] at hwz6
        rw [HD.out.1] at hru
        simp only [Ss.run] at hru
        rw [hsaw, HZ.out] at hru
        go_roundg (ps.length - (j + 1))
        case measure => omega
        case rel => exact ⟨j + 1, z1, xs ++ [⟨t1, s1, ⟨z1.offs, z1.ln, z1.co⟩, ⟨pO, pL, pC⟩⟩], by omega, by go_num, hss6, hid6, HC.out.2.2.1.move (by rw [HB.out.1]; exact hbc), hwz6, ho6, hb6, by rw [← hru]; simp, by rw [List.length_append]; simp [hxl]⟩
    · have hje : ps.drop j = [] := List.drop_eq_nil_of_le (by omega)
      rw [hje] at hru
      simp only [Ss.run, List.append_nil] at hru
      have HE := Lib.hid (And.intro hru (And.intro hR hb))
      clear hru hR hb hss hid hvs
      go_wp2_with (fail)
      refine bodyPost_ret (v := u11) (by simp [results, Tryd.results34, go_sem]) rfl ?_
      refine ⟨u11, rfl, ?_, ?_⟩
      · rw [HN.out.1, hI, hs0, ← HE.out.1]; exact HE.out.2.1
      · rw [HN.out.1]; exact HE.out.2.2
end Go.Proofs.YtmfihkgbfoapaaaDoor
