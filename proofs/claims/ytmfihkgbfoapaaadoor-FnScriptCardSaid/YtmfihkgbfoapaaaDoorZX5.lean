/- Own texts X5 of this claim, cut to what the claim uses. -/
import Derived.Test.YtmfihkgbfoapaaaDoorZX2
namespace Go.Proofs.YtmfihkgbfoapaaaDoor
set_option linter.unusedVariables false
set_option linter.unusedSimpArgs false
open Go Go.RowKit Go.Lib Go.BigFrame Go.Proofs.YtmfihkgbfoapaaaDoorW.PrintWords
theorem has_bo (c : Int) : hasRune ⟨#[98, 66, 111, 79]⟩ 0 c = (c == 98 || c == 66 || c == 111 || c == 79) := by
  have h : runesFrom ⟨#[98, 66, 111, 79]⟩ 0 = [98, 66, 111, 79] := by kernel_rfl
  unfold hasRune
  rw [h]
  simp [Bool.or_assoc, BEq.comm]
theorem has_o (c : Int) : hasRune ⟨#[111, 79]⟩ 0 c = (c == 111 || c == 79) := by
  have h : runesFrom ⟨#[111, 79]⟩ 0 = [111, 79] := by kernel_rfl
  unfold hasRune
  rw [h]
  simp [Bool.or_assoc, BEq.comm]
theorem has_x (c : Int) : hasRune ⟨#[120, 88]⟩ 0 c = (c == 120 || c == 88) := by
  have h : runesFrom ⟨#[120, 88]⟩ 0 = [120, 88] := by kernel_rfl
  unfold hasRune
  rw [h]
  simp [Bool.or_assoc, BEq.comm]
structure RowAt (w : World) (g o c : Nat) (t : List Item) : Prop where
  row : ∀ (j : Nat), j < t.length → w.cell? ⟨g, o + j, none⟩ = some (.int .i32 (chOf (t.drop j)))
  cap : t.length ≤ c
  small : t.length ≤ 10000000000
  rng : Rng t
  ne : t ≠ []
theorem hasQ (w : World) (s : ByteArray) (r : Int) (b : Bool) (hs : s.size ≤ 70368744177664) (h : hasRune s 0 r = b) :
    Calls Tryd.prog 84 #[.string s, .int .i32 r] w fun e w' => e = .returned (.bool b) ∧ Below w.heap.size w w' := by
  rw [← h]; exact has84 w s r hs
def isBO (t : List Item) : Bool := chOf t == 48 && (chOf t.tail == 98 || chOf t.tail == 66 || chOf t.tail == 111 || chOf t.tail == 79)
def isX (t : List Item) : Bool := chOf t == 48 && (chOf t.tail == 120 || chOf t.tail == 88)
theorem numSpec_of (t : List Item) : numSpec t = if isBO t = true then sbin (if (chOf t.tail == 111 || chOf t.tail == 79) = true then 8 else 2) t else if isX t = true then shex t else sdec t := by
  unfold numSpec isBO isX
  by_cases h : chOf t = 48
  · by_cases h1 : chOf t.tail = 98
    · simp [h, h1]
    · by_cases h2 : chOf t.tail = 66
      · simp [h, h2]
      · by_cases h3 : chOf t.tail = 111
        · simp [h, h3]
        · by_cases h4 : chOf t.tail = 79
          · simp [h, h4]
          · simp [h, h1, h2, h3, h4]
  · simp [h]
theorem Nm.below {e : NmE} (ok : NmOk e) {w : World} {l : List Item} (h : Nm e w l) {w1 : World} (hb : Below w.heap.size w w1) : Nm e w1 l :=
  ⟨(hb.block _ (lt_of_heap h.bT)).trans h.bT, (hb.block _ (lt_of_heap h.bA)).trans h.bA, (hb.block _ (lt_of_heap h.bP)).trans h.bP, (hb.block _ (lt_of_heap h.bD)).trans h.bD, h.base.trans (hb.mono h.base.size), h.suf⟩
theorem two_items {l : List Item} {a : Int} (h0 : chOf l = a) (ha : a ≠ -1) (h1 : chOf l.tail ≠ -1) : ∃ c d l2, l = c :: d :: l2 := by
  cases l with
  | nil => exact absurd h0.symm ha
  | cons c l =>
    cases l with
    | nil => exact absurd rfl h1
    | cons d l2 => exact ⟨c, d, l2, rfl⟩
def hexFin (l2 : List Item) (n2 : Nat) (pt : Bool) : Int :=
  match sexp 112 80 l2 with
  | none => 0
  | some (l3, had) => if n2 = 0 ∨ (pt = true ∧ had = false) then 0 else if had = true then send (-4) l3 else send (-3) l3
theorem shex_fin {t l l2 : List Item} {n n2 : Nat} {pt : Bool} (h : sdig 16 t.tail.tail true = some (l, n)) (h2 : sfrac 16 l n = some (l2, n2, pt)) : shex t = hexFin l2 n2 pt := by
  unfold shex hexFin; rw [h]; simp only; rw [h2]; rfl
theorem shex_none {t : List Item} (h : sdig 16 t.tail.tail true = none) : shex t = 0 := by
  unfold shex; rw [h]
theorem shex_none2 {t l : List Item} {n : Nat} (h : sdig 16 t.tail.tail true = some (l, n)) (h2 : sfrac 16 l n = none) : shex t = 0 := by
  unfold shex; rw [h]; simp only; rw [h2]
theorem hexFin_none {l2 : List Item} {n2 : Nat} {pt : Bool} (h : sexp 112 80 l2 = none) : hexFin l2 n2 pt = 0 := by unfold hexFin; rw [h]
theorem hexFin_some {l2 l3 : List Item} {n2 : Nat} {pt had : Bool} (h : sexp 112 80 l2 = some (l3, had)) : hexFin l2 n2 pt = if n2 = 0 ∨ (pt = true ∧ had = false) then 0 else if had = true then send (-4) l3 else send (-3) l3 := by unfold hexFin; rw [h]
def decFin (t l l2 : List Item) (n2 : Nat) (pt : Bool) : Int :=
  match sexp 101 69 l2 with
  | none => 0
  | some (l3, had) => if n2 = 0 then 0 else if pt = true ∨ had = true then send (-4) l3
    else if 1 < (t.take (t.length - l.length)).length ∧ chOf t = 48 ∧ (t.take (t.length - l.length)).any is89 = true then 0 else send (-3) l3
theorem sdec_fin {t l l2 : List Item} {n n2 : Nat} {pt : Bool} (h : sdig 10 t false = some (l, n)) (h2 : sfrac 10 l n = some (l2, n2, pt)) : sdec t = decFin t l l2 n2 pt := by
  unfold sdec decFin; rw [h]; simp only; rw [h2]; rfl
theorem sdec_none {t : List Item} (h : sdig 10 t false = none) : sdec t = 0 := by unfold sdec; rw [h]
theorem sdec_none2 {t l : List Item} {n : Nat} (h : sdig 10 t false = some (l, n)) (h2 : sfrac 10 l n = none) : sdec t = 0 := by
  unfold sdec; rw [h]; simp only; rw [h2]
theorem decFin_none {t l l2 : List Item} {n2 : Nat} {pt : Bool} (h : sexp 101 69 l2 = none) : decFin t l l2 n2 pt = 0 := by unfold decFin; rw [h]
theorem decFin_some {t l l2 l3 : List Item} {n2 : Nat} {pt had : Bool} (h : sexp 101 69 l2 = some (l3, had)) : decFin t l l2 n2 pt = if n2 = 0 then 0 else if pt = true ∨ had = true then send (-4) l3
    else if 1 < (t.take (t.length - l.length)).length ∧ chOf t = 48 ∧ (t.take (t.length - l.length)).any is89 = true then 0 else send (-3) l3 := by unfold decFin; rw [h]
theorem sfrac_no {b : Int} {l : List Item} {n : Nat} (h : chOf l ≠ 46) : sfrac b l n = some (l, n, false) := by unfold sfrac; rw [if_neg h]
theorem sfrac_yes {b : Int} {c : Item} {l1 l2 : List Item} {n m : Nat} (h : chOf (c :: l1) = 46) (hs : sdig b l1 false = some (l2, m)) : sfrac b (c :: l1) n = some (l2, n + m, true) := by
  unfold sfrac; rw [if_pos h, List.tail_cons, hs]
theorem sfrac_bad {b : Int} {c : Item} {l1 : List Item} {n : Nat} (h : chOf (c :: l1) = 46) (hs : sdig b l1 false = none) : sfrac b (c :: l1) n = none := by
  unfold sfrac; rw [if_pos h, List.tail_cons, hs]
theorem sdig_cnt {b : Int} : ∀ (l : List Item) (p : Bool) (l' : List Item) (n : Nat), sdig b l p = some (l', n) → n ≤ l.length
  | [], p, l', n, h => by simp only [sdig, Option.some.injEq, Prod.mk.injEq] at h; omega
  | c :: l, p, l', n, h => by
    unfold sdig at h
    split at h
    · split at h
      · have := sdig_cnt l true l' n h; simp only [List.length_cons]; omega
      · cases h
    · split at h
      · cases hs : sdig b l true with
        | none => rw [hs] at h; cases h
        | some x =>
          rw [hs] at h
          obtain ⟨y, m⟩ := x
          simp only [Option.map_some, Option.some.injEq, Prod.mk.injEq] at h
          have := sdig_cnt l true y m hs
          simp only [List.length_cons]; omega
      · simp only [Option.some.injEq, Prod.mk.injEq] at h; omega
structure NmP (e : NmE) (q p1 p2 p3 : Nat) : Prop where
  hq : e.b = q
  h1 : q + 1 = p1
  h2 : q + 1 + 1 = p2
  h3 : q + 1 + 1 + 1 = p3
theorem npeekP {e : NmE} {q p1 p2 p3 : Nat} (P : NmP e q p1 p2 p3) (ok : NmOk e) {w : World} {l : List Item} (h : Nm e w l) :
    Calls Tryd.prog 102 #[.pointer (some ⟨p1, 0, none⟩), .pointer (some ⟨q, 0, none⟩)] w fun en w' => en = .returned (.int .i32 (chOf l)) ∧ w' = w := by
  obtain ⟨rfl, rfl, rfl, rfl⟩ := P; exact npeek e ok w l h
theorem ndigitsP {e : NmE} {q p1 p2 p3 : Nat} (P : NmP e q p1 p2 p3) (ok : NmOk e) {w : World} {l : List Item} (h : Nm e w l) (b : Int) (hb : 2 ≤ b ∧ b ≤ 16) (p : Bool) :
    Calls Tryd.prog 103 #[.int .i64 b, .bool p, .pointer (some ⟨p2, 0, none⟩), .pointer (some ⟨p1, 0, none⟩)] w (DigPost e w (sdig b l p)) := by
  obtain ⟨rfl, rfl, rfl, rfl⟩ := P; exact ndigits e ok b hb p w l h
theorem nexpP {e : NmE} {q p1 p2 p3 : Nat} (P : NmP e q p1 p2 p3) (ok : NmOk e) {w : World} {l : List Item} (h : Nm e w l) (s g : Int) (hs : 0 < s) (hg : 0 < g) :
    Calls Tryd.prog 105 #[.int .i32 s, .int .i32 g, .pointer (some ⟨p2, 0, none⟩), .pointer (some ⟨p1, 0, none⟩), .pointer (some ⟨p3, 0, none⟩)] w (ExpPost e w (sexp s g l)) := by
  obtain ⟨rfl, rfl, rfl, rfl⟩ := P; exact nexp e ok s g hs hg w l h
theorem nendP {e : NmE} {q p1 p2 p3 : Nat} (P : NmP e q p1 p2 p3) (ok : NmOk e) {w : World} {l : List Item} (h : Nm e w l) (k : Int) :
    Calls Tryd.prog 106 #[.int .i64 k, .pointer (some ⟨p1, 0, none⟩), .pointer (some ⟨q, 0, none⟩)] w fun en w' => en = .returned (.int .i64 (send k l)) ∧ w' = w := by
  obtain ⟨rfl, rfl, rfl, rfl⟩ := P; exact nend e ok k w l h
theorem Nm.cellsP {e : NmE} {q p1 p2 p3 i : Nat} (P : NmP e q p1 p2 p3) {w : World} {l : List Item} (hi : e.n - l.length = i) (h : Nm e w l) :
    w.cell? ⟨q, 0, none⟩ = some (.slice (some ⟨e.g, e.o, none⟩) e.n e.c) ∧ w.cell? ⟨p1, 0, none⟩ = some (.int .i64 (i : Int)) ∧
    w.cell? ⟨p2, 0, none⟩ = some (.func (.func 102) #[] #[.pointer (some ⟨p1, 0, none⟩), .pointer (some ⟨q, 0, none⟩)]) ∧ w.frozen? ⟨p1, 0, none⟩ = false ∧
    w.cell? ⟨p3, 0, none⟩ = some (.func (.func 103) #[] #[.pointer (some ⟨p2, 0, none⟩), .pointer (some ⟨p1, 0, none⟩)]) := by
  obtain ⟨rfl, rfl, rfl, rfl⟩ := P; subst hi; exact h.cells
theorem Nm.stepP {e : NmE} {q p1 p2 p3 i : Nat} (P : NmP e q p1 p2 p3) (ok : NmOk e) {w : World} {c : Item} {l : List Item} (hi : e.n - (c :: l).length = i) (h : Nm e w (c :: l)) :
    Nm e (w.setCell ⟨p1, 0, none⟩ (.int .i64 ((i : Int) + 1))) l ∧ Mv (e.b + 1) w (w.setCell ⟨p1, 0, none⟩ (.int .i64 ((i : Int) + 1))) ∧ e.n - l.length = i + 1 := by
  obtain ⟨rfl, rfl, rfl, rfl⟩ := P; exact h.stepq ok rfl hi
theorem Nm.twoP {e : NmE} {q p1 p2 p3 : Nat} (P : NmP e q p1 p2 p3) (ok : NmOk e) {w : World} {c d : Item} {l : List Item} (hi : e.n - (c :: d :: l).length = 0) (h : Nm e w (c :: d :: l)) :
    Nm e (w.setCell ⟨p1, 0, none⟩ (.int .i64 2)) l ∧ Mv (e.b + 1) w (w.setCell ⟨p1, 0, none⟩ (.int .i64 2)) ∧ e.n - l.length = 2 := by
  obtain ⟨rfl, rfl, rfl, rfl⟩ := P
  obtain ⟨h1, h2⟩ := h.step ok 2 (by simp) (z := 2) (by rw [hi]; rfl)
  have hl := h.len
  simp only [List.length_cons] at hl hi
  exact ⟨h1, h2, by omega⟩
structure NumFr (e : NmE) (w W : World) : Prop where
  nm : Nm e W e.t
  mv : Below w.heap.size w W
theorem Mv.num {e : NmE} {w W w1 : World} (h : Below w.heap.size w W) (hm : Mv (e.b + 1) W w1) (hb : w.heap.size ≤ e.b) : Below w.heap.size w w1 := h.trans (hm.below (by omega) h.size)
theorem Mv.thru {e : NmE} {n : Nat} {w wx w1 : World} (hq : e.b = n) (hn : w.heap.size = n) (hb : Below n w wx) (hm : Mv (e.b + 1) wx w1) : Below n w w1 :=
  hb.trans (hm.below (by omega) (by have := hb.size; omega))
set_option maxRecDepth 100000 in
set_option maxHeartbeats 6400000 in
theorem number_spec (w : World) (g o c : Nat) (t : List Item) (h : RowAt w g o c t) :
    Calls Tryd.prog 87 #[.slice (some ⟨g, o, none⟩) t.length c] w fun en w' => en = .returned (.int .i64 (numSpec t)) ∧ Below w.heap.size w w' := by
  obtain ⟨n, hn⟩ : ∃ n, w.heap.size = n := ⟨_, rfl⟩
  rw [hn]
  obtain ⟨W, hW⟩ : ∃ W, (((w.alloc (Obj.cells #[.slice (some ⟨g, o, none⟩) t.length c] 130)).alloc (Obj.cells #[.int .i64 0] 3)).alloc (Obj.cells #[.func (.func 102) #[] #[.pointer (some ⟨n + 1, 0, none⟩), .pointer (some ⟨n, 0, none⟩)]] 95)).alloc (Obj.cells #[.func (.func 103) #[] #[.pointer (some ⟨n + 2, 0, none⟩), .pointer (some ⟨n + 1, 0, none⟩)]] 154) = W := ⟨_, rfl⟩
  obtain ⟨e, he⟩ : ∃ e : NmE, (⟨w, n, g, o, c, t⟩ : NmE) = e := ⟨_, rfl⟩
  have hnm : Nm e W t ∧ Below n w W := by
    subst hn
    rw [← hW, ← he]
    have b1 : Below w.heap.size w (w.alloc (Obj.cells #[.slice (some ⟨g, o, none⟩) t.length c] 130)) := (Below.refl _ _).alloc (Nat.le_refl _) _
    have q0 := heap_alloc_new w (Obj.cells #[.slice (some ⟨g, o, none⟩) t.length c] 130)
    have s1 : (w.alloc (Obj.cells #[.slice (some ⟨g, o, none⟩) t.length c] 130)).heap.size = w.heap.size + 1 := World.size_alloc _ _
    generalize w.alloc (Obj.cells #[.slice (some ⟨g, o, none⟩) t.length c] 130) = w1 at *
    have b2 : Below w1.heap.size w1 (w1.alloc (Obj.cells #[.int .i64 0] 3)) := (Below.refl _ _).alloc (Nat.le_refl _) _
    have q1 := heap_alloc_new w1 (Obj.cells #[.int .i64 0] 3)
    have s2 : (w1.alloc (Obj.cells #[.int .i64 0] 3)).heap.size = w1.heap.size + 1 := World.size_alloc _ _
    generalize w1.alloc (Obj.cells #[.int .i64 0] 3) = w2 at *
    obtain ⟨o2, ho2⟩ : ∃ o2, Obj.cells #[.func (.func 102) #[] #[.pointer (some ⟨w.heap.size + 1, 0, none⟩), .pointer (some ⟨w.heap.size, 0, none⟩)]] 95 = o2 := ⟨_, rfl⟩
    obtain ⟨o3, ho3⟩ : ∃ o3, Obj.cells #[.func (.func 103) #[] #[.pointer (some ⟨w.heap.size + 2, 0, none⟩), .pointer (some ⟨w.heap.size + 1, 0, none⟩)]] 154 = o3 := ⟨_, rfl⟩
    rw [ho2, ho3]
    have b3 : Below w2.heap.size w2 (w2.alloc o2) := (Below.refl _ _).alloc (Nat.le_refl _) _
    have q2 := heap_alloc_new w2 (Obj.cells #[.func (.func 102) #[] #[.pointer (some ⟨w.heap.size + 1, 0, none⟩), .pointer (some ⟨w.heap.size, 0, none⟩)]] 95)
    rw [ho2] at q2
    have s3 : (w2.alloc o2).heap.size = w2.heap.size + 1 := World.size_alloc _ _
    generalize w2.alloc o2 = w3 at *
    have b4 : Below w3.heap.size w3 (w3.alloc o3) := (Below.refl _ _).alloc (Nat.le_refl _) _
    have q3 := heap_alloc_new w3 o3
    generalize w3.alloc o3 = w4 at *
    have b34 : Below w2.heap.size w2 w4 := b3.trans (b4.mono (by omega))
    have b24 : Below w1.heap.size w1 w4 := b2.trans (b34.mono (by omega))
    have b14 : Below w.heap.size w w4 := b1.trans (b24.mono (by omega))
    refine ⟨⟨?_, ?_, ?_, ?_, b14, List.suffix_refl _⟩, b14⟩
    · exact (b24.block _ (by show w.heap.size < _; omega)).trans q0
    · rw [show (0 : Int) = ((t.length - t.length : Nat) : Int) by simp] at q1
      exact (b34.block _ (by show w.heap.size + 1 < _; omega)).trans (by rw [show w.heap.size + 1 = w1.heap.size by omega]; exact q1)
    · exact (b4.block _ (by show w.heap.size + 2 < _; omega)).trans (by show w3.heap[w.heap.size + 2]? = _; rw [show w.heap.size + 2 = w2.heap.size by omega, q2, ← ho2])
    · show w4.heap[w.heap.size + 3]? = _
      rw [show w.heap.size + 3 = w3.heap.size by omega, q3, ← ho3]
  have hok : NmOk e := by
    rw [← he]
    exact ⟨h.row, h.cap, by show w.heap.size ≤ n; omega, h.small, h.rng⟩
  have hnt : e.n = t.length := by rw [← he]; rfl
  have het : e.t = t ∧ e.g = g ∧ e.o = o ∧ e.c = c ∧ e.b = n ∧ e.w0 = w := by rw [← he]; exact ⟨rfl, rfl, rfl, rfl, rfl, rfl⟩
  have hi0 : e.n - t.length = 0 := by omega
  have hcap := h.cap
  have hsm := h.small
  have HN := Lib.hid hn
  have HET := Lib.hid (And.intro hnt (And.intro het hok))
  have HNM := Lib.hid hnm
  have HR := Lib.hid h
  clear hok het h
  obtain ⟨K, hK⟩ : ∃ K, numSpec t = K := ⟨_, rfl⟩
  rw [hK]
  have HK := Lib.hid hK
  clear hK
  go_enter Tryd.func87, Tryd.ntmps87
  go_upto_region 6 with (fail)
  clear hW hn
  obtain ⟨p3, hp3⟩ : ∃ p, n + 1 + 1 + 1 = p := ⟨_, rfl⟩
  rw [hp3]
  obtain ⟨p2, hp2⟩ : ∃ p, n + 1 + 1 = p := ⟨_, rfl⟩
  rw [hp2]
  obtain ⟨p1, hp1⟩ : ∃ p, n + 1 = p := ⟨_, rfl⟩
  rw [hp1]
  have P := Lib.hid (NmP.mk HET.out.2.1.2.2.2.2.1 hp1 hp2 hp3 : NmP e n p1 p2 p3)
  obtain ⟨c0, c1, c2, fz, c3⟩ := Nm.cellsP P.out hi0 hnm.1
  rw [HET.out.2.1.2.1, HET.out.2.1.2.2.1, HET.out.2.1.2.2.2.1, HET.out.1] at c0
  have HI0 := Lib.hid hi0
  clear hp1 hp2 hp3 hnm hnt hi0 he
  have hrow : ∀ (j : Nat) (wx : World), Below n w wx → j < t.length → wx.cell? ⟨g, o + j, none⟩ = some (.int .i32 (chOf (t.drop j))) := fun j wx hb hj => by
    have := HR.out.row j hj
    exact ((show Below w.heap.size w wx by rw [HN.out]; exact hb).cell (World.block_lt_of_cell? w _ this)).trans this
  have HROW := Lib.hid hrow
  clear hrow
  obtain ⟨T, hT⟩ : ∃ T, t.length = T := ⟨_, rfl⟩
  rw [hT] at c0 hcap hsm ⊢
  have HT := Lib.hid hT
  go_cut [44] (fun u wr => u = .bool (isBO t) ∧ Nm e wr t ∧ Below n w wr)
  case first =>
    by_cases h1 : 1 < T
    · have x0 := HROW.out 0 W HNM.out.2 (by omega)
      have x1 := HROW.out 1 W HNM.out.2 (by omega)
      rw [Nat.add_zero, List.drop_zero] at x0
      rw [List.drop_one] at x1
      obtain ⟨r0, hr0⟩ : ∃ r, chOf t = r := ⟨_, rfl⟩
      obtain ⟨r1, hr1⟩ : ∃ r, chOf t.tail = r := ⟨_, rfl⟩
      rw [hr0] at x0
      rw [hr1] at x1
      have hbo : isBO t = (r0 == 48 && (r1 == 98 || r1 == 66 || r1 == 111 || r1 == 79)) := by unfold isBO; rw [hr0, hr1]
      have hh := has_bo r1
      obtain ⟨b, hb⟩ : ∃ b, (r1 == 98 || r1 == 66 || r1 == 111 || r1 == 79) = b := ⟨_, rfl⟩
      rw [hb] at hbo hh
      have HH := Lib.hid hh
      have HBO := Lib.hid hbo
      clear hh hbo hb hr0 hr1 hT
      by_cases h48 : r0 = 48
      · subst h48
        go_wp2_with (first
          | (go_at_call 84; refine (hasQ _ _ _ _ (by show 4 ≤ 70368744177664; omega) HH.out).mono ?_; rintro en wn ⟨rfl, hbn⟩; have HBN := Lib.hid hbn; clear hbn))
        go_meet
        exact ⟨by rw [HBO.out]; rfl, HNM.out.1.below HET.out.2.2 HBN.out, HNM.out.2.trans (HBN.out.mono (by have := HNM.out.2.size; have := HN.out; omega))⟩
      · have h48b : (r0 == 48) = false := beq_eq_false_iff_ne.2 h48
        go_wp2_with (fail)
        go_meet
        exact ⟨by rw [HBO.out, h48b]; rfl, HNM.out.1, HNM.out.2⟩
    · have hbo : isBO t = false := by
        have ht := HT.out
        cases t with
        | nil => rfl
        | cons a t1 =>
          cases t1 with
          | nil => unfold isBO; simp [chOf]
          | cons b t2 => simp only [List.length_cons] at ht; omega
      have HBO := Lib.hid hbo
      clear hbo hT
      go_wp2_with (fail)
      go_meet
      exact ⟨by rw [HBO.out], HNM.out.1, HNM.out.2⟩
  case rest =>
    obtain ⟨rfl, hn1, hb1⟩ := hcut
    clear HNM c0 c1 c2 fz c3
    have hk := HK.out
    rw [numSpec_of] at hk
    clear HK
    cases hbo : isBO t with
    | true =>
      rw [hbo, if_pos rfl] at hk
      obtain ⟨ca, cb, t2, rfl⟩ : ∃ ca cb t2, t = ca :: cb :: t2 := by
        unfold isBO at hbo
        simp only [Bool.and_eq_true, Bool.or_eq_true, beq_iff_eq] at hbo
        exact two_items hbo.1 (by decide) (by omega)
      obtain ⟨r1, hr1⟩ : ∃ r, chOf (ca :: cb :: t2).tail = r := ⟨_, rfl⟩
      have hlen := HT.out
      simp only [List.length_cons] at hlen
      have x1 := HROW.out 1 wc hb1 (by rw [HT.out]; omega)
      rw [List.drop_one, hr1] at x1
      rw [hr1] at hk
      have hh := has_o r1
      obtain ⟨bo, hb⟩ : ∃ b, (r1 == 111 || r1 == 79) = b := ⟨_, rfl⟩
      rw [hb] at hh hk
      have HH := Lib.hid hh
      obtain ⟨c0, c1, c2, fz, c3⟩ := Nm.cellsP P.out HI0.out hn1
      rw [HET.out.2.1.2.1, HET.out.2.1.2.2.1, HET.out.2.1.2.2.2.1, HET.out.1, HT.out] at c0
      have h1T : 1 < T := by omega
      have S0 := Lib.hid (And.intro hn1 hb1)
      have HK := Lib.hid hk
      clear hh hb hr1 hbo hn1 hb1 hlen hk
      cases bo
      all_goals
        go_upto_region 11 with (first
          | (go_at_call 84; refine (hasQ _ _ _ _ (by show 2 ≤ 70368744177664; omega) HH.out).mono ?_; rintro en wn ⟨rfl, hbn⟩; have hS := And.intro (S0.out.1.below HET.out.2.2 hbn) (S0.out.2.trans (hbn.mono (by have := S0.out.2.size; have := HN.out; omega))); clear S0 hbn c0 c1 c2 fz c3 x1; obtain ⟨c0, c1, c2, fz, c3⟩ := Nm.cellsP P.out HI0.out hS.1; have S0 := Lib.hid hS; clear hS))
        obtain ⟨hn2, hm2, hi2⟩ := S0.out.1.twoP P.out HET.out.2.2 HI0.out
        have hb2 := Mv.thru HET.out.2.1.2.2.2.2.1 HN.out S0.out.2 hm2
        obtain ⟨w2, hw2⟩ : ∃ w2, wn.setCell ⟨p1, 0, none⟩ (.int .i64 2) = w2 := ⟨_, rfl⟩
        rw [hw2] at hn2 hb2 ⊢
        clear c0 c1 c2 fz c3 hm2 hw2 S0
        obtain ⟨c0, c1, c2, fz, c3⟩ := Nm.cellsP P.out hi2 hn2
        have S := Lib.hid (And.intro hn2 hb2)
        clear hn2 hb2
      · have HKB := Lib.hid (show sbin 2 (ca :: cb :: t2) = K by have := HK.out; rw [if_neg (by decide)] at this; exact this)
        cases hs : sdig 2 t2 true with
        | none =>
          go_wp2_with (first
            | (go_at_call 103; refine (ndigitsP P.out HET.out.2.2 S.out.1 2 (by decide) true).mono ?_; rw [hs]; rintro en wn ⟨hmn, nn, ln, rfl, hnn, hnb⟩; have S1 := Lib.hid (Mv.thru HET.out.2.1.2.2.2.2.1 HN.out S.out.2 hmn); clear hmn hnn; rw [HET.out.1, HT.out] at hnb))
          go_ret
          have hk : K = 0 := by rw [← HKB.out]; unfold sbin; simp only [List.tail_cons]; rw [hs]
          exact ⟨by rw [hk]; rfl, S1.out⟩
        | some x =>
          obtain ⟨l', m⟩ := x
          by_cases hm0 : m = 0
          · subst hm0
            go_wp2_with (first
              | (go_at_call 103; refine (ndigitsP P.out HET.out.2.2 S.out.1 2 (by decide) true).mono ?_; rw [hs]; rintro en wn ⟨hmn, rfl, hnn⟩; have hS := And.intro hnn (Mv.thru HET.out.2.1.2.2.2.2.1 HN.out S.out.2 hmn); clear S hmn hnn c0 c1 c2 fz c3; obtain ⟨iN, hiN⟩ : ∃ i, e.n - l'.length = i := ⟨_, rfl⟩; have hibN := Nm.ib HET.out.2.2 hiN; obtain ⟨c0, c1, c2, fz, c3⟩ := Nm.cellsP P.out hiN hS.1; rw [HET.out.2.1.2.1, HET.out.2.1.2.2.1, HET.out.2.1.2.2.2.1, HET.out.1, HT.out] at c0; have S := Lib.hid hS; have HIN := Lib.hid hiN; clear hS hiN))
            go_ret
            have hk : K = 0 := by rw [← HKB.out]; unfold sbin; simp only [List.tail_cons]; rw [hs]; rfl
            exact ⟨by rw [hk]; rfl, S.out.2⟩
          · have hmb : ((m : Int) == 0) = false := beq_eq_false_iff_ne.2 (by omega)
            go_upto_region 14 with (first
              | (go_at_call 103; refine (ndigitsP P.out HET.out.2.2 S.out.1 2 (by decide) true).mono ?_; rw [hs]; rintro en wn ⟨hmn, rfl, hnn⟩; have hS := And.intro hnn (Mv.thru HET.out.2.1.2.2.2.2.1 HN.out S.out.2 hmn); clear S hmn hnn c0 c1 c2 fz c3; obtain ⟨iN, hiN⟩ : ∃ i, e.n - l'.length = i := ⟨_, rfl⟩; have hibN := Nm.ib HET.out.2.2 hiN; obtain ⟨c0, c1, c2, fz, c3⟩ := Nm.cellsP P.out hiN hS.1; rw [HET.out.2.1.2.1, HET.out.2.1.2.2.1, HET.out.2.1.2.2.2.1, HET.out.1, HT.out] at c0; have S := Lib.hid hS; have HIN := Lib.hid hiN; clear hS hiN))
            go_wp2_with (first
              | (go_at_call 106; refine (nendP P.out HET.out.2.2 S.out.1 _).mono ?_; rintro en wn ⟨rfl, rfl⟩))
            go_ret
            have hk : K = send (-3) l' := by rw [← HKB.out]; unfold sbin; simp only [List.tail_cons]; rw [hs]; simp only; rw [if_neg hm0]
            exact ⟨by rw [hk]; rfl, S.out.2⟩
      · have HKB := Lib.hid (show sbin 8 (ca :: cb :: t2) = K by have := HK.out; rw [if_pos (by trivial)] at this; exact this)
        cases hs : sdig 8 t2 true with
        | none =>
          go_wp2_with (first
            | (go_at_call 103; refine (ndigitsP P.out HET.out.2.2 S.out.1 8 (by decide) true).mono ?_; rw [hs]; rintro en wn ⟨hmn, nn, ln, rfl, hnn, hnb⟩; have S1 := Lib.hid (Mv.thru HET.out.2.1.2.2.2.2.1 HN.out S.out.2 hmn); clear hmn hnn; rw [HET.out.1, HT.out] at hnb))
          go_ret
          have hk : K = 0 := by rw [← HKB.out]; unfold sbin; simp only [List.tail_cons]; rw [hs]
          exact ⟨by rw [hk]; rfl, S1.out⟩
        | some x =>
          obtain ⟨l', m⟩ := x
          by_cases hm0 : m = 0
          · subst hm0
            go_wp2_with (first
              | (go_at_call 103; refine (ndigitsP P.out HET.out.2.2 S.out.1 8 (by decide) true).mono ?_; rw [hs]; rintro en wn ⟨hmn, rfl, hnn⟩; have hS := And.intro hnn (Mv.thru HET.out.2.1.2.2.2.2.1 HN.out S.out.2 hmn); clear S hmn hnn c0 c1 c2 fz c3; obtain ⟨iN, hiN⟩ : ∃ i, e.n - l'.length = i := ⟨_, rfl⟩; have hibN := Nm.ib HET.out.2.2 hiN; obtain ⟨c0, c1, c2, fz, c3⟩ := Nm.cellsP P.out hiN hS.1; rw [HET.out.2.1.2.1, HET.out.2.1.2.2.1, HET.out.2.1.2.2.2.1, HET.out.1, HT.out] at c0; have S := Lib.hid hS; have HIN := Lib.hid hiN; clear hS hiN))
            go_ret
            have hk : K = 0 := by rw [← HKB.out]; unfold sbin; simp only [List.tail_cons]; rw [hs]; rfl
            exact ⟨by rw [hk]; rfl, S.out.2⟩
          · have hmb : ((m : Int) == 0) = false := beq_eq_false_iff_ne.2 (by omega)
            go_upto_region 14 with (first
              | (go_at_call 103; refine (ndigitsP P.out HET.out.2.2 S.out.1 8 (by decide) true).mono ?_; rw [hs]; rintro en wn ⟨hmn, rfl, hnn⟩; have hS := And.intro hnn (Mv.thru HET.out.2.1.2.2.2.2.1 HN.out S.out.2 hmn); clear S hmn hnn c0 c1 c2 fz c3; obtain ⟨iN, hiN⟩ : ∃ i, e.n - l'.length = i := ⟨_, rfl⟩; have hibN := Nm.ib HET.out.2.2 hiN; obtain ⟨c0, c1, c2, fz, c3⟩ := Nm.cellsP P.out hiN hS.1; rw [HET.out.2.1.2.1, HET.out.2.1.2.2.1, HET.out.2.1.2.2.2.1, HET.out.1, HT.out] at c0; have S := Lib.hid hS; have HIN := Lib.hid hiN; clear hS hiN))
            go_wp2_with (first
              | (go_at_call 106; refine (nendP P.out HET.out.2.2 S.out.1 _).mono ?_; rintro en wn ⟨rfl, rfl⟩))
            go_ret
            have hk : K = send (-3) l' := by rw [← HKB.out]; unfold sbin; simp only [List.tail_cons]; rw [hs]; simp only; rw [if_neg hm0]
            exact ⟨by rw [hk]; rfl, S.out.2⟩
    | false =>
      rw [hbo, if_neg (by decide)] at hk
      have HBF := Lib.hid hbo
      have HK := Lib.hid hk
      clear hk
      obtain ⟨c0, c1, c2, fz, c3⟩ := Nm.cellsP P.out HI0.out hn1
      rw [HET.out.2.1.2.1, HET.out.2.1.2.2.1, HET.out.2.1.2.2.2.1, HET.out.1, HT.out] at c0
      have S0 := Lib.hid (And.intro hn1 hb1)
      clear hn1 hb1
      go_upto_region 15 with (fail)
      go_cut [77] (fun u wr => u = .bool (isX t) ∧ Nm e wr t ∧ Below n w wr)
      case first =>
        by_cases h1 : 1 < T
        · have x0 := HROW.out 0 wc S0.out.2 (by rw [HT.out]; omega)
          have x1 := HROW.out 1 wc S0.out.2 (by rw [HT.out]; omega)
          rw [Nat.add_zero, List.drop_zero] at x0
          rw [List.drop_one] at x1
          obtain ⟨r0, hr0⟩ : ∃ r, chOf t = r := ⟨_, rfl⟩
          obtain ⟨r1, hr1⟩ : ∃ r, chOf t.tail = r := ⟨_, rfl⟩
          rw [hr0] at x0
          rw [hr1] at x1
          have hx : isX t = (r0 == 48 && (r1 == 120 || r1 == 88)) := by unfold isX; rw [hr0, hr1]
          have hh := has_x r1
          obtain ⟨b, hb⟩ : ∃ b, (r1 == 120 || r1 == 88) = b := ⟨_, rfl⟩
          rw [hb] at hx hh
          have HH := Lib.hid hh
          have HX := Lib.hid hx
          clear hh hx hb hr0 hr1
          by_cases h48 : r0 = 48
          · subst h48
            go_wp2_with (first
              | (go_at_call 84; refine (hasQ _ _ _ _ (by show 2 ≤ 70368744177664; omega) HH.out).mono ?_; rintro en wn ⟨rfl, hbn⟩; have HBN := Lib.hid hbn; clear hbn))
            go_meet
            exact ⟨by rw [HX.out]; rfl, S0.out.1.below HET.out.2.2 HBN.out, S0.out.2.trans (HBN.out.mono (by have := S0.out.2.size; have := HN.out; omega))⟩
          · have h48b : (r0 == 48) = false := beq_eq_false_iff_ne.2 h48
            go_wp2_with (fail)
            go_meet
            exact ⟨by rw [HX.out, h48b]; rfl, S0.out.1, S0.out.2⟩
        · have hx : isX t = false := by
            have ht := HT.out
            cases t with
            | nil => rfl
            | cons a t1 =>
              cases t1 with
              | nil => unfold isX; simp [chOf]
              | cons b t2 => simp only [List.length_cons] at ht; omega
          have HX := Lib.hid hx
          clear hx
          go_wp2_with (fail)
          go_meet
          exact ⟨by rw [HX.out], S0.out.1, S0.out.2⟩
      case rest =>
        obtain ⟨rfl, hn1, hb1⟩ := hcut
        clear S0 c0 c1 c2 fz c3
        have hk := HK.out
        clear HK
        cases hx : isX t with
        | true =>
          rw [hx, if_pos rfl] at hk
          obtain ⟨ca, cb, t2, rfl⟩ : ∃ ca cb t2, t = ca :: cb :: t2 := by
            unfold isX at hx
            simp only [Bool.and_eq_true, Bool.or_eq_true, beq_iff_eq] at hx
            exact two_items hx.1 (by decide) (by omega)
          have HKB := Lib.hid hk
          obtain ⟨c0, c1, c2, fz, c3⟩ := Nm.cellsP P.out HI0.out hn1
          rw [HET.out.2.1.2.1, HET.out.2.1.2.2.1, HET.out.2.1.2.2.2.1, HET.out.1, HT.out] at c0
          have S0 := Lib.hid (And.intro hn1 hb1)
          clear hx hk hn1 hb1
          go_upto_region 17 with (fail)
          obtain ⟨hn2, hm2, hi2⟩ := S0.out.1.twoP P.out HET.out.2.2 HI0.out
          have hb2 := Mv.thru HET.out.2.1.2.2.2.2.1 HN.out S0.out.2 hm2
          obtain ⟨w2, hw2⟩ : ∃ w2, wc.setCell ⟨p1, 0, none⟩ (.int .i64 2) = w2 := ⟨_, rfl⟩
          rw [hw2] at hn2 hb2 ⊢
          clear c0 c1 c2 fz c3 hm2 hw2 S0
          obtain ⟨c0, c1, c2, fz, c3⟩ := Nm.cellsP P.out hi2 hn2
          have S := Lib.hid (And.intro hn2 hb2)
          clear hn2 hb2
          cases hs : sdig 16 t2 true with
          | none =>
            have HSD := Lib.hid hs
            clear hs
            go_wp2_with (first
              | (go_at_call 103; refine (ndigitsP P.out HET.out.2.2 S.out.1 16 (by decide) true).mono ?_; rw [HSD.out]; rintro en wn ⟨hmn, nn, ln, rfl, hnn, hnb⟩; have S1 := Lib.hid (Mv.thru HET.out.2.1.2.2.2.2.1 HN.out S.out.2 hmn); clear hmn hnn; rw [HET.out.1, HT.out] at hnb))
            go_ret
            have hk : K = 0 := by rw [← HKB.out]; exact shex_none HSD.out
            exact ⟨by rw [hk]; rfl, S1.out⟩
          | some x =>
            obtain ⟨l, n1⟩ := x
            have HSD := Lib.hid hs
            have hn1b : n1 ≤ T := by have h1 := sdig_cnt _ _ _ _ hs; have h2 := HT.out; simp only [List.length_cons] at h2; omega
            clear hs
            go_upto_region 20 with (first
              | (go_at_call 103; refine (ndigitsP P.out HET.out.2.2 S.out.1 16 (by decide) true).mono ?_; rw [HSD.out]; rintro en wn ⟨hmn, rfl, hnn⟩; have hS := And.intro hnn (Mv.thru HET.out.2.1.2.2.2.2.1 HN.out S.out.2 hmn); clear S hmn hnn c0 c1 c2 fz c3; obtain ⟨iN, hiN⟩ : ∃ i, e.n - l.length = i := ⟨_, rfl⟩; have hibN := Nm.ib HET.out.2.2 hiN; obtain ⟨c0, c1, c2, fz, c3⟩ := Nm.cellsP P.out hiN hS.1; rw [HET.out.2.1.2.1, HET.out.2.1.2.2.1, HET.out.2.1.2.2.2.1, HET.out.1, HT.out] at c0; have S := Lib.hid hS; have HIN := Lib.hid hiN; clear hS hiN))
            have HS1 := Lib.hid HSD.out
            by_cases h46 : chOf l = 46
            · have h46b : (chOf l == 46) = true := by rw [h46]; rfl
              have hne : l ≠ [] := by rintro rfl; cases h46
              cases l with
              | nil => exact absurd rfl hne
              | cons cx l1 =>
              have H46 := Lib.hid h46
              clear h46 hne
              go_upto_region 23 with (first
                | (go_at_call 102; refine (npeekP P.out HET.out.2.2 S.out.1).mono ?_; rintro en wn ⟨rfl, rfl⟩))
              obtain ⟨hn3, hm3, hi3⟩ := S.out.1.stepP P.out HET.out.2.2 HIN.out
              have hb3 := Mv.thru HET.out.2.1.2.2.2.2.1 HN.out S.out.2 hm3
              obtain ⟨w3, hw3⟩ : ∃ w3, wn.setCell ⟨p1, 0, none⟩ (.int .i64 ((iN : Int) + 1)) = w3 := ⟨_, rfl⟩
              rw [hw3] at hn3 hb3 ⊢
              have hS := And.intro hn3 hb3
              clear S HIN c0 c1 c2 fz c3 hn3 hb3 hm3 hw3 h46b HSD
              have hib3 := Nm.ib HET.out.2.2 hi3
              obtain ⟨c0, c1, c2, fz, c3⟩ := Nm.cellsP P.out hi3 hS.1
              rw [HET.out.2.1.2.1, HET.out.2.1.2.2.1, HET.out.2.1.2.2.2.1, HET.out.1, HT.out] at c0
              have S := Lib.hid hS
              clear hS hi3
              cases hs : sdig 16 l1 false with
              | none =>
                have HSD := Lib.hid hs
                clear hs
                go_wp2_with (first
                  | (go_at_call 103; refine (ndigitsP P.out HET.out.2.2 S.out.1 16 (by decide) false).mono ?_; rw [HSD.out]; rintro en wn ⟨hmn, nn, ln, rfl, hnn, hnb⟩; have S1 := Lib.hid (Mv.thru HET.out.2.1.2.2.2.2.1 HN.out S.out.2 hmn); clear hmn hnn; rw [HET.out.1, HT.out] at hnb))
                go_ret
                have hk : K = 0 := by rw [← HKB.out]; exact shex_none2 HS1.out (sfrac_bad H46.out HSD.out)
                exact ⟨by rw [hk]; rfl, S1.out⟩
              | some x =>
                obtain ⟨l2, m⟩ := x
                have HSD := Lib.hid hs
                have hmb : m ≤ T := by have h1 := sdig_cnt _ _ _ _ hs; have h2 := HT.out; have h3 := S.out.1.len; have h4 := HET.out.1; omega
                clear hs
                go_upto_region 27 with (first
                  | (go_at_call 103; refine (ndigitsP P.out HET.out.2.2 S.out.1 16 (by decide) false).mono ?_; rw [HSD.out]; rintro en wn ⟨hmn, rfl, hnn⟩; have hS := And.intro hnn (Mv.thru HET.out.2.1.2.2.2.2.1 HN.out S.out.2 hmn); clear S hmn hnn c0 c1 c2 fz c3; obtain ⟨iN, hiN⟩ : ∃ i, e.n - l2.length = i := ⟨_, rfl⟩; have hibN := Nm.ib HET.out.2.2 hiN; obtain ⟨c0, c1, c2, fz, c3⟩ := Nm.cellsP P.out hiN hS.1; rw [HET.out.2.1.2.1, HET.out.2.1.2.2.1, HET.out.2.1.2.2.2.1, HET.out.1, HT.out] at c0; have S := Lib.hid hS; have HIN := Lib.hid hiN; clear hS hiN))
                have hk2 := HKB.out
                rw [shex_fin (t := ca :: cb :: t2) HS1.out (sfrac_yes H46.out HSD.out)] at hk2
                clear HKB
                have hn2c : ((n1 : Int) + (m : Int)) = ((n1 + m : Nat) : Int) := by omega
                rw [hn2c]
                obtain ⟨n2, hn2⟩ : ∃ x, n1 + m = x := ⟨_, rfl⟩
                rw [hn2] at hk2 ⊢
                have hn2b : n2 ≤ T + T := by omega
                clear hn2c hn2 hn1b hmb
                have HKB := Lib.hid (show hexFin l2 n2 true = K from hk2)
                clear hk2
                cases he : sexp 112 80 l2 with
                | none =>
                  have HE := Lib.hid he
                  clear he
                  by_cases hz : n2 = 0
                  · subst hz
                    go_upto_region 28 with (first
                      | (go_at_call 105; refine (nexpP P.out HET.out.2.2 S.out.1 112 80 (by decide) (by decide)).mono ?_; rw [HE.out]; rintro en wn ⟨hmn, hd, ln, rfl, hnn⟩; have S1 := Lib.hid (Mv.thru HET.out.2.1.2.2.2.2.1 HN.out S.out.2 hmn); clear hmn hnn))
                    go_wp2_with (fail)
                    go_ret
                    have hk : K = 0 := by rw [← HKB.out]; exact hexFin_none HE.out
                    exact ⟨by rw [hk]; rfl, S1.out⟩
                  · have hzb : ((n2 : Int) == 0) = false := beq_eq_false_iff_ne.2 (by omega)
                    go_upto_region 28 with (first
                      | (go_at_call 105; refine (nexpP P.out HET.out.2.2 S.out.1 112 80 (by decide) (by decide)).mono ?_; rw [HE.out]; rintro en wn ⟨hmn, hd, ln, rfl, hnn⟩; have S1 := Lib.hid (Mv.thru HET.out.2.1.2.2.2.2.1 HN.out S.out.2 hmn); clear hmn hnn))
                    go_wp2_with (fail)
                    go_ret
                    have hk : K = 0 := by rw [← HKB.out]; exact hexFin_none HE.out
                    exact ⟨by rw [hk]; rfl, S1.out⟩
                | some x =>
                  obtain ⟨l3, had⟩ := x
                  have HE := Lib.hid he
                  clear he
                  by_cases hz : n2 = 0
                  · subst hz
                    go_upto_region 28 with (first
                      | (go_at_call 105; refine (nexpP P.out HET.out.2.2 S.out.1 112 80 (by decide) (by decide)).mono ?_; rw [HE.out]; rintro en wn ⟨hmn, rfl, hnn⟩; have hS := And.intro hnn (Mv.thru HET.out.2.1.2.2.2.2.1 HN.out S.out.2 hmn); clear S hmn hnn c0 c1 c2 fz c3; obtain ⟨iN, hiN⟩ : ∃ i, e.n - l3.length = i := ⟨_, rfl⟩; have hibN := Nm.ib HET.out.2.2 hiN; obtain ⟨c0, c1, c2, fz, c3⟩ := Nm.cellsP P.out hiN hS.1; rw [HET.out.2.1.2.1, HET.out.2.1.2.2.1, HET.out.2.1.2.2.2.1, HET.out.1, HT.out] at c0; have S := Lib.hid hS; have HIN := Lib.hid hiN; clear hS hiN))
                    go_wp2_with (fail)
                    go_ret
                    have hk : K = 0 := by rw [← HKB.out, hexFin_some HE.out, if_pos (.inl rfl)]
                    exact ⟨by rw [hk]; rfl, S.out.2⟩
                  · have hzb : ((n2 : Int) == 0) = false := beq_eq_false_iff_ne.2 (by omega)
                    cases had
                    · go_upto_region 28 with (first
                        | (go_at_call 105; refine (nexpP P.out HET.out.2.2 S.out.1 112 80 (by decide) (by decide)).mono ?_; rw [HE.out]; rintro en wn ⟨hmn, rfl, hnn⟩; have hS := And.intro hnn (Mv.thru HET.out.2.1.2.2.2.2.1 HN.out S.out.2 hmn); clear S hmn hnn c0 c1 c2 fz c3; obtain ⟨iN, hiN⟩ : ∃ i, e.n - l3.length = i := ⟨_, rfl⟩; have hibN := Nm.ib HET.out.2.2 hiN; obtain ⟨c0, c1, c2, fz, c3⟩ := Nm.cellsP P.out hiN hS.1; rw [HET.out.2.1.2.1, HET.out.2.1.2.2.1, HET.out.2.1.2.2.2.1, HET.out.1, HT.out] at c0; have S := Lib.hid hS; have HIN := Lib.hid hiN; clear hS hiN))
                      go_wp2_with (first
                        | (go_at_call 106; refine (nendP P.out HET.out.2.2 S.out.1 _).mono ?_; rintro en wn ⟨rfl, rfl⟩))
                      go_ret
                      have hk : K = 0 := by rw [← HKB.out, hexFin_some HE.out, if_pos (.inr ⟨rfl, rfl⟩)]
                      exact ⟨by rw [hk]; rfl, S.out.2⟩
                    · go_upto_region 28 with (first
                        | (go_at_call 105; refine (nexpP P.out HET.out.2.2 S.out.1 112 80 (by decide) (by decide)).mono ?_; rw [HE.out]; rintro en wn ⟨hmn, rfl, hnn⟩; have hS := And.intro hnn (Mv.thru HET.out.2.1.2.2.2.2.1 HN.out S.out.2 hmn); clear S hmn hnn c0 c1 c2 fz c3; obtain ⟨iN, hiN⟩ : ∃ i, e.n - l3.length = i := ⟨_, rfl⟩; have hibN := Nm.ib HET.out.2.2 hiN; obtain ⟨c0, c1, c2, fz, c3⟩ := Nm.cellsP P.out hiN hS.1; rw [HET.out.2.1.2.1, HET.out.2.1.2.2.1, HET.out.2.1.2.2.2.1, HET.out.1, HT.out] at c0; have S := Lib.hid hS; have HIN := Lib.hid hiN; clear hS hiN))
                      go_wp2_with (first
                        | (go_at_call 106; refine (nendP P.out HET.out.2.2 S.out.1 _).mono ?_; rintro en wn ⟨rfl, rfl⟩))
                      go_ret
                      have hk : K = send (-4) l3 := by rw [← HKB.out, hexFin_some HE.out, if_neg (by simp [hz]), if_pos rfl]
                      exact ⟨by rw [hk]; rfl, S.out.2⟩
            · have h46b : (chOf l == 46) = false := beq_eq_false_iff_ne.2 h46
              go_upto_region 27 with (first
                | (go_at_call 102; refine (npeekP P.out HET.out.2.2 S.out.1).mono ?_; rintro en wn ⟨rfl, rfl⟩))
              have hk2 := HKB.out
              rw [shex_fin (t := ca :: cb :: t2) HS1.out (sfrac_no h46)] at hk2
              clear HKB h46 h46b
              have HKB := Lib.hid (show hexFin l n1 false = K from hk2)
              clear hk2
              cases he : sexp 112 80 l with
              | none =>
                have HE := Lib.hid he
                clear he
                by_cases hz : n1 = 0
                · subst hz
                  go_upto_region 28 with (first
                    | (go_at_call 105; refine (nexpP P.out HET.out.2.2 S.out.1 112 80 (by decide) (by decide)).mono ?_; rw [HE.out]; rintro en wn ⟨hmn, hd, ln, rfl, hnn⟩; have S1 := Lib.hid (Mv.thru HET.out.2.1.2.2.2.2.1 HN.out S.out.2 hmn); clear hmn hnn))
                  go_wp2_with (fail)
                  go_ret
                  have hk : K = 0 := by rw [← HKB.out]; exact hexFin_none HE.out
                  exact ⟨by rw [hk]; rfl, S1.out⟩
                · have hzb : ((n1 : Int) == 0) = false := beq_eq_false_iff_ne.2 (by omega)
                  go_upto_region 28 with (first
                    | (go_at_call 105; refine (nexpP P.out HET.out.2.2 S.out.1 112 80 (by decide) (by decide)).mono ?_; rw [HE.out]; rintro en wn ⟨hmn, hd, ln, rfl, hnn⟩; have S1 := Lib.hid (Mv.thru HET.out.2.1.2.2.2.2.1 HN.out S.out.2 hmn); clear hmn hnn))
                  go_wp2_with (fail)
                  go_ret
                  have hk : K = 0 := by rw [← HKB.out]; exact hexFin_none HE.out
                  exact ⟨by rw [hk]; rfl, S1.out⟩
              | some x =>
                obtain ⟨l3, had⟩ := x
                have HE := Lib.hid he
                clear he
                by_cases hz : n1 = 0
                · subst hz
                  go_upto_region 28 with (first
                    | (go_at_call 105; refine (nexpP P.out HET.out.2.2 S.out.1 112 80 (by decide) (by decide)).mono ?_; rw [HE.out]; rintro en wn ⟨hmn, rfl, hnn⟩; have hS := And.intro hnn (Mv.thru HET.out.2.1.2.2.2.2.1 HN.out S.out.2 hmn); clear S hmn hnn c0 c1 c2 fz c3; obtain ⟨iN, hiN⟩ : ∃ i, e.n - l3.length = i := ⟨_, rfl⟩; have hibN := Nm.ib HET.out.2.2 hiN; obtain ⟨c0, c1, c2, fz, c3⟩ := Nm.cellsP P.out hiN hS.1; rw [HET.out.2.1.2.1, HET.out.2.1.2.2.1, HET.out.2.1.2.2.2.1, HET.out.1, HT.out] at c0; have S := Lib.hid hS; have HIN := Lib.hid hiN; clear hS hiN))
                  go_wp2_with (fail)
                  go_ret
                  have hk : K = 0 := by rw [← HKB.out, hexFin_some HE.out, if_pos (.inl rfl)]
                  exact ⟨by rw [hk]; rfl, S.out.2⟩
                · have hzb : ((n1 : Int) == 0) = false := beq_eq_false_iff_ne.2 (by omega)
                  cases had
                  · go_upto_region 28 with (first
                      | (go_at_call 105; refine (nexpP P.out HET.out.2.2 S.out.1 112 80 (by decide) (by decide)).mono ?_; rw [HE.out]; rintro en wn ⟨hmn, rfl, hnn⟩; have hS := And.intro hnn (Mv.thru HET.out.2.1.2.2.2.2.1 HN.out S.out.2 hmn); clear S hmn hnn c0 c1 c2 fz c3; obtain ⟨iN, hiN⟩ : ∃ i, e.n - l3.length = i := ⟨_, rfl⟩; have hibN := Nm.ib HET.out.2.2 hiN; obtain ⟨c0, c1, c2, fz, c3⟩ := Nm.cellsP P.out hiN hS.1; rw [HET.out.2.1.2.1, HET.out.2.1.2.2.1, HET.out.2.1.2.2.2.1, HET.out.1, HT.out] at c0; have S := Lib.hid hS; have HIN := Lib.hid hiN; clear hS hiN))
                    go_wp2_with (first
                      | (go_at_call 106; refine (nendP P.out HET.out.2.2 S.out.1 _).mono ?_; rintro en wn ⟨rfl, rfl⟩))
                    go_ret
                    have hk : K = send (-3) l3 := by rw [← HKB.out, hexFin_some HE.out, if_neg (by simp [hz]), if_neg (by decide)]
                    exact ⟨by rw [hk]; rfl, S.out.2⟩
                  · go_upto_region 28 with (first
                      | (go_at_call 105; refine (nexpP P.out HET.out.2.2 S.out.1 112 80 (by decide) (by decide)).mono ?_; rw [HE.out]; rintro en wn ⟨hmn, rfl, hnn⟩; have hS := And.intro hnn (Mv.thru HET.out.2.1.2.2.2.2.1 HN.out S.out.2 hmn); clear S hmn hnn c0 c1 c2 fz c3; obtain ⟨iN, hiN⟩ : ∃ i, e.n - l3.length = i := ⟨_, rfl⟩; have hibN := Nm.ib HET.out.2.2 hiN; obtain ⟨c0, c1, c2, fz, c3⟩ := Nm.cellsP P.out hiN hS.1; rw [HET.out.2.1.2.1, HET.out.2.1.2.2.1, HET.out.2.1.2.2.2.1, HET.out.1, HT.out] at c0; have S := Lib.hid hS; have HIN := Lib.hid hiN; clear hS hiN))
                    go_wp2_with (first
                      | (go_at_call 106; refine (nendP P.out HET.out.2.2 S.out.1 _).mono ?_; rintro en wn ⟨rfl, rfl⟩))
                    go_ret
                    have hk : K = send (-4) l3 := by rw [← HKB.out, hexFin_some HE.out, if_neg (by simp [hz]), if_pos rfl]
                    exact ⟨by rw [hk]; rfl, S.out.2⟩
        | false =>
          rw [hx, if_neg (by decide)] at hk
          have HKB := Lib.hid hk
          obtain ⟨c0, c1, c2, fz, c3⟩ := Nm.cellsP P.out HI0.out hn1
          rw [HET.out.2.1.2.1, HET.out.2.1.2.2.1, HET.out.2.1.2.2.2.1, HET.out.1, HT.out] at c0
          have S := Lib.hid (And.intro hn1 hb1)
          clear hx hk hn1 hb1
          cases hs : sdig 10 t false with
          | none =>
            have HSD := Lib.hid hs
            clear hs
            go_wp2_with (first
              | (go_at_call 103; refine (ndigitsP P.out HET.out.2.2 S.out.1 10 (by decide) false).mono ?_; rw [HSD.out]; rintro en wn ⟨hmn, nn, ln, rfl, hnn, hnb⟩; have S1 := Lib.hid (Mv.thru HET.out.2.1.2.2.2.2.1 HN.out S.out.2 hmn); clear hmn hnn; rw [HET.out.1, HT.out] at hnb))
            go_ret
            have hk : K = 0 := by rw [← HKB.out]; exact sdec_none HSD.out
            exact ⟨by rw [hk]; rfl, S1.out⟩
          | some x =>
            obtain ⟨l, n1⟩ := x
            have HSD := Lib.hid hs
            have hn1b : n1 ≤ T := by have h1 := sdig_cnt _ _ _ _ hs; have h2 := HT.out; omega
            clear hs
            go_upto_region 36 with (first
              | (go_at_call 103; refine (ndigitsP P.out HET.out.2.2 S.out.1 10 (by decide) false).mono ?_; rw [HSD.out]; rintro en wn ⟨hmn, rfl, hnn⟩; have hS := And.intro hnn (Mv.thru HET.out.2.1.2.2.2.2.1 HN.out S.out.2 hmn); clear S hmn hnn c0 c1 c2 fz c3; obtain ⟨iN, hiN⟩ : ∃ i, e.n - l.length = i := ⟨_, rfl⟩; have hibN := Nm.ib HET.out.2.2 hiN; obtain ⟨c0, c1, c2, fz, c3⟩ := Nm.cellsP P.out hiN hS.1; rw [HET.out.2.1.2.1, HET.out.2.1.2.2.1, HET.out.2.1.2.2.2.1, HET.out.1, HT.out] at c0; have S := Lib.hid hS; have HIN := Lib.hid hiN; clear hS hiN))
            generalize iN = iW at *
            have HIW := Lib.hid HIN.out
            have hiC : iW ≤ c := by have h1 := HIW.out; have h2 := HET.out.1; have h3 := HT.out; omega
            have HS1 := Lib.hid HSD.out
            go_upto_region 37 with (fail)
            by_cases h46 : chOf l = 46
            · have h46b : (chOf l == 46) = true := by rw [h46]; rfl
              have hne : l ≠ [] := by rintro rfl; cases h46
              cases l with
              | nil => exact absurd rfl hne
              | cons cx l1 =>
              have H46 := Lib.hid h46
              clear h46 hne
              go_upto_region 40 with (first
                | (go_at_call 102; refine (npeekP P.out HET.out.2.2 S.out.1).mono ?_; rintro en wn ⟨rfl, rfl⟩))
              obtain ⟨hn3, hm3, hi3⟩ := S.out.1.stepP P.out HET.out.2.2 HIN.out
              have hb3 := Mv.thru HET.out.2.1.2.2.2.2.1 HN.out S.out.2 hm3
              obtain ⟨w3, hw3⟩ : ∃ w3, wn.setCell ⟨p1, 0, none⟩ (.int .i64 ((iW : Int) + 1)) = w3 := ⟨_, rfl⟩
              rw [hw3] at hn3 hb3 ⊢
              have hS := And.intro hn3 hb3
              clear S HIN c0 c1 c2 fz c3 hn3 hb3 hm3 hw3 h46b HSD
              have hib3 := Nm.ib HET.out.2.2 hi3
              obtain ⟨c0, c1, c2, fz, c3⟩ := Nm.cellsP P.out hi3 hS.1
              rw [HET.out.2.1.2.1, HET.out.2.1.2.2.1, HET.out.2.1.2.2.2.1, HET.out.1, HT.out] at c0
              have S := Lib.hid hS
              clear hS hi3
              cases hs : sdig 10 l1 false with
              | none =>
                have HSD := Lib.hid hs
                clear hs
                go_wp2_with (first
                  | (go_at_call 103; refine (ndigitsP P.out HET.out.2.2 S.out.1 10 (by decide) false).mono ?_; rw [HSD.out]; rintro en wn ⟨hmn, nn, ln, rfl, hnn, hnb⟩; have S1 := Lib.hid (Mv.thru HET.out.2.1.2.2.2.2.1 HN.out S.out.2 hmn); clear hmn hnn; rw [HET.out.1, HT.out] at hnb))
                go_ret
                have hk : K = 0 := by rw [← HKB.out]; exact sdec_none2 HS1.out (sfrac_bad H46.out HSD.out)
                exact ⟨by rw [hk]; rfl, S1.out⟩
              | some x =>
                obtain ⟨l2, m⟩ := x
                have HSD := Lib.hid hs
                have hmb : m ≤ T := by have h1 := sdig_cnt _ _ _ _ hs; have h2 := HT.out; have h3 := S.out.1.len; have h4 := HET.out.1; omega
                clear hs
                go_upto_region 44 with (first
                  | (go_at_call 103; refine (ndigitsP P.out HET.out.2.2 S.out.1 10 (by decide) false).mono ?_; rw [HSD.out]; rintro en wn ⟨hmn, rfl, hnn⟩; have hS := And.intro hnn (Mv.thru HET.out.2.1.2.2.2.2.1 HN.out S.out.2 hmn); clear S hmn hnn c0 c1 c2 fz c3; obtain ⟨iN, hiN⟩ : ∃ i, e.n - l2.length = i := ⟨_, rfl⟩; have hibN := Nm.ib HET.out.2.2 hiN; obtain ⟨c0, c1, c2, fz, c3⟩ := Nm.cellsP P.out hiN hS.1; rw [HET.out.2.1.2.1, HET.out.2.1.2.2.1, HET.out.2.1.2.2.2.1, HET.out.1, HT.out] at c0; have S := Lib.hid hS; have HIN := Lib.hid hiN; clear hS hiN))
                have hk2 := HKB.out
                rw [sdec_fin HS1.out (sfrac_yes H46.out HSD.out)] at hk2
                clear HKB
                have hn2c : ((n1 : Int) + (m : Int)) = ((n1 + m : Nat) : Int) := by omega
                rw [hn2c]
                obtain ⟨n2, hn2⟩ : ∃ x, n1 + m = x := ⟨_, rfl⟩
                rw [hn2] at hk2 ⊢
                have hn2b : n2 ≤ T + T := by omega
                clear hn2c hn2 hn1b hmb
                have HKB := Lib.hid (show decFin t (cx :: l1) l2 n2 true = K from hk2)
                clear hk2
                cases he : sexp 101 69 l2 with
                | none =>
                  have HE := Lib.hid he
                  clear he
                  by_cases hz : n2 = 0
                  · subst hz
                    go_upto_region 45 with (first
                      | (go_at_call 105; refine (nexpP P.out HET.out.2.2 S.out.1 101 69 (by decide) (by decide)).mono ?_; rw [HE.out]; rintro en wn ⟨hmn, hd, ln, rfl, hnn⟩; have S1 := Lib.hid (Mv.thru HET.out.2.1.2.2.2.2.1 HN.out S.out.2 hmn); clear hmn hnn))
                    go_wp2_with (fail)
                    go_ret
                    have hk : K = 0 := by rw [← HKB.out]; exact decFin_none HE.out
                    exact ⟨by rw [hk]; rfl, S1.out⟩
                  · have hzb : ((n2 : Int) == 0) = false := beq_eq_false_iff_ne.2 (by omega)
                    go_upto_region 45 with (first
                      | (go_at_call 105; refine (nexpP P.out HET.out.2.2 S.out.1 101 69 (by decide) (by decide)).mono ?_; rw [HE.out]; rintro en wn ⟨hmn, hd, ln, rfl, hnn⟩; have S1 := Lib.hid (Mv.thru HET.out.2.1.2.2.2.2.1 HN.out S.out.2 hmn); clear hmn hnn))
                    go_wp2_with (fail)
                    go_ret
                    have hk : K = 0 := by rw [← HKB.out]; exact decFin_none HE.out
                    exact ⟨by rw [hk]; rfl, S1.out⟩
                | some x =>
                  obtain ⟨l3, had⟩ := x
                  have HE := Lib.hid he
                  clear he
                  by_cases hz : n2 = 0
                  · subst hz
                    go_upto_region 45 with (first
                      | (go_at_call 105; refine (nexpP P.out HET.out.2.2 S.out.1 101 69 (by decide) (by decide)).mono ?_; rw [HE.out]; rintro en wn ⟨hmn, rfl, hnn⟩; have hS := And.intro hnn (Mv.thru HET.out.2.1.2.2.2.2.1 HN.out S.out.2 hmn); clear S hmn hnn c0 c1 c2 fz c3; obtain ⟨iN, hiN⟩ : ∃ i, e.n - l3.length = i := ⟨_, rfl⟩; have hibN := Nm.ib HET.out.2.2 hiN; obtain ⟨c0, c1, c2, fz, c3⟩ := Nm.cellsP P.out hiN hS.1; rw [HET.out.2.1.2.1, HET.out.2.1.2.2.1, HET.out.2.1.2.2.2.1, HET.out.1, HT.out] at c0; have S := Lib.hid hS; have HIN := Lib.hid hiN; clear hS hiN))
                    go_wp2_with (fail)
                    go_ret
                    have hk : K = 0 := by rw [← HKB.out, decFin_some HE.out, if_pos rfl]
                    exact ⟨by rw [hk]; rfl, S.out.2⟩
                  · have hzb : ((n2 : Int) == 0) = false := beq_eq_false_iff_ne.2 (by omega)
                    cases had
                    · go_upto_region 45 with (first
                        | (go_at_call 105; refine (nexpP P.out HET.out.2.2 S.out.1 101 69 (by decide) (by decide)).mono ?_; rw [HE.out]; rintro en wn ⟨hmn, rfl, hnn⟩; have hS := And.intro hnn (Mv.thru HET.out.2.1.2.2.2.2.1 HN.out S.out.2 hmn); clear S hmn hnn c0 c1 c2 fz c3; obtain ⟨iN, hiN⟩ : ∃ i, e.n - l3.length = i := ⟨_, rfl⟩; have hibN := Nm.ib HET.out.2.2 hiN; obtain ⟨c0, c1, c2, fz, c3⟩ := Nm.cellsP P.out hiN hS.1; rw [HET.out.2.1.2.1, HET.out.2.1.2.2.1, HET.out.2.1.2.2.2.1, HET.out.1, HT.out] at c0; have S := Lib.hid hS; have HIN := Lib.hid hiN; clear hS hiN))
                      go_wp2_with (first
                        | (go_at_call 106; refine (nendP P.out HET.out.2.2 S.out.1 _).mono ?_; rintro en wn ⟨rfl, rfl⟩))
                      go_ret
                      have hk : K = send (-4) l3 := by rw [← HKB.out, decFin_some HE.out, if_neg hz, if_pos (.inl rfl)]
                      exact ⟨by rw [hk]; rfl, S.out.2⟩
                    · go_upto_region 45 with (first
                        | (go_at_call 105; refine (nexpP P.out HET.out.2.2 S.out.1 101 69 (by decide) (by decide)).mono ?_; rw [HE.out]; rintro en wn ⟨hmn, rfl, hnn⟩; have hS := And.intro hnn (Mv.thru HET.out.2.1.2.2.2.2.1 HN.out S.out.2 hmn); clear S hmn hnn c0 c1 c2 fz c3; obtain ⟨iN, hiN⟩ : ∃ i, e.n - l3.length = i := ⟨_, rfl⟩; have hibN := Nm.ib HET.out.2.2 hiN; obtain ⟨c0, c1, c2, fz, c3⟩ := Nm.cellsP P.out hiN hS.1; rw [HET.out.2.1.2.1, HET.out.2.1.2.2.1, HET.out.2.1.2.2.2.1, HET.out.1, HT.out] at c0; have S := Lib.hid hS; have HIN := Lib.hid hiN; clear hS hiN))
                      go_wp2_with (first
                        | (go_at_call 106; refine (nendP P.out HET.out.2.2 S.out.1 _).mono ?_; rintro en wn ⟨rfl, rfl⟩))
                      go_ret
                      have hk : K = send (-4) l3 := by rw [← HKB.out, decFin_some HE.out, if_neg hz, if_pos (.inr rfl)]
                      exact ⟨by rw [hk]; rfl, S.out.2⟩
            · have h46b : (chOf l == 46) = false := beq_eq_false_iff_ne.2 h46
              go_upto_region 44 with (first
                | (go_at_call 102; refine (npeekP P.out HET.out.2.2 S.out.1).mono ?_; rintro en wn ⟨rfl, rfl⟩))
              have hk2 := HKB.out
              rw [sdec_fin HS1.out (sfrac_no h46)] at hk2
              clear HKB h46 h46b
              have HKB := Lib.hid (show decFin t l l n1 false = K from hk2)
              clear hk2
              cases he : sexp 101 69 l with
              | none =>
                have HE := Lib.hid he
                clear he
                by_cases hz : n1 = 0
                · subst hz
                  go_upto_region 45 with (first
                    | (go_at_call 105; refine (nexpP P.out HET.out.2.2 S.out.1 101 69 (by decide) (by decide)).mono ?_; rw [HE.out]; rintro en wn ⟨hmn, hd, ln, rfl, hnn⟩; have S1 := Lib.hid (Mv.thru HET.out.2.1.2.2.2.2.1 HN.out S.out.2 hmn); clear hmn hnn))
                  go_wp2_with (fail)
                  go_ret
                  have hk : K = 0 := by rw [← HKB.out]; exact decFin_none HE.out
                  exact ⟨by rw [hk]; rfl, S1.out⟩
                · have hzb : ((n1 : Int) == 0) = false := beq_eq_false_iff_ne.2 (by omega)
                  go_upto_region 45 with (first
                    | (go_at_call 105; refine (nexpP P.out HET.out.2.2 S.out.1 101 69 (by decide) (by decide)).mono ?_; rw [HE.out]; rintro en wn ⟨hmn, hd, ln, rfl, hnn⟩; have S1 := Lib.hid (Mv.thru HET.out.2.1.2.2.2.2.1 HN.out S.out.2 hmn); clear hmn hnn))
                  go_wp2_with (fail)
                  go_ret
                  have hk : K = 0 := by rw [← HKB.out]; exact decFin_none HE.out
                  exact ⟨by rw [hk]; rfl, S1.out⟩
              | some x =>
                obtain ⟨l3, had⟩ := x
                have HE := Lib.hid he
                clear he
                by_cases hz : n1 = 0
                · subst hz
                  go_upto_region 45 with (first
                    | (go_at_call 105; refine (nexpP P.out HET.out.2.2 S.out.1 101 69 (by decide) (by decide)).mono ?_; rw [HE.out]; rintro en wn ⟨hmn, rfl, hnn⟩; have hS := And.intro hnn (Mv.thru HET.out.2.1.2.2.2.2.1 HN.out S.out.2 hmn); clear S hmn hnn c0 c1 c2 fz c3; obtain ⟨iN, hiN⟩ : ∃ i, e.n - l3.length = i := ⟨_, rfl⟩; have hibN := Nm.ib HET.out.2.2 hiN; obtain ⟨c0, c1, c2, fz, c3⟩ := Nm.cellsP P.out hiN hS.1; rw [HET.out.2.1.2.1, HET.out.2.1.2.2.1, HET.out.2.1.2.2.2.1, HET.out.1, HT.out] at c0; have S := Lib.hid hS; have HIN := Lib.hid hiN; clear hS hiN))
                  go_wp2_with (fail)
                  go_ret
                  have hk : K = 0 := by rw [← HKB.out, decFin_some HE.out, if_pos rfl]
                  exact ⟨by rw [hk]; rfl, S.out.2⟩
                · have hzb : ((n1 : Int) == 0) = false := beq_eq_false_iff_ne.2 (by omega)
                  cases had
                  · go_upto_region 49 with (first
                      | (go_at_call 105; refine (nexpP P.out HET.out.2.2 S.out.1 101 69 (by decide) (by decide)).mono ?_; rw [HE.out]; rintro en wn ⟨hmn, rfl, hnn⟩; have hS := And.intro hnn (Mv.thru HET.out.2.1.2.2.2.2.1 HN.out S.out.2 hmn); clear S hmn hnn c0 c1 c2 fz c3; obtain ⟨iN, hiN⟩ : ∃ i, e.n - l3.length = i := ⟨_, rfl⟩; have hibN := Nm.ib HET.out.2.2 hiN; obtain ⟨c0, c1, c2, fz, c3⟩ := Nm.cellsP P.out hiN hS.1; rw [HET.out.2.1.2.1, HET.out.2.1.2.2.1, HET.out.2.1.2.2.2.1, HET.out.1, HT.out] at c0; have S := Lib.hid hS; have HIN := Lib.hid hiN; clear hS hiN))
                    have hwl : (t.take (t.length - l.length)).length = iW := by have h1 := HIW.out; have h2 := HET.out.1; rw [List.length_take]; omega
                    have hkk := HKB.out
                    rw [decFin_some HE.out, if_neg hz, if_neg (by simp), hwl] at hkk
                    have htk : t.length - l.length = iW := by have h1 := HIW.out; have h2 := HET.out.1; omega
                    rw [htk] at hkk
                    have hiT : iW ≤ T := by have h1 := HIW.out; have h2 := HET.out.1; have h3 := HT.out; omega
                    have HKK := Lib.hid hkk
                    clear hkk htk hwl hzb HKB
                    by_cases hw1 : 1 < iW
                    · have x0 := HROW.out 0 wn S.out.2 (by rw [HT.out]; omega)
                      rw [Nat.add_zero, List.drop_zero] at x0
                      obtain ⟨r0, hr0⟩ : ∃ r, chOf t = r := ⟨_, rfl⟩
                      rw [hr0] at x0
                      have HR0 := Lib.hid hr0
                      clear hr0
                      by_cases h48 : r0 = 48
                      · have h48b : (r0 == 48) = true := by rw [h48]; rfl
                        have H48 := Lib.hid h48
                        clear h48
                        go_upto_region 50 with (fail)
                        clear x0 h48b
                        go_wp2_with (fail)
                        go_loopg [182] iW (fun kk v wr => ∃ j : Nat, j + kk = iW ∧ v = .int .i64 (j : Nat) ∧ wr = wn ∧ ((t.take iW).drop j).any is89 = (t.take iW).any is89)
                        case atStart => exact ⟨0, by omega, rfl, rfl, rfl⟩
                        case round =>
                          obtain ⟨j, hj, rfl, rfl, ha⟩ := hrel
                          by_cases hlt : j < iW
                          · have hjt : j < t.length := by rw [HT.out]; omega
                            have xj := HROW.out j wr S.out.2 hjt
                            have hdt : t.drop j = t[j] :: t.drop (j + 1) := List.drop_eq_getElem_cons hjt
                            have hch : chOf (t.drop j) = ((t[j]).r : Int) := by rw [hdt]; rfl
                            have hdw : (t.take iW).drop j = t[j] :: (t.take iW).drop (j + 1) := by
                              have hl : j < (t.take iW).length := by rw [List.length_take]; omega
                              rw [List.drop_eq_getElem_cons hl, List.getElem_take]
                            rw [hch] at xj
                            rw [hdw, List.any_cons] at ha
                            obtain ⟨y, hy⟩ : ∃ y, ((t[j]).r : Int) = y := ⟨_, rfl⟩
                            have h89 : is89 t[j] = (y == 56 || y == 57) := by
                              unfold is89
                              rw [← hy, Bool.eq_iff_iff]
                              simp only [Bool.or_eq_true, beq_iff_eq]
                              omega
                            rw [hy] at xj
                            rw [h89] at ha
                            have HA := Lib.hid ha
                            have HJ := Lib.hid hj
                            clear hdt hch hdw hy h89 ha hjt hj
                            by_cases e56 : y = 56
                            · subst e56
                              go_wp2_with (fail)
                              go_ret
                              have hk : K = 0 := by rw [← HKK.out, if_pos ⟨hw1, by rw [HR0.out, H48.out], by rw [← HA.out]; rfl⟩]
                              exact ⟨by rw [hk]; rfl, S.out.2⟩
                            · have e56b : (y == 56) = false := beq_eq_false_iff_ne.2 e56
                              by_cases e57 : y = 57
                              · subst e57
                                go_wp2_with (fail)
                                go_ret
                                have hk : K = 0 := by rw [← HKK.out, if_pos ⟨hw1, by rw [HR0.out, H48.out], by rw [← HA.out]; rfl⟩]
                                exact ⟨by rw [hk]; rfl, S.out.2⟩
                              · have e57b : (y == 57) = false := beq_eq_false_iff_ne.2 e57
                                go_wp2_with (fail)
                                go_roundg (iW - (j + 1))
                                case measure => have := HJ.out; omega
                                case rel => exact ⟨j + 1, by have := HJ.out; omega, by go_num, rfl, by rw [← HA.out, e56b, e57b]; rfl⟩
                          · have hje : (t.take iW).drop j = [] := List.drop_eq_nil_of_le (by rw [List.length_take]; omega)
                            rw [hje] at ha
                            have HA := Lib.hid ha
                            clear ha hj hje
                            go_wp2_with (first
                              | (go_at_call 106; refine (nendP P.out HET.out.2.2 S.out.1 _).mono ?_; rintro en wn ⟨rfl, rfl⟩))
                            go_ret
                            have hk : K = send (-3) l3 := by rw [← HKK.out, if_neg]; rintro ⟨-, -, h⟩; rw [← HA.out] at h; cases h
                            exact ⟨by rw [hk]; rfl, S.out.2⟩
                      · have h48b : (r0 == 48) = false := beq_eq_false_iff_ne.2 h48
                        have hk : K = send (-3) l3 := by rw [← HKK.out, if_neg]; rintro ⟨-, h, -⟩; rw [HR0.out] at h; exact h48 h
                        have HKF := Lib.hid hk
                        clear h48 hk
                        go_upto_region 56 with (fail)
                        go_wp2_with (first
                          | (go_at_call 106; refine (nendP P.out HET.out.2.2 S.out.1 _).mono ?_; rintro en wn ⟨rfl, rfl⟩))
                        go_ret
                        exact ⟨by rw [HKF.out]; rfl, S.out.2⟩
                    · have hk : K = send (-3) l3 := by rw [← HKK.out, if_neg]; rintro ⟨h, -⟩; exact hw1 h
                      have HKF := Lib.hid hk
                      clear hk
                      go_upto_region 56 with (fail)
                      go_wp2_with (first
                        | (go_at_call 106; refine (nendP P.out HET.out.2.2 S.out.1 _).mono ?_; rintro en wn ⟨rfl, rfl⟩))
                      go_ret
                      exact ⟨by rw [HKF.out]; rfl, S.out.2⟩
                  · go_upto_region 45 with (first
                      | (go_at_call 105; refine (nexpP P.out HET.out.2.2 S.out.1 101 69 (by decide) (by decide)).mono ?_; rw [HE.out]; rintro en wn ⟨hmn, rfl, hnn⟩; have hS := And.intro hnn (Mv.thru HET.out.2.1.2.2.2.2.1 HN.out S.out.2 hmn); clear S hmn hnn c0 c1 c2 fz c3; obtain ⟨iN, hiN⟩ : ∃ i, e.n - l3.length = i := ⟨_, rfl⟩; have hibN := Nm.ib HET.out.2.2 hiN; obtain ⟨c0, c1, c2, fz, c3⟩ := Nm.cellsP P.out hiN hS.1; rw [HET.out.2.1.2.1, HET.out.2.1.2.2.1, HET.out.2.1.2.2.2.1, HET.out.1, HT.out] at c0; have S := Lib.hid hS; have HIN := Lib.hid hiN; clear hS hiN))
                    go_wp2_with (first
                      | (go_at_call 106; refine (nendP P.out HET.out.2.2 S.out.1 _).mono ?_; rintro en wn ⟨rfl, rfl⟩))
                    go_ret
                    have hk : K = send (-4) l3 := by rw [← HKB.out, decFin_some HE.out, if_neg hz, if_pos (.inr rfl)]
                    exact ⟨by rw [hk]; rfl, S.out.2⟩
end Go.Proofs.YtmfihkgbfoapaaaDoor
