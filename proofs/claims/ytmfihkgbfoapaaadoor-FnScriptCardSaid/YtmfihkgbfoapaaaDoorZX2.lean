/- Own texts X2 X4 of this claim, cut to what the claim uses. -/
import Derived.Test.YtmfihkgbfoapaaaDoorZX1
namespace Go.Proofs.YtmfihkgbfoapaaaDoor
set_option linter.unusedVariables false
set_option linter.unusedSimpArgs false
open Go Go.RowKit Go.Lib Go.BigFrame Go.Proofs.YtmfihkgbfoapaaaDoorW.PrintWords
structure NmE where
  w0 : World
  b : Nat
  g : Nat
  o : Nat
  c : Nat
  t : List Item
def NmE.n (e : NmE) : Nat := e.t.length
structure NmOk (e : NmE) : Prop where
  row : ∀ (j : Nat), j < e.n → e.w0.cell? ⟨e.g, e.o + j, none⟩ = some (.int .i32 (chOf (e.t.drop j)))
  cap : e.n ≤ e.c
  b : e.w0.heap.size ≤ e.b
  small : e.n ≤ 10000000000
  rng : Rng e.t
structure Nm (e : NmE) (w : World) (l : List Item) : Prop where
  bT : w.heap[e.b]? = some (.cells #[.slice (some ⟨e.g, e.o, none⟩) e.n e.c] 130 (0, 0))
  bA : w.heap[e.b + 1]? = some (.cells #[.int .i64 ((e.n - l.length : Nat) : Int)] 3 (0, 0))
  bP : w.heap[e.b + 2]? = some (.cells #[.func (.func 102) #[] #[.pointer (some ⟨e.b + 1, 0, none⟩), .pointer (some ⟨e.b, 0, none⟩)]] 95 (0, 0))
  bD : w.heap[e.b + 3]? = some (.cells #[.func (.func 103) #[] #[.pointer (some ⟨e.b + 2, 0, none⟩), .pointer (some ⟨e.b + 1, 0, none⟩)]] 154 (0, 0))
  base : Below e.w0.heap.size e.w0 w
  suf : l <:+ e.t
theorem Nm.len {e : NmE} {w : World} {l : List Item} (h : Nm e w l) : l.length ≤ e.n := h.suf.length_le
theorem Nm.at_ {e : NmE} {w : World} {l : List Item} (h : Nm e w l) : e.t.drop (e.n - l.length) = l := by
  obtain ⟨pre, hp⟩ := h.suf
  unfold NmE.n
  rw [← hp, List.length_append, Nat.add_sub_cancel, List.drop_left]
theorem Nm.cell {e : NmE} (ok : NmOk e) {w : World} {l : List Item} (h : Nm e w l) (hl : l ≠ []) : w.cell? ⟨e.g, e.o + (e.n - l.length), none⟩ = some (.int .i32 (chOf l)) := by
  have h0 : 0 < l.length := List.length_pos_iff.2 hl
  have hle := h.len
  have hr := ok.row (e.n - l.length) (by omega)
  rw [h.at_] at hr
  exact (h.base.cell (World.block_lt_of_cell? e.w0 _ hr)).trans hr
theorem Nm.range {e : NmE} (ok : NmOk e) {w : World} {l : List Item} (h : Nm e w l) : -1 ≤ chOf l ∧ chOf l ≤ 1114111 :=
  Rng.ch fun c hc => ok.rng c (h.suf.mem hc)
theorem Nm.step {e : NmE} (ok : NmOk e) {w : World} {l : List Item} (h : Nm e w l) (k : Nat) (hk : k ≤ l.length) {z : Int} (hz : z = ((e.n - l.length : Nat) : Int) + k) :
    Nm e (w.setCell ⟨e.b + 1, 0, none⟩ (.int .i64 z)) (l.drop k) ∧ Mv (e.b + 1) w (w.setCell ⟨e.b + 1, 0, none⟩ (.int .i64 z)) := by
  subst hz
  have hl := h.len
  have hm : Mv (e.b + 1) w (w.setCell ⟨e.b + 1, 0, none⟩ (.int .i64 (((e.n - l.length : Nat) : Int) + k))) := Mv.set _ _ _ _
  have hb := ok.b
  refine ⟨⟨?_, ?_, ?_, ?_, h.base.setCell (by show e.w0.heap.size ≤ e.b + 1; omega) _, (List.drop_suffix k l).trans h.suf⟩, hm⟩
  · exact (hm.block e.b (lt_of_heap h.bT) (by omega)).trans h.bT
  · have := Go.Lib.heap_setCell_same (i := 0) h.bA (.int .i64 (((e.n - l.length : Nat) : Int) + k))
    rw [this]
    have e1 : ((e.n - (l.drop k).length : Nat) : Int) = ((e.n - l.length : Nat) : Int) + k := by rw [List.length_drop]; omega
    rw [e1]
    rfl
  · exact (hm.block (e.b + 2) (lt_of_heap h.bP) (by omega)).trans h.bP
  · exact (hm.block (e.b + 3) (lt_of_heap h.bD) (by omega)).trans h.bD
theorem Nm.cells {e : NmE} {w : World} {l : List Item} (h : Nm e w l) :
    w.cell? ⟨e.b, 0, none⟩ = some (.slice (some ⟨e.g, e.o, none⟩) e.n e.c) ∧ w.cell? ⟨e.b + 1, 0, none⟩ = some (.int .i64 ((e.n - l.length : Nat) : Int)) ∧
    w.cell? ⟨e.b + 2, 0, none⟩ = some (.func (.func 102) #[] #[.pointer (some ⟨e.b + 1, 0, none⟩), .pointer (some ⟨e.b, 0, none⟩)]) ∧ w.frozen? ⟨e.b + 1, 0, none⟩ = false ∧
    w.cell? ⟨e.b + 3, 0, none⟩ = some (.func (.func 103) #[] #[.pointer (some ⟨e.b + 2, 0, none⟩), .pointer (some ⟨e.b + 1, 0, none⟩)]) :=
  ⟨(cell_of_heap h.bT 0).trans rfl, (cell_of_heap h.bA 0).trans rfl, (cell_of_heap h.bP 0).trans rfl, frozen_of_heap h.bA 0, (cell_of_heap h.bD 0).trans rfl⟩
set_option maxRecDepth 100000 in
theorem npeek (e : NmE) (ok : NmOk e) (w : World) (l : List Item) (h : Nm e w l) :
    Calls Tryd.prog 102 #[.pointer (some ⟨e.b + 1, 0, none⟩), .pointer (some ⟨e.b, 0, none⟩)] w fun en w' => en = .returned (.int .i32 (chOf l)) ∧ w' = w := by
  obtain ⟨c0, c1, -, -, -⟩ := h.cells
  have hc := ok.cap
  have hs := ok.small
  have hl := h.len
  obtain ⟨b, hb⟩ : ∃ b, e.b = b := ⟨_, rfl⟩
  obtain ⟨N, hN⟩ : ∃ b, e.n = b := ⟨_, rfl⟩
  obtain ⟨i, hi⟩ : ∃ i, N - l.length = i := ⟨_, rfl⟩
  rw [hb, hN] at c0
  rw [hb, hN, hi] at c1
  rw [hN] at hc hl hs
  rw [hb]
  by_cases h0 : l = []
  · subst h0
    have hi2 : i = N := by simpa using hi.symm
    subst hi2
    clear h ok
    go_enter Tryd.func102, Tryd.ntmps102
    go_wp2_with (fail)
    go_ret
    exact ⟨rfl, rfl⟩
  · have x0 := h.cell ok h0
    have h1 : 0 < l.length := List.length_pos_iff.2 h0
    rw [hN, hi] at x0
    have hlt : i < N := by omega
    clear h ok h0 h1 hl
    go_enter Tryd.func102, Tryd.ntmps102
    go_wp2_with (fail)
    go_ret
    exact ⟨rfl, rfl⟩
def DigPost (e : NmE) (w : World) (r : Option (List Item × Nat)) (en : Ending) (w' : World) : Prop :=
  Mv (e.b + 1) w w' ∧ match r with
  | some (l', n) => en = .returned (.tuple #[.int .i64 (n : Nat), .bool true]) ∧ Nm e w' l'
  | none => ∃ (n : Nat) (l' : List Item), en = .returned (.tuple #[.int .i64 (n : Nat), .bool false]) ∧ Nm e w' l' ∧ n ≤ e.n
set_option maxRecDepth 100000 in
set_option maxHeartbeats 800000 in
theorem ndigits (e : NmE) (ok : NmOk e) (b : Int) (hb : 2 ≤ b ∧ b ≤ 16) (p : Bool) (w : World) (l : List Item) (h : Nm e w l) :
    Calls Tryd.prog 103 #[.int .i64 b, .bool p, .pointer (some ⟨e.b + 2, 0, none⟩), .pointer (some ⟨e.b + 1, 0, none⟩)] w (DigPost e w (sdig b l p)) := by
  obtain ⟨q, hq⟩ : ∃ q, e.b = q := ⟨_, rfl⟩
  rw [hq]
  have HQ := Lib.hid hq
  have OK := Lib.hid ok
  have H0 := Lib.hid h
  have hsm := ok.small
  have hle := h.len
  obtain ⟨N, hN⟩ : ∃ N, e.n = N := ⟨_, rfl⟩
  rw [hN] at hsm hle
  have HN := Lib.hid hN
  clear hq ok h hN
  go_enter Tryd.func103, Tryd.ntmps103
  go_wp2_with (fail)
  go_loopg [6] l.length (fun kk u wr => ∃ (l1 : List Item) (n1 : Nat), l1.length ≤ kk ∧ n1 + l1.length ≤ N ∧ u = .int .i64 (n1 : Nat) ∧ Nm e wr l1 ∧ Mv (e.b + 1) w wr ∧ sdig b l p = (sdig b l1 (p || decide (0 < n1))).map fun x => (x.1, x.2 + n1))
  case atStart =>
    refine ⟨l, 0, Nat.le_refl _, by omega, rfl, H0.out, Mv.refl _ _, ?_⟩
    simp
  case round =>
    obtain ⟨l1, n1, hk, hnl, rfl, hs, hm, hd⟩ := hrel
    have hr := hs.range OK.out
    have HD := Lib.hid (And.intro hk (And.intro hm hd))
    have HS := Lib.hid hs
    obtain ⟨c0, c1, c2, fz, c3⟩ := hs.cells
    obtain ⟨i, hi⟩ : ∃ i, N - l1.length = i := ⟨_, rfl⟩
    rw [HQ.out, HN.out, hi] at c1
    rw [HQ.out] at c0 c2 c3 fz
    have hib : (i : Int) ≤ 10000000000 := by omega
    have hP : Calls Tryd.prog 102 #[.pointer (some ⟨q + 1, 0, none⟩), .pointer (some ⟨q, 0, none⟩)] wr fun en w' => en = .returned (.int .i32 (chOf l1)) ∧ w' = wr := by have := npeek e OK.out wr l1 hs; rw [HQ.out] at this; exact this
    have HP := Lib.hid hP
    have HG := Lib.hid (digitOf_spec wr (chOf l1) hr)
    obtain ⟨v, hv⟩ : ∃ v, dgOf (chOf l1) = v := ⟨_, rfl⟩
    have hv16 := dgOf_le (chOf l1)
    rw [hv] at HG hv16
    have hn1 : (n1 : Int) ≤ 10000000000 := by omega
    have HHL := Lib.hid hnl
    clear hk hs hm hd hP hsm hle hnl
    by_cases h95 : chOf l1 = 95
    · have b95 : (chOf l1 == 95) = true := beq_iff_eq.2 h95
      have hne : l1 ≠ [] := by rintro rfl; rw [chOf_nil] at h95; cases h95
      cases l1 with
      | nil => exact absurd rfl hne
      | cons c l2 =>
        have hc95 : (c.r : Int) = 95 := h95
        have hsd : ∀ p', sdig b (c :: l2) p' = if p' = true ∧ dgOf (chOf l2) < b then sdig b l2 true else none := fun p' => by
          conv => lhs; unfold sdig
          rw [if_pos hc95]
        obtain ⟨st, mv⟩ := HS.out.step OK.out 1 (by simp) (z := (i : Int) + 1) (by rw [HN.out, hi]; rfl)
        rw [List.drop_one, List.tail_cons] at st
        rw [HQ.out] at st mv
        have HST := Lib.hid (And.intro st (And.intro mv hsd))
        have HI := Lib.hid hi
        clear st mv hne hsd hi h95
        by_cases hp : p = false ∧ n1 = 0
        · obtain ⟨rfl, rfl⟩ := hp
          go_wp2_with (first
            | (go_at_call 102; refine (HP.out).mono ?_; rintro en w1 ⟨rfl, rfl⟩))
          refine bodyPost_ret (v := .tuple #[.int .i64 ((0 : Nat) : Int), .bool false]) (by simp [results, Tryd.results103, go_sem]) rfl ?_
          obtain ⟨hk, hm, hd⟩ := HD.out
          rw [HST.out.2.2] at hd
          rw [hd, if_neg (by simp)]
          exact ⟨hm, 0, _, rfl, HS.out, Nat.zero_le _⟩
        · have hpp : (p || decide (0 < n1)) = true := by
            cases p with
            | true => rfl
            | false => have h0 : n1 ≠ 0 := fun h => hp ⟨rfl, h⟩
                       simp; omega
          have hq2 : ∀ (w2 : World), Nm e w2 l2 → Calls Tryd.prog 102 #[.pointer (some ⟨q + 1, 0, none⟩), .pointer (some ⟨q, 0, none⟩)] w2 fun en w' => en = .returned (.int .i32 (chOf l2)) ∧ w' = w2 := fun w2 h2 => by have := npeek e OK.out w2 l2 h2; rw [HQ.out] at this; exact this
          have HP2 := Lib.hid hq2
          have HR2 := Lib.hid (HST.out.1.range OK.out)
          obtain ⟨v2, hv2⟩ : ∃ v, dgOf (chOf l2) = v := ⟨_, rfl⟩
          have HV2 := Lib.hid hv2
          clear hq2 hv2 hv
          have hgo : ((n1 : Int) == 0) = false ∨ (((n1 : Int) == 0) = true ∧ p = true) := by
            by_cases h0 : n1 = 0
            · right; exact ⟨by rw [h0]; rfl, by cases p with | true => rfl | false => exact absurd ⟨rfl, h0⟩ hp⟩
            · left; exact beq_eq_false_iff_ne.2 (by omega)
          have HPP := Lib.hid hpp
          have HD' := HD.out.2.2
          rw [HST.out.2.2, HPP.out] at HD'
          have HD2 := Lib.hid HD'
          clear hpp hp HD'
          by_cases hlt : v2 < b
          · have hne2 : l2 ≠ [] := by rintro rfl; have := HV2.out; rw [chOf_nil, dgOf_end] at this; omega
            cases l2 with
            | nil => exact absurd rfl hne2
            | cons cx l3 =>
              rcases hgo with hgo | ⟨hgo, rfl⟩
              all_goals
                go_upto_region 5 with (first
                  | (go_at_call 102; refine (HP.out).mono ?_; rintro en w1 ⟨rfl, rfl⟩))
                have hn2 := HST.out.1
                have hm2 := HST.out.2.1
                obtain ⟨w2, hw2⟩ : ∃ w2, w1.setCell ⟨q + 1, 0, none⟩ (.int .i64 ((i : Int) + 1)) = w2 := ⟨_, rfl⟩
                rw [hw2] at hn2 hm2 ⊢
                obtain ⟨c0, c1, c2', fz, c3⟩ := hn2.cells
                rw [HQ.out, HN.out, show N - (cx :: l3).length = i + 1 by have := HI.out; have := HHL.out; simp only [List.length_cons] at *; omega] at c1
                rw [HQ.out] at c0 c2' c3 fz
                obtain ⟨st2, mv2⟩ := hn2.step OK.out 1 (by simp) (z := (i : Int) + 1 + 1) (by rw [HN.out]; have := HI.out; have := HHL.out; simp only [List.length_cons] at *; omega)
                rw [List.drop_one, List.tail_cons] at st2
                rw [HQ.out] at st2 mv2
                have HF := Lib.hid (And.intro hn2 (And.intro hm2 (And.intro st2 mv2)))
                clear hn2 hm2 st2 mv2 hw2 HS HST HP
                go_wp2_with (first
                  | (go_at_call 102; refine (HP2.out _ HF.out.1).mono ?_; rintro en w3 ⟨rfl, rfl⟩)
                  | (go_at_call 104; refine (digitOf_spec _ _ HR2.out).mono ?_; rw [HV2.out]; rintro en w3 ⟨rfl, rfl⟩))
                obtain ⟨hk, hm, -⟩ := HD.out
                have hd := HD2.out
                rw [if_pos ⟨by trivial, by rw [HV2.out]; exact hlt⟩] at hd
                go_roundg l3.length
                case measure => simp only [List.length_cons] at hk; omega
                case rel =>
                  refine ⟨l3, n1 + 1, Nat.le_refl _, by have := HHL.out; simp only [List.length_cons] at this; omega, by go_num, HF.out.2.2.1, by rw [HQ.out] at hm ⊢; exact (hm.trans HF.out.2.1).trans HF.out.2.2.2, ?_⟩
                  have hsd : sdig b (cx :: l3) true = (sdig b l3 true).map fun x => (x.1, x.2 + 1) := by
                    have hcx : dgOf (cx.r : Int) < b := by have := HV2.out; rw [← this] at hlt; exact hlt
                    have hcn : ¬ (cx.r : Int) = 95 := by intro e; rw [e, dgOf_95] at hcx; omega
                    conv => lhs; unfold sdig
                    rw [if_neg hcn, if_pos hcx]
                  rw [hd, hsd, show ∀ p : Bool, (p || decide (0 < n1 + 1)) = true from fun p => by simp]
                  simp only [Option.map_map]
                  congr 1
                  funext x
                  simp only [Function.comp, Nat.add_assoc, Nat.add_comm 1 n1]
          · rcases hgo with hgo | ⟨hgo, rfl⟩
            all_goals
              go_upto_region 5 with (first
                | (go_at_call 102; refine (HP.out).mono ?_; rintro en w1 ⟨rfl, rfl⟩))
              have hn2 := HST.out.1
              have hm2 := HST.out.2.1
              obtain ⟨w2, hw2⟩ : ∃ w2, w1.setCell ⟨q + 1, 0, none⟩ (.int .i64 ((i : Int) + 1)) = w2 := ⟨_, rfl⟩
              rw [hw2] at hn2 hm2 ⊢
              obtain ⟨c0, c1, c2', fz, c3⟩ := hn2.cells
              rw [HQ.out] at c0 c1 c2' c3 fz
              have HF := Lib.hid (And.intro hn2 hm2)
              clear hn2 hm2 hw2 HS HST HP
              go_wp2_with (first
                | (go_at_call 102; refine (HP2.out _ HF.out.1).mono ?_; rintro en w3 ⟨rfl, rfl⟩)
                | (go_at_call 104; refine (digitOf_spec _ _ HR2.out).mono ?_; rw [HV2.out]; rintro en w3 ⟨rfl, rfl⟩))
              refine bodyPost_ret (v := .tuple #[.int .i64 (n1 : Int), .bool false]) (by simp [results, Tryd.results103, go_sem]) rfl ?_
              obtain ⟨hk, hm, -⟩ := HD.out
              have hd := HD2.out
              rw [if_neg (by rw [HV2.out]; rintro ⟨-, h⟩; exact absurd h (by omega))] at hd
              rw [hd]
              exact ⟨by rw [HQ.out] at hm ⊢; exact hm.trans HF.out.2, n1, _, rfl, HF.out.1, by rw [HN.out]; have := HHL.out; omega⟩
    · have b95 : (chOf l1 == 95) = false := beq_eq_false_iff_ne.2 h95
      by_cases hlt : v < b
      · have hne : l1 ≠ [] := by rintro rfl; rw [chOf_nil] at hv; rw [dgOf_end] at hv; omega
        cases l1 with
        | nil => exact absurd rfl hne
        | cons c l2 =>
          obtain ⟨st, mv⟩ := HS.out.step OK.out 1 (by simp) (z := (i : Int) + 1) (by rw [HN.out, hi]; rfl)
          rw [List.drop_one, List.tail_cons] at st
          rw [HQ.out] at st mv
          have hsd : ∀ p', sdig b (c :: l2) p' = (sdig b l2 true).map fun x => (x.1, x.2 + 1) := fun p' => by
            conv => lhs; unfold sdig
            rw [if_neg (show ¬ (c.r : Int) = 95 from h95), if_pos (show dgOf (c.r : Int) < b from by rw [← hv] at hlt; exact hlt)]
          have HST := Lib.hid (And.intro st (And.intro mv hsd))
          clear st mv hne hsd hi
          go_wp2_with (first
            | (go_at_call 102; refine (HP.out).mono ?_; rintro en w1 ⟨rfl, rfl⟩)
            | (go_at_call 104; refine (HG.out).mono ?_; rintro en w1 ⟨rfl, rfl⟩))
          obtain ⟨hk, hm, hd⟩ := HD.out
          obtain ⟨st, mv, hsd⟩ := HST.out
          go_roundg l2.length
          case measure => simp only [List.length_cons] at hk; omega
          case rel =>
            refine ⟨l2, n1 + 1, Nat.le_refl _, by have := HHL.out; simp only [List.length_cons] at this; omega, by go_num, st, by rw [HQ.out] at hm ⊢; exact hm.trans mv, ?_⟩
            rw [hd, hsd, show (p || decide (0 < n1 + 1)) = true by simp]
            simp only [Option.map_map]
            congr 1
            funext x
            simp only [Function.comp, Nat.add_assoc, Nat.add_comm 1 n1]
      · go_wp2_with (first
          | (go_at_call 102; refine (HP.out).mono ?_; rintro en w1 ⟨rfl, rfl⟩)
          | (go_at_call 104; refine (HG.out).mono ?_; rintro en w1 ⟨rfl, rfl⟩))
        refine bodyPost_ret (v := .tuple #[.int .i64 (n1 : Int), .bool true]) (by simp [results, Tryd.results103, go_sem]) rfl ?_
        obtain ⟨hk, hm, hd⟩ := HD.out
        have hsd : ∀ p', sdig b l1 p' = some (l1, 0) := fun p' => by
          cases l1 with
          | nil => unfold sdig; rfl
          | cons c l2 =>
            unfold sdig
            rw [if_neg (show ¬ (c.r : Int) = 95 from h95), if_neg (show ¬ dgOf (c.r : Int) < b from by rw [← hv] at hlt; exact Int.not_lt.2 hlt)]
        rw [hsd] at hd
        rw [hd]
        refine ⟨hm, ?_⟩
        exact ⟨by simp, HS.out⟩
end Go.Proofs.YtmfihkgbfoapaaaDoor
namespace Go.Proofs.YtmfihkgbfoapaaaDoor
set_option linter.unusedVariables false
set_option linter.unusedSimpArgs false
open Go Go.RowKit Go.Lib Go.BigFrame Go.Proofs.YtmfihkgbfoapaaaDoorW.PrintWords
set_option maxRecDepth 100000 in
theorem nend (e : NmE) (ok : NmOk e) (k : Int) (w : World) (l : List Item) (h : Nm e w l) :
    Calls Tryd.prog 106 #[.int .i64 k, .pointer (some ⟨e.b + 1, 0, none⟩), .pointer (some ⟨e.b, 0, none⟩)] w fun en w' => en = .returned (.int .i64 (send k l)) ∧ w' = w := by
  obtain ⟨c0, c1, -, -, -⟩ := h.cells
  have hl := h.len
  obtain ⟨b, hb⟩ : ∃ b, e.b = b := ⟨_, rfl⟩
  obtain ⟨N, hN⟩ : ∃ b, e.n = b := ⟨_, rfl⟩
  rw [hb, hN] at c0 c1
  rw [hN] at hl
  rw [hb]
  unfold send
  by_cases h0 : l = []
  · subst h0
    rw [if_pos rfl]
    have hc : (((N - ([] : List Item).length : Nat) : Int) == (N : Int)) = true := by simp
    rw [show N - ([] : List Item).length = N by simp] at c1
    clear h ok hc hl
    go_enter Tryd.func106, Tryd.ntmps106
    go_wp2_with (fail)
    go_ret
    exact ⟨rfl, rfl⟩
  · rw [if_neg h0]
    have h1 : 0 < l.length := List.length_pos_iff.2 h0
    have hc : (((N - l.length : Nat) : Int) == (N : Int)) = false := beq_eq_false_iff_ne.2 (by omega)
    clear h ok h0 h1
    obtain ⟨i, hi⟩ : ∃ i, N - l.length = i := ⟨_, rfl⟩
    rw [hi] at c1 hc
    go_enter Tryd.func106, Tryd.ntmps106
    go_wp2_with (fail)
    go_ret
    exact ⟨rfl, rfl⟩
def ExpPost (e : NmE) (w : World) (r : Option (List Item × Bool)) (en : Ending) (w' : World) : Prop :=
  Mv (e.b + 1) w w' ∧ match r with
  | some (l', had) => en = .returned (.tuple #[.bool had, .bool true]) ∧ Nm e w' l'
  | none => ∃ (had : Bool) (l' : List Item), en = .returned (.tuple #[.bool had, .bool false]) ∧ Nm e w' l'
theorem npeekq {e : NmE} (ok : NmOk e) {q : Nat} (hq : e.b = q) (w : World) (l : List Item) (h : Nm e w l) :
    Calls Tryd.prog 102 #[.pointer (some ⟨q + 1, 0, none⟩), .pointer (some ⟨q, 0, none⟩)] w fun en w' => en = .returned (.int .i32 (chOf l)) ∧ w' = w := by
  subst hq; exact npeek e ok w l h
theorem ndigitsq {e : NmE} (ok : NmOk e) {q : Nat} (hq : e.b = q) (b : Int) (hb : 2 ≤ b ∧ b ≤ 16) (p : Bool) (w : World) (l : List Item) (h : Nm e w l) :
    Calls Tryd.prog 103 #[.int .i64 b, .bool p, .pointer (some ⟨q + 2, 0, none⟩), .pointer (some ⟨q + 1, 0, none⟩)] w (DigPost e w (sdig b l p)) := by
  subst hq; exact ndigits e ok b hb p w l h
theorem Nm.cellsq {e : NmE} {q i : Nat} (hq : e.b = q) {w : World} {l : List Item} (hi : e.n - l.length = i) (h : Nm e w l) :
    w.cell? ⟨q, 0, none⟩ = some (.slice (some ⟨e.g, e.o, none⟩) e.n e.c) ∧ w.cell? ⟨q + 1, 0, none⟩ = some (.int .i64 (i : Int)) ∧
    w.cell? ⟨q + 2, 0, none⟩ = some (.func (.func 102) #[] #[.pointer (some ⟨q + 1, 0, none⟩), .pointer (some ⟨q, 0, none⟩)]) ∧ w.frozen? ⟨q + 1, 0, none⟩ = false ∧
    w.cell? ⟨q + 3, 0, none⟩ = some (.func (.func 103) #[] #[.pointer (some ⟨q + 2, 0, none⟩), .pointer (some ⟨q + 1, 0, none⟩)]) := by
  subst hq hi; exact h.cells
theorem Nm.stepq {e : NmE} (ok : NmOk e) {q i : Nat} (hq : e.b = q) {w : World} {c : Item} {l : List Item} (hi : e.n - (c :: l).length = i) (h : Nm e w (c :: l)) :
    Nm e (w.setCell ⟨q + 1, 0, none⟩ (.int .i64 ((i : Int) + 1))) l ∧ Mv (e.b + 1) w (w.setCell ⟨q + 1, 0, none⟩ (.int .i64 ((i : Int) + 1))) ∧ e.n - l.length = i + 1 := by
  subst hq hi
  obtain ⟨h1, h2⟩ := h.step ok 1 (by simp) (z := ((e.n - (c :: l).length : Nat) : Int) + 1) rfl
  have hl := h.len
  simp only [List.length_cons] at hl
  exact ⟨h1, h2, by simp only [List.length_cons]; omega⟩
theorem Nm.ib {e : NmE} (ok : NmOk e) {i : Nat} {l : List Item} (hi : e.n - l.length = i) : (i : Int) ≤ 10000000000 := by have := ok.small; omega
set_option maxRecDepth 100000 in
set_option maxHeartbeats 6400000 in
theorem nexp (e : NmE) (ok : NmOk e) (s g : Int) (hs : 0 < s) (hg : 0 < g) (w : World) (l : List Item) (h : Nm e w l) :
    Calls Tryd.prog 105 #[.int .i32 s, .int .i32 g, .pointer (some ⟨e.b + 2, 0, none⟩), .pointer (some ⟨e.b + 1, 0, none⟩), .pointer (some ⟨e.b + 3, 0, none⟩)] w (ExpPost e w (sexp s g l)) := by
  obtain ⟨q, hq⟩ : ∃ q, e.b = q := ⟨_, rfl⟩
  rw [hq]
  obtain ⟨i, hi⟩ : ∃ i, e.n - l.length = i := ⟨_, rfl⟩
  obtain ⟨c0, c1, c2, fz, c3⟩ := h.cellsq hq hi
  have hib := Nm.ib ok hi
  have HQ := Lib.hid hq
  have OK := Lib.hid ok
  have H0 := Lib.hid h
  have HI := Lib.hid hi
  have HP := Lib.hid (npeekq ok hq w l h)
  clear hq ok h hi
  by_cases h1 : chOf l = s ∨ chOf l = g
  · have hne : l ≠ [] := by rintro rfl; rw [chOf_nil] at h1; omega
    cases l with
    | nil => exact absurd rfl hne
    | cons c l1 =>
      obtain ⟨st, mv, hi2⟩ := H0.out.stepq OK.out HQ.out HI.out
      have b1 : (chOf (c :: l1) != s) = false ∨ ((chOf (c :: l1) != s) = true ∧ (chOf (c :: l1) != g) = false) := by
        by_cases e1 : chOf (c :: l1) = s
        · left; rw [e1]; simp
        · right; exact ⟨bne_iff_ne.2 e1, by rcases h1 with h1 | h1; exact absurd h1 e1; rw [h1]; simp⟩
      have HS := Lib.hid h1
      have HST := Lib.hid (And.intro st (And.intro mv hi2))
      clear st mv hi2 h1 hne
      rcases b1 with b1 | ⟨b1, b2⟩
      all_goals
        go_enter Tryd.func105, Tryd.ntmps105
        go_upto_region 4 with (go_at_call 102; refine (HP.out).mono ?_; rintro en w1 ⟨rfl, rfl⟩)
        obtain ⟨hn2, hm2, hi2⟩ := HST.out
        obtain ⟨w2, hw2⟩ : ∃ w2, w1.setCell ⟨q + 1, 0, none⟩ (.int .i64 ((i : Int) + 1)) = w2 := ⟨_, rfl⟩
        rw [hw2] at hn2 hm2 ⊢
        obtain ⟨c0, c1, c2, fz, c3⟩ := hn2.cellsq HQ.out hi2
        have hib := Nm.ib OK.out hi2
        have HP2 := Lib.hid (npeekq OK.out HQ.out w2 l1 hn2)
        have HM := Lib.hid (And.intro hm2 (And.intro hn2 hi2))
        clear hw2 hm2 hn2 hi2 HST HP
        by_cases hsg : chOf l1 = 43 ∨ chOf l1 = 45
        · have hb3 : (chOf l1 == 43) = true ∨ ((chOf l1 == 43) = false ∧ (chOf l1 == 45) = true) := by
            rcases hsg with e | e
            · left; rw [e]; rfl
            · right; rw [e]; exact ⟨rfl, rfl⟩
          have hne : l1 ≠ [] := by rintro rfl; rw [chOf_nil] at hsg; omega
          cases l1 with
          | nil => exact absurd rfl hne
          | cons cx l2 =>
            obtain ⟨st, mv, hi3⟩ := HM.out.2.1.stepq OK.out HQ.out HM.out.2.2
            have HSG := Lib.hid (show (if chOf (c :: cx :: l2).tail = 43 ∨ chOf (c :: cx :: l2).tail = 45 then (c :: cx :: l2).tail.tail else (c :: cx :: l2).tail) = l2 from if_pos hsg)
            have HST := Lib.hid (And.intro st (And.intro mv hi3))
            clear st mv hi3 hsg hne
            rcases hb3 with hb3 | ⟨hb3, hb4⟩
            all_goals
              go_upto_region 6 with (go_at_call 102; refine (HP2.out).mono ?_; rintro en w2 ⟨rfl, rfl⟩)
              obtain ⟨hn3, hm3, hi3⟩ := HST.out
              obtain ⟨w3, hw3⟩ : ∃ w3, w2.setCell ⟨q + 1, 0, none⟩ (.int .i64 (((i + 1 : Nat) : Int) + 1)) = w3 := ⟨_, rfl⟩
              have hw3' := hw3
              rw [show (((i + 1 : Nat) : Int) + 1) = (i : Int) + 1 + 1 by omega] at hw3'
              rw [hw3] at hn3 hm3
              rw [hw3']
              obtain ⟨c0, c1, c2, fz, c3⟩ := hn3.cellsq HQ.out hi3
              have HF := Lib.hid (And.intro hn3 hm3)
              clear hw3 hw3' hm3 hn3 hi3 HST HP2
              cases hsd : sdig 10 l2 false with
              | none =>
                have HDg := Lib.hid (ndigitsq OK.out HQ.out 10 (by decide) false _ l2 HF.out.1)
                rw [hsd] at HDg
                go_wp2_with (go_at_call 103; refine (HDg.out).mono ?_; rintro en w4 ⟨hm4, n4, l4, rfl, hn4, -⟩; have H4 := Lib.hid (And.intro hm4 hn4); clear hm4 hn4)
                rw [show sexp s g (c :: cx :: l2) = none by unfold sexp; rw [if_pos HS.out, HSG.out, hsd]]
                refine bodyPost_ret (v := .tuple #[.bool true, .bool false]) (by simp [results, Tryd.results105, go_sem]) rfl ?_
                exact ⟨(HM.out.1.trans HF.out.2).trans H4.out.1, true, _, rfl, H4.out.2⟩
              | some x =>
                obtain ⟨l', n⟩ := x
                by_cases hn : n = 0
                · subst hn
                  have HDg := Lib.hid (ndigitsq OK.out HQ.out 10 (by decide) false _ l2 HF.out.1)
                  rw [hsd] at HDg
                  go_wp2_with (go_at_call 103; refine (HDg.out).mono ?_; rintro en w4 ⟨hm4, rfl, hn4⟩; have H4 := Lib.hid (And.intro hm4 hn4); clear hm4 hn4)
                  rw [show sexp s g (c :: cx :: l2) = none by unfold sexp; rw [if_pos HS.out, HSG.out, hsd]; rfl]
                  refine bodyPost_ret (v := .tuple #[.bool true, .bool false]) (by simp [results, Tryd.results105, go_sem]) rfl ?_
                  exact ⟨(HM.out.1.trans HF.out.2).trans H4.out.1, true, _, rfl, H4.out.2⟩
                · have hpos : decide ((0 : Int) < (n : Int)) = true := decide_eq_true (by omega)
                  have hneb : ((n : Int) == 0) = false := beq_eq_false_iff_ne.2 (by omega)
                  have HDg := Lib.hid (ndigitsq OK.out HQ.out 10 (by decide) false _ l2 HF.out.1)
                  rw [hsd] at HDg
                  go_wp2_with (go_at_call 103; refine (HDg.out).mono ?_; rintro en w4 ⟨hm4, rfl, hn4⟩; have H4 := Lib.hid (And.intro hm4 hn4); clear hm4 hn4)
                  rw [show sexp s g (c :: cx :: l2) = some (l', true) by unfold sexp; rw [if_pos HS.out, HSG.out, hsd]; simp only; rw [if_neg hn]]
                  refine bodyPost_ret (v := .tuple #[.bool true, .bool true]) (by simp [results, Tryd.results105, go_sem]; omega) rfl ?_
                  exact ⟨(HM.out.1.trans HF.out.2).trans H4.out.1, rfl, H4.out.2⟩
        · have hb3 : (chOf l1 == 43) = false := beq_eq_false_iff_ne.2 (fun e => hsg (.inl e))
          have hb4 : (chOf l1 == 45) = false := beq_eq_false_iff_ne.2 (fun e => hsg (.inr e))
          have HSG := Lib.hid (show (if chOf (c :: l1).tail = 43 ∨ chOf (c :: l1).tail = 45 then (c :: l1).tail.tail else (c :: l1).tail) = l1 from if_neg hsg)
          have HF := Lib.hid (And.intro HM.out.2.1 HM.out.1)
          clear hsg
          go_upto_region 6 with (go_at_call 102; refine (HP2.out).mono ?_; rintro en w2 ⟨rfl, rfl⟩)
          cases hsd : sdig 10 l1 false with
          | none =>
            have HDg := Lib.hid (ndigitsq OK.out HQ.out 10 (by decide) false _ l1 HF.out.1)
            rw [hsd] at HDg
            go_wp2_with (go_at_call 103; refine (HDg.out).mono ?_; rintro en w4 ⟨hm4, n4, l4, rfl, hn4, -⟩; have H4 := Lib.hid (And.intro hm4 hn4); clear hm4 hn4)
            rw [show sexp s g (c :: l1) = none by unfold sexp; rw [if_pos HS.out, HSG.out, hsd]]
            refine bodyPost_ret (v := .tuple #[.bool true, .bool false]) (by simp [results, Tryd.results105, go_sem]) rfl ?_
            exact ⟨HF.out.2.trans H4.out.1, true, _, rfl, H4.out.2⟩
          | some x =>
            obtain ⟨l', n⟩ := x
            by_cases hn : n = 0
            · subst hn
              have HDg := Lib.hid (ndigitsq OK.out HQ.out 10 (by decide) false _ l1 HF.out.1)
              rw [hsd] at HDg
              go_wp2_with (go_at_call 103; refine (HDg.out).mono ?_; rintro en w4 ⟨hm4, rfl, hn4⟩; have H4 := Lib.hid (And.intro hm4 hn4); clear hm4 hn4)
              rw [show sexp s g (c :: l1) = none by unfold sexp; rw [if_pos HS.out, HSG.out, hsd]; rfl]
              refine bodyPost_ret (v := .tuple #[.bool true, .bool false]) (by simp [results, Tryd.results105, go_sem]) rfl ?_
              exact ⟨HF.out.2.trans H4.out.1, true, _, rfl, H4.out.2⟩
            · have hpos : decide ((0 : Int) < (n : Int)) = true := decide_eq_true (by omega)
              have hneb : ((n : Int) == 0) = false := beq_eq_false_iff_ne.2 (by omega)
              have HDg := Lib.hid (ndigitsq OK.out HQ.out 10 (by decide) false _ l1 HF.out.1)
              rw [hsd] at HDg
              go_wp2_with (go_at_call 103; refine (HDg.out).mono ?_; rintro en w4 ⟨hm4, rfl, hn4⟩; have H4 := Lib.hid (And.intro hm4 hn4); clear hm4 hn4)
              rw [show sexp s g (c :: l1) = some (l', true) by unfold sexp; rw [if_pos HS.out, HSG.out, hsd]; simp only; rw [if_neg hn]]
              refine bodyPost_ret (v := .tuple #[.bool true, .bool true]) (by simp [results, Tryd.results105, go_sem]; omega) rfl ?_
              exact ⟨HF.out.2.trans H4.out.1, rfl, H4.out.2⟩
  · have b1 : (chOf l != s) = true := bne_iff_ne.2 (fun e => h1 (.inl e))
    have b2 : (chOf l != g) = true := bne_iff_ne.2 (fun e => h1 (.inr e))
    have hsx : sexp s g l = some (l, false) := by unfold sexp; rw [if_neg h1]
    rw [hsx]
    clear h1 hsx
    go_enter Tryd.func105, Tryd.ntmps105
    go_wp2_with (go_at_call 102; refine (HP.out).mono ?_; rintro en w1 ⟨rfl, rfl⟩)
    refine bodyPost_ret (v := .tuple #[.bool false, .bool true]) (by simp [results, Tryd.results105, go_sem]) rfl ?_
    exact ⟨Mv.refl _ _, rfl, H0.out⟩
end Go.Proofs.YtmfihkgbfoapaaaDoor
