/- Own texts X9 of this claim, cut to what the claim uses. -/
import Derived.Test.YtmfihkgbfoapaaaDoorZX6
import Derived.Test.YtmfihkgbfoapaaaDoorZX5
namespace Go.Proofs.YtmfihkgbfoapaaaDoor
set_option linter.unusedVariables false
set_option linter.unusedSimpArgs false
open Go Go.RowKit Go.Lib Go.BigFrame Go.Proofs.YtmfihkgbfoapaaaDoorW.PrintWords
def runesI (t : List Item) : List Int := t.map fun c => (c.r : Int)
theorem R21_keep {w w1 : World} {base : Nat} {ok : Nat → Prop} {v : Value} {xs : List Int} (h : Kd.R (Kd.int .i32) 21 w base ok v xs) (hk : ∀ (g : Nat) (cs : Array Value), v.ownBlock = some g → w.heap[g]? = some (Obj.cells cs 21 (0, 0)) → w1.heap[g]? = some (Obj.cells cs 21 (0, 0))) : Kd.R (Kd.int .i32) 21 w1 base ok v xs := by
  obtain ⟨h0, inner, ⟨hl, ho⟩, hr⟩ := h
  refine ⟨h0, inner, ⟨hl, ?_⟩, ⟨hr.1, fun j p hp => hr.2 j p hp⟩⟩
  rcases ho with ho | ⟨g, cap, cur, e1, e2, e3, e4⟩
  · exact .inl ho
  · exact .inr ⟨g, cap, cur, e1, e2, hk _ _ (by rw [e1]; rfl) e3, e4⟩
theorem R21_row {w : World} {base : Nat} {ok : Nat → Prop} {v : Value} {t : List Item} (h : Kd.R (Kd.int .i32) 21 w base ok v (runesI t)) (hne : t ≠ []) (hs : t.length ≤ 10000000000) (hr : Rng t) :
    ∃ g o c, v = .slice (some ⟨g, o, none⟩) t.length c ∧ RowAt w g o c t := by
  obtain ⟨A, c, e, hc, hC⟩ := Kd.R_reads h
  have hl : (runesI t).length = t.length := by unfold runesI; rw [List.length_map]
  rw [hl] at e hc hC
  have h0 : 0 < t.length := List.length_pos_iff.2 hne
  obtain ⟨ad, cs, e1, e2, hK, hcell⟩ := Kd.C_get hC 0 0 (by omega) (by omega)
  subst e1
  obtain ⟨g, o, spot⟩ := ad
  have hspot : spot = none := by
    have hK' : cs = [.int .i32 _] := hK
    have h1 := hcell 0 _ (by rw [hK']; rfl)
    simpa [Addr.add] using World.cell?_spot h1
  subst hspot
  refine ⟨g, o, c, e, ⟨fun j hj => ?_, hc, hs, hr, hne⟩⟩
  obtain ⟨ad', cs', e1', e2', hK', hcell'⟩ := Kd.C_get hC 0 (j : Int) (by omega) (by omega)
  injection e1' with e1'
  subst e1'
  have hK2 : cs' = [.int .i32 ((runesI t).getD (j : Int).toNat 0)] := hK'
  have h1 := hcell' 0 _ (by rw [hK2]; rfl)
  have hgd : (runesI t).getD (j : Int).toNat 0 = chOf (t.drop j) := by
    unfold runesI
    rw [Int.toNat_natCast, List.getD_eq_getElem?_getD, List.getElem?_map, List.getElem?_eq_getElem hj, List.drop_eq_getElem_cons hj]
    rfl
  rw [hgd] at h1
  simp only [Int.toNat_natCast, Addr.add_lit] at h1
  have hsz : (Kd.int .i32).sz = 1 := rfl
  rw [hsz] at h1
  simpa using h1
theorem Sp.thru {e : SpE} (ok : SpOk e) {w w1 : World} {mode white : Int} {l : List Item} (h : Sp e w mode white l) {n : Nat} (hq : e.q < n) (hb : Below n w w1) : Sp e w1 mode white l :=
  ⟨(hb.block e.q hq).trans h.blk, h.base.trans (hb.mono (by have := ok.q; omega)), h.suf⟩
theorem Mv.below2 {q : Nat} {w w1 w2 : World} (h : Mv q w w1) (hb : Below w.heap.size w1 w2) : Mv q w w2 :=
  ⟨hb.os.trans h.os, hb.tape.trans h.tape, hb.output.trans h.output, Nat.le_trans h.size hb.size, fun k hk hq => (hb.block k hk).trans (h.block k hk hq)⟩
theorem isq {e : SpE} {q : Nat} (hq : e.q = q) {w : World} {mode white : Int} {l : List Item} (h : Sp e w mode white l) (b : Int) :
    Calls Tryd.prog 59 #[.pointer (some ⟨q, 0, none⟩), .int .i64 b] w fun en w' => en = .returned (.bool (sBit mode b)) ∧ w = w' := by
  subst hq; exact (is_sp e w mode white l h b).mono fun en w' hh => ⟨hh.1, hh.2.symm⟩
theorem has_sgn (c : Int) (w : World) : Calls Tryd.prog 84 #[.string ⟨#[101, 69, 112, 80]⟩, .int .i32 c] w fun e w' => e = .returned (.bool (hasRune ⟨#[101, 69, 112, 80]⟩ 0 c)) ∧ Below w.heap.size w w' := has84 w _ c (by show 4 ≤ 70368744177664; omega)
theorem send_vals (k : Int) (l : List Item) : send k l = 0 ∨ send k l = k := by
  unfold send; split
  · exact .inr rfl
  · exact .inl rfl
theorem numSpec_vals (t : List Item) : numSpec t = 0 ∨ numSpec t = -3 ∨ numSpec t = -4 := by
  have h3 := send_vals (-3)
  have h4 := send_vals (-4)
  have e0 : ∀ x : Int, x = 0 → x = 0 ∨ x = -3 ∨ x = -4 := fun x h => .inl h
  have e3 : ∀ l : List Item, send (-3) l = 0 ∨ send (-3) l = -3 ∨ send (-3) l = -4 := fun l => by have := h3 l; omega
  have e4 : ∀ l : List Item, send (-4) l = 0 ∨ send (-4) l = -3 ∨ send (-4) l = -4 := fun l => by have := h4 l; omega
  unfold numSpec sbin shex sdec
  repeat' split
  all_goals first
    | exact .inl rfl
    | exact e3 _
    | exact e4 _
def NumPost (e : SpE) (w : World) (mode white : Int) (l : List Item) (en : Ending) (w' : World) : Prop :=
  ∃ (k : Int) (sure : Bool), en = .returned (.tuple #[.int .i64 k, .bool sure]) ∧ Mv e.q w w' ∧ ∃ l2, Sp e w' mode white l2 ∧
    (sure = true → (sBit mode 2 = false ∧ sBit mode 4 = false ∧ k = chOf l ∧ l2 = l.tail) ∨
      (∃ t, (sBit mode 2 = true ∨ sBit mode 4 = true) ∧ l = t ++ l2 ∧ StopAt l2 ∧ numSpec t = k ∧ k ≠ 0 ∧ (sBit mode 4 = true ∨ (k = -3 ∧ chOf t ≠ 46))))
set_option maxRecDepth 100000 in
set_option maxHeartbeats 6400000 in
theorem number_sp (e : SpE) (ok : SpOk e) (w : World) (mode white : Int) (l : List Item) (h : Sp e w mode white l) (h0 : isDec (chOf l) = true ∨ chOf l = 46) :
    Calls Tryd.prog 62 #[.pointer (some ⟨e.q, 0, none⟩)] w (NumPost e w mode white l) := by
  have hne : l ≠ [] := by
    rintro rfl
    rcases h0 with h0 | h0
    · cases h0
    · cases h0
  obtain ⟨q, hq⟩ : ∃ q, e.q = q := ⟨_, rfl⟩
  rw [hq]
  obtain ⟨i, hi⟩ : ∃ i, e.n - l.length = i := ⟨_, rfl⟩
  have hib := Sp.ib ok hi
  obtain ⟨c1, fz⟩ := h.cellsq hq hi
  have hqlt : q < w.heap.size := by rw [← hq]; exact lt_of_heap h.blk
  have HQ := Lib.hid hq
  have OK := Lib.hid ok
  have H0 := Lib.hid (And.intro h (And.intro h0 hne))
  have HI := Lib.hid hi
  have HQL := Lib.hid hqlt
  have hsm : l.length ≤ 10000000000 := by have := h.len; have := ok.n_le; omega
  have HSM := Lib.hid hsm
  have IS := Lib.hid (fun b => isq hq h b)
  clear hq ok h hi h0 hqlt hsm
  by_cases hnone : sBit mode 2 = false ∧ sBit mode 4 = false
  · obtain ⟨m2, m4⟩ := hnone
    have HM := Lib.hid (And.intro m2 m4)
    cases l with
    | nil => exact absurd rfl hne
    | cons cx l1 =>
    obtain ⟨st, mv, hi2⟩ := H0.out.1.stepq OK.out HQ.out HI.out
    have hpk := fun (wx : World) (hx : Sp e wx mode white l1) => (peek_at e OK.out wx mode white l1 hx (-1) i (by rw [hi2]; omega) (by decide))
    have hdr := H0.out.1.drop_at
    rw [HI.out] at hdr
    rw [hdr, HQ.out] at hpk
    have HPK := Lib.hid hpk
    have HST := Lib.hid (And.intro st mv)
    clear st mv hpk hdr hne hi2
    go_enter Tryd.func62, Tryd.ntmps62
    go_upto_region 3 with (first
      | (go_at_call 59; refine (IS.out _).mono ?_; rintro en wn ⟨rfl, rfl⟩))
    obtain ⟨w2, hw2⟩ : ∃ w2, w.setCell ⟨q, 1, none⟩ (.int .i64 ((i : Int) + 1)) = w2 := ⟨_, rfl⟩
    have hS := HST.out
    rw [hw2] at hS
    try rw [hw2]
    clear hw2 HST c1 fz
    have S2 := Lib.hid hS
    clear hS
    go_wp2_with (first
      | (go_at_call 57; refine (HPK.out _ S2.out.1).mono ?_; rintro en wn ⟨rfl, hbn⟩; have B := Lib.hid hbn; clear hbn))
    have hwr : wrap64 (chOf (cx :: l1)) = chOf (cx :: l1) := by have := H0.out.1.range; exact wrap64_id (by omega) (by omega)
    refine bodyPost_ret (v := .tuple #[.int .i64 (chOf (cx :: l1)), .bool true]) (by simp [results, Tryd.results62, go_sem, hwr]) rfl ?_
    refine ⟨chOf (cx :: l1), true, rfl, ?_, l1, S2.out.1.old B.out, fun _ => .inl ⟨HM.out.1, HM.out.2, rfl, rfl⟩⟩
    rw [HQ.out]; exact S2.out.2.trans (Mv.of B.out)
  · have hsome : sBit mode 2 = true ∨ (sBit mode 2 = false ∧ sBit mode 4 = true) := by
      cases h2 : sBit mode 2 with
      | true => exact .inl rfl
      | false =>
        cases h4 : sBit mode 4 with
        | true => exact .inr ⟨rfl, rfl⟩
        | false => exact absurd ⟨h2, h4⟩ hnone
    have HSOME := Lib.hid (show sBit mode 2 = true ∨ sBit mode 4 = true by rcases hsome with h | h; exact .inl h; exact .inr h.2)
    clear hnone
    go_enter Tryd.func62, Tryd.ntmps62
    go_upto_region 1 with (fail)
    go_cut [14] (fun u wr => u = .bool false ∧ wr = w)
    case first =>
      rcases hsome with m2 | ⟨m2, m4⟩
      all_goals
        go_wp2_with (first
          | (go_at_call 59; refine (IS.out _).mono ?_; rintro en wn ⟨rfl, rfl⟩))
        go_meet
        exact ⟨rfl, rfl⟩
    case rest =>
    obtain ⟨rfl, hwc⟩ := hcut
    rw [hwc]
    clear hwc hsome
    go_wp2_with (fail)
    go_loopg [4] l.length (fun kk v wr => ∃ (t l1 : List Item), l1.length ≤ kk ∧ l = t ++ l1 ∧ Mv q w wr ∧ Sp e wr mode white l1 ∧ Kd.R (Kd.int .i32) 21 wr w.heap.size (fun k => w.heap.size ≤ k) v (runesI t))
    case atStart => exact ⟨[], l, Nat.le_refl _, rfl, Mv.refl _ _, H0.out.1, Kd.R_nil _ _ _ _ _⟩
    case round =>
      obtain ⟨t, l1, hk, hlt, hm, hs, hR⟩ := hrel
      obtain ⟨j, hj⟩ : ∃ i, e.n - l1.length = i := ⟨_, rfl⟩
      have hib := Sp.ib OK.out hj
      obtain ⟨r, hr⟩ : ∃ r, chOf l1 = r := ⟨_, rfl⟩
      have hrg := hs.range
      rw [hr] at hrg
      obtain ⟨A, cp, hv, hcp, hC⟩ := Kd.R_reads hR
      have hRl : (runesI t).length = t.length := by unfold runesI; rw [List.length_map]
      rw [hRl] at hv hcp
      subst hv
      obtain ⟨tn, htn⟩ : ∃ n, t.length = n := ⟨_, rfl⟩
      have htb : (tn : Int) ≤ 10000000000 := by have h1 := congrArg List.length hlt; rw [List.length_append] at h1; have h2 := HSM.out; omega
      obtain ⟨c1, fz⟩ := hs.cellsq HQ.out hj
      rw [htn] at hR ⊢
      have HT := Lib.hid (And.intro htn (And.intro hk hlt))
      have HI := Lib.hid hj
      have HR := Lib.hid hr
      have S := Lib.hid (And.intro hm (And.intro hs hR))
      clear hk hlt hm hs hR hj hr hRl hC hcp htn
      go_upto_region 6 with (first
        | (go_at_call 57; refine (peekq OK.out HQ.out S.out.2.1 _ (by decide)).mono ?_; (try rw [drop0]); rw [HR.out]; rintro en wn ⟨rfl, hbn⟩; have hS := And.intro (S.out.1.trans (Mv.of hbn)) (And.intro (S.out.2.1.old hbn) (Kd.R_below S.out.2.2 hbn)); clear S hbn; obtain ⟨c1, fz⟩ := hS.2.1.cellsq HQ.out HI.out; have S := Lib.hid hS; clear hS))
      go_cut [6] (fun u wr => ∃ b : Bool, u = .bool b ∧ (b = true → r = 43 ∨ r = 45) ∧ Mv q w wr ∧ Sp e wr mode white l1 ∧ Kd.R (Kd.int .i32) 21 wr w.heap.size (fun k => w.heap.size ≤ k) (.slice A tn cp) (runesI t))
      case first =>
        by_cases hsg : r = 43 ∨ r = 45
        · have hsb : (r == 43) = true ∨ ((r == 43) = false ∧ (r == 45) = true) := by
            rcases hsg with h | h
            · left; rw [h]; rfl
            · right; rw [h]; exact ⟨rfl, rfl⟩
          have HSG := Lib.hid hsg
          clear hsg
          by_cases ht0 : tn = 0
          · subst ht0
            rcases hsb with hsb | ⟨hsb, hsb2⟩
            all_goals
              go_wp2_with (fail)
              go_meet
              exact ⟨false, rfl, (fun h => by cases h), S.out.1, S.out.2.1, S.out.2.2⟩
          · obtain ⟨tm, htm⟩ : ∃ m, tn = m + 1 := ⟨tn - 1, by omega⟩
            obtain ⟨g, o, c', hv, hrow⟩ := R21_row S.out.2.2 (by intro e1; have := HT.out.1; rw [e1] at this; simp at this; omega) (by have := HT.out.1; omega) (fun c hc => items_rune (src := e.src) (by have h1 := H0.out.1.suf; rw [HT.out.2.2] at h1; exact h1.mem (List.mem_append_left _ hc)))
            injection hv with hA hn hc
            subst hA
            have x0 := hrow.row tm (by have := HT.out.1; omega)
            obtain ⟨rx, hrx⟩ : ∃ x, chOf (t.drop tm) = x := ⟨_, rfl⟩
            rw [hrx] at x0
            have hpos : decide ((0 : Int) < (tn : Int)) = true := decide_eq_true (by omega)
            have hsub : ((tn : Int) - 1) = (tm : Int) := by omega
            have hlt2 : tm < tn := by omega
            clear ht0 htm hn hrow hc hrx
            rcases hsb with hsb | ⟨hsb, hsb2⟩
            all_goals
              go_wp2_with (first
                | (go_at_call 84; refine (has_sgn _ _).mono ?_; rintro en wn ⟨rfl, hbn⟩; have hS := And.intro (S.out.1.trans (Mv.of hbn)) (And.intro (S.out.2.1.old hbn) (Kd.R_below S.out.2.2 hbn)); clear S hbn; have S := Lib.hid hS; clear hS))
              go_meet
              exact ⟨_, rfl, fun _ => HSG.out, S.out.1, S.out.2.1, S.out.2.2⟩
        · have h1 : (r == 43) = false := beq_eq_false_iff_ne.2 (fun h => hsg (.inl h))
          have h2 : (r == 45) = false := beq_eq_false_iff_ne.2 (fun h => hsg (.inr h))
          clear hsg
          go_wp2_with (fail)
          go_meet
          exact ⟨false, rfl, (fun h => by cases h), S.out.1, S.out.2.1, S.out.2.2⟩
      case rest =>
        obtain ⟨bs, rfl, hbs, hm, hs, hR⟩ := hcut
        have HBS := Lib.hid hbs
        obtain ⟨c1, fz⟩ := hs.cellsq HQ.out HI.out
        have S := Lib.hid (And.intro hm (And.intro hs hR))
        clear hbs hm hs hR
        go_upto_region 7 with (fail)
        go_cut [71] (fun u wr => ∃ b : Bool, u = .bool b ∧ (b = true → StopAt l1) ∧ (b = false → l1 ≠ []) ∧ Mv q w wr ∧ Sp e wr mode white l1 ∧ Kd.R (Kd.int .i32) 21 wr w.heap.size (fun k => w.heap.size ≤ k) (.slice A tn cp) (runesI t))
        case first =>
          have hcont : r ≠ -1 → l1 ≠ [] := fun h0 hn => by have := HR.out; rw [hn, chOf_nil] at this; omega
          have HCT := Lib.hid hcont
          clear hcont
          cases bs with
          | true =>
            go_wp2_with (fail)
            go_meet
            exact ⟨false, rfl, (fun h => by cases h), fun _ => HCT.out (by have := HBS.out (by trivial); omega), S.out.1, S.out.2.1, S.out.2.2⟩
          | false =>
            by_cases h46 : r = 46
            · subst h46
              go_wp2_with (fail)
              go_meet
              exact ⟨false, rfl, (fun h => by cases h), fun _ => HCT.out (by decide), S.out.1, S.out.2.1, S.out.2.2⟩
            have b46 : (r != 46) = true := bne_iff_ne.2 h46
            obtain ⟨bd, hd⟩ : ∃ b, isDec r = b := ⟨_, rfl⟩
            obtain ⟨bl, hl⟩ : ∃ b, isLet r = b := ⟨_, rfl⟩
            obtain ⟨bu, hu⟩ : ∃ b, isDigitU r = b := ⟨_, rfl⟩
            have HD := Lib.hid hd
            have HL := Lib.hid hl
            have HU := Lib.hid hu
            have H46 := Lib.hid h46
            have HRG := Lib.hid hrg
            clear hd hl hu h46
            cases bd with
            | true =>
              go_wp2_with (first
                | (go_at_call 38; refine (digit_spec _ _).mono ?_; rw [HD.out]; rintro en wn ⟨rfl, rfl⟩))
              go_meet
              exact ⟨false, rfl, (fun h => by cases h), fun _ => HCT.out (by rintro rfl; have := HD.out; cases this), S.out.1, S.out.2.1, S.out.2.2⟩
            | false =>
              cases bl with
              | true =>
                go_wp2_with (first
                  | (go_at_call 38; refine (digit_spec _ _).mono ?_; rw [HD.out]; rintro en wn ⟨rfl, rfl⟩)
                  | (go_at_call 85; refine (isLet_spec _ _ HRG.out (OK.out.uni S.out.2.1)).mono ?_; rw [HL.out]; rintro en wn ⟨rfl, hbn⟩; have hS := And.intro (S.out.1.trans (Mv.of hbn)) (And.intro (S.out.2.1.old hbn) (Kd.R_below S.out.2.2 hbn)); clear S hbn; have S := Lib.hid hS; clear hS))
                go_meet
                exact ⟨false, rfl, (fun h => by cases h), fun _ => HCT.out (by rintro rfl; have := HL.out; cases this), S.out.1, S.out.2.1, S.out.2.2⟩
              | false =>
                have hstop : StopAt l1 := ⟨by rw [HR.out]; exact H46.out, by rw [HR.out]; exact HD.out, by rw [HR.out]; exact HL.out⟩
                have HST := Lib.hid hstop
                clear hstop
                by_cases h0 : 0 ≤ r
                · cases bu with
                  | true =>
                    go_wp2_with (first
                      | (go_at_call 38; refine (digit_spec _ _).mono ?_; rw [HD.out]; rintro en wn ⟨rfl, rfl⟩)
                      | (go_at_call 85; refine (isLet_spec _ _ HRG.out (OK.out.uni S.out.2.1)).mono ?_; rw [HL.out]; rintro en wn ⟨rfl, hbn⟩; have hS := And.intro (S.out.1.trans (Mv.of hbn)) (And.intro (S.out.2.1.old hbn) (Kd.R_below S.out.2.2 hbn)); clear S hbn; have S := Lib.hid hS; clear hS)
                      | (go_at_call 86; refine (Tryd.unicode_IsDigit_all r _ (by have := HRG.out; omega) (by have := HRG.out; omega) ((OK.out.uni S.out.2.1).digit _ (Below.refl _ _))).mono ?_; rw [HU.out]; rintro en wn ⟨rfl, hbn⟩; have hS := And.intro (S.out.1.trans (Mv.of hbn)) (And.intro (S.out.2.1.old hbn) (Kd.R_below S.out.2.2 hbn)); clear S hbn; have S := Lib.hid hS; clear hS))
                    go_meet
                    exact ⟨false, rfl, (fun h => by cases h), fun _ => HCT.out (by omega), S.out.1, S.out.2.1, S.out.2.2⟩
                  | false =>
                    go_wp2_with (first
                      | (go_at_call 38; refine (digit_spec _ _).mono ?_; rw [HD.out]; rintro en wn ⟨rfl, rfl⟩)
                      | (go_at_call 85; refine (isLet_spec _ _ HRG.out (OK.out.uni S.out.2.1)).mono ?_; rw [HL.out]; rintro en wn ⟨rfl, hbn⟩; have hS := And.intro (S.out.1.trans (Mv.of hbn)) (And.intro (S.out.2.1.old hbn) (Kd.R_below S.out.2.2 hbn)); clear S hbn; have S := Lib.hid hS; clear hS)
                      | (go_at_call 86; refine (Tryd.unicode_IsDigit_all r _ (by have := HRG.out; omega) (by have := HRG.out; omega) ((OK.out.uni S.out.2.1).digit _ (Below.refl _ _))).mono ?_; rw [HU.out]; rintro en wn ⟨rfl, hbn⟩; have hS := And.intro (S.out.1.trans (Mv.of hbn)) (And.intro (S.out.2.1.old hbn) (Kd.R_below S.out.2.2 hbn)); clear S hbn; have S := Lib.hid hS; clear hS))
                    go_meet
                    exact ⟨true, rfl, fun _ => HST.out, (fun h => by cases h), S.out.1, S.out.2.1, S.out.2.2⟩
                · go_wp2_with (first
                    | (go_at_call 38; refine (digit_spec _ _).mono ?_; rw [HD.out]; rintro en wn ⟨rfl, rfl⟩)
                    | (go_at_call 85; refine (isLet_spec _ _ HRG.out (OK.out.uni S.out.2.1)).mono ?_; rw [HL.out]; rintro en wn ⟨rfl, hbn⟩; have hS := And.intro (S.out.1.trans (Mv.of hbn)) (And.intro (S.out.2.1.old hbn) (Kd.R_below S.out.2.2 hbn)); clear S hbn; have S := Lib.hid hS; clear hS)
                    | (go_at_call 86; refine (Tryd.unicode_IsDigit_all r _ (by have := HRG.out; omega) (by have := HRG.out; omega) ((OK.out.uni S.out.2.1).digit _ (Below.refl _ _))).mono ?_; rw [HU.out]; rintro en wn ⟨rfl, hbn⟩; have hS := And.intro (S.out.1.trans (Mv.of hbn)) (And.intro (S.out.2.1.old hbn) (Kd.R_below S.out.2.2 hbn)); clear S hbn; have S := Lib.hid hS; clear hS))
                  go_meet
                  exact ⟨true, rfl, fun _ => HST.out, (fun h => by cases h), S.out.1, S.out.2.1, S.out.2.2⟩
        case rest =>
          obtain ⟨bb, rfl, hst, hne2, hm, hs, hR⟩ := hcut
          obtain ⟨c1, fz⟩ := hs.cellsq HQ.out HI.out
          have S := Lib.hid (And.intro hm (And.intro hs hR))
          have HB := Lib.hid (And.intro hst hne2)
          clear hm hs hR hst hne2
          cases bb with
          | true =>
            have hstop := HB.out.1 rfl
            have hnet : t ≠ [] := by
              rintro rfl
              have h2 := H0.out.2.1
              rw [HT.out.2.2, List.nil_append] at h2
              rcases h2 with h2 | h2
              · rw [hstop.dec] at h2; cases h2
              · exact hstop.pt h2
            have hchl : chOf t = chOf l := by rw [HT.out.2.2, chOf_append hnet]
            obtain ⟨g, o, c', hv, hrow⟩ := R21_row S.out.2.2 hnet (by have := HT.out.1; omega) (fun c hc => items_rune (src := e.src) (by have h1 := H0.out.1.suf; rw [HT.out.2.2] at h1; exact h1.mem (List.mem_append_left _ hc)))
            injection hv with hA hn hc
            subst hA hc
            have hnum : Calls Tryd.prog 87 #[.slice (some ⟨g, o, none⟩) tn cp] wc fun en w' => en = .returned (.int .i64 (numSpec t)) ∧ Below wc.heap.size wc w' := by rw [hn]; exact number_spec wc g o cp t hrow
            obtain ⟨k, hk0⟩ : ∃ k, numSpec t = k := ⟨_, rfl⟩
            rw [hk0] at hnum
            have HNUM := Lib.hid hnum
            have x0 := hrow.row 0 (by rw [← hn]; have := List.length_pos_iff.2 hnet; omega)
            obtain ⟨rx, hrx⟩ : ∃ x, chOf t = x := ⟨_, rfl⟩
            rw [List.drop_zero, hrx, Nat.add_zero] at x0
            have htpos : 0 < tn := by rw [hn]; exact List.length_pos_iff.2 hnet
            have hpos : decide ((0 : Int) < (tn : Int)) = true := decide_eq_true (by omega)
            have HKK := Lib.hid (And.intro hk0 (And.intro hrx hstop))
            have HX0 := Lib.hid (fun (wx : World) (hb : Below wc.heap.size wc wx) => (hb.cell (World.block_lt_of_cell? wc _ x0)).trans x0)
            clear hstop hnet hchl hn hrow hnum hk0 hrx x0
            go_upto_region 11 with (first
              | (go_at_call 87; refine (HNUM.out).mono ?_; rintro en wn ⟨rfl, hbn⟩; have x0 := HX0.out _ hbn; have hS := And.intro (S.out.1.trans (Mv.of hbn)) (And.intro (S.out.2.1.old hbn) (Kd.R_below S.out.2.2 hbn)); clear S hbn; have S := Lib.hid hS; clear hS))
            have IS2 := Lib.hid (fun b => isq HQ.out S.out.2.1 b)
            have hfin : ∀ sure : Bool, (sure = true → k ≠ 0 ∧ (sBit mode 4 = true ∨ (k = -3 ∧ rx ≠ 46))) → ∀ kk : Int, (sure = true → kk = k) → NumPost e w mode white l (.returned (.tuple #[.int .i64 kk, .bool sure])) wn := fun sure hsu kk hkk => by
              refine ⟨kk, sure, rfl, ?_, l1, S.out.2.1, fun hs => .inr ⟨t, HSOME.out, HT.out.2.2, HKK.out.2.2, by rw [HKK.out.1, hkk hs], by rw [hkk hs]; exact (hsu hs).1, ?_⟩⟩
              · rw [HQ.out]; exact S.out.1
              · rcases (hsu hs).2 with h | ⟨h1, h2⟩
                · exact .inl h
                · exact .inr ⟨by rw [hkk hs]; exact h1, by rw [HKK.out.2.1]; exact h2⟩
            have HFIN := Lib.hid hfin
            have hvals := numSpec_vals t
            rw [HKK.out.1] at hvals
            have HV := Lib.hid hvals
            clear hfin hvals
            by_cases hk4 : k = -4
            · subst hk4
              by_cases h46 : rx = 46
              · have b46 : (rx == 46) = true := by rw [h46]; rfl
                clear h46
                cases m4 : sBit mode 4 with
                | true =>
                  have HM4 := Lib.hid m4
                  go_wp2_with (first
                    | (go_at_call 59; refine (IS2.out _).mono ?_; rintro en wx ⟨rfl, rfl⟩))
                  refine bodyPost_ret (v := .tuple #[.int .i64 (-4), .bool true]) (by simp [results, Tryd.results62, go_sem]) rfl ?_
                  exact HFIN.out true (fun h => ⟨by decide, .inl HM4.out⟩) (-4) (fun _ => rfl)
                | false =>
                  have HM4 := Lib.hid m4
                  go_wp2_with (first
                    | (go_at_call 59; refine (IS2.out _).mono ?_; rintro en wx ⟨rfl, rfl⟩))
                  refine bodyPost_ret (v := .tuple #[.int .i64 0, .bool false]) (by simp [results, Tryd.results62, go_sem]) rfl ?_
                  exact HFIN.out false (fun h => by cases h) 0 (fun h => by cases h)
              · have b46 : (rx == 46) = false := beq_eq_false_iff_ne.2 h46
                have H46 := Lib.hid h46
                clear h46
                cases m4 : sBit mode 4 with
                | true =>
                  have HM4 := Lib.hid m4
                  go_wp2_with (first
                    | (go_at_call 59; refine (IS2.out _).mono ?_; rintro en wx ⟨rfl, rfl⟩))
                  refine bodyPost_ret (v := .tuple #[.int .i64 (-4), .bool true]) (by simp [results, Tryd.results62, go_sem]) rfl ?_
                  exact HFIN.out true (fun h => ⟨by decide, .inl HM4.out⟩) (-4) (fun _ => rfl)
                | false =>
                  have HM4 := Lib.hid m4
                  go_wp2_with (first
                    | (go_at_call 59; refine (IS2.out _).mono ?_; rintro en wx ⟨rfl, rfl⟩))
                  refine bodyPost_ret (v := .tuple #[.int .i64 0, .bool false]) (by simp [results, Tryd.results62, go_sem]) rfl ?_
                  exact HFIN.out false (fun h => by cases h) 0 (fun h => by cases h)
            · have bk4 : (k == -4) = false := beq_eq_false_iff_ne.2 hk4
              have HK4 := Lib.hid hk4
              clear hk4
              by_cases h46 : rx = 46
              · have b46 : (rx == 46) = true := by rw [h46]; rfl
                clear h46
                cases m4 : sBit mode 4 with
                | true =>
                  have HM4 := Lib.hid m4
                  go_wp2_with (first
                    | (go_at_call 59; refine (IS2.out _).mono ?_; rintro en wx ⟨rfl, rfl⟩))
                  refine bodyPost_ret (v := .tuple #[.int .i64 k, .bool (k != 0)]) (by simp [results, Tryd.results62, go_sem]) rfl ?_
                  exact HFIN.out _ (fun h => ⟨bne_iff_ne.1 h, .inl HM4.out⟩) k (fun _ => rfl)
                | false =>
                  have HM4 := Lib.hid m4
                  go_wp2_with (first
                    | (go_at_call 59; refine (IS2.out _).mono ?_; rintro en wx ⟨rfl, rfl⟩))
                  refine bodyPost_ret (v := .tuple #[.int .i64 0, .bool false]) (by simp [results, Tryd.results62, go_sem]) rfl ?_
                  exact HFIN.out false (fun h => by cases h) 0 (fun h => by cases h)
              · have b46 : (rx == 46) = false := beq_eq_false_iff_ne.2 h46
                have H46 := Lib.hid h46
                clear h46
                cases m4 : sBit mode 4 with
                | true =>
                  have HM4 := Lib.hid m4
                  go_wp2_with (first
                    | (go_at_call 59; refine (IS2.out _).mono ?_; rintro en wx ⟨rfl, rfl⟩))
                  refine bodyPost_ret (v := .tuple #[.int .i64 k, .bool (k != 0)]) (by simp [results, Tryd.results62, go_sem]) rfl ?_
                  exact HFIN.out _ (fun h => ⟨bne_iff_ne.1 h, .inl HM4.out⟩) k (fun _ => rfl)
                | false =>
                  have HM4 := Lib.hid m4
                  go_wp2_with (first
                    | (go_at_call 59; refine (IS2.out _).mono ?_; rintro en wx ⟨rfl, rfl⟩))
                  refine bodyPost_ret (v := .tuple #[.int .i64 k, .bool (k != 0)]) (by simp [results, Tryd.results62, go_sem]) rfl ?_
                  exact HFIN.out _ (fun h => ⟨bne_iff_ne.1 h, .inr ⟨by have h1 := bne_iff_ne.1 h; have h2 := HV.out; have h3 := HK4.out; omega, H46.out⟩⟩) k (fun _ => rfl)
          | false =>
            have hne2 := HB.out.2 rfl
            cases l1 with
            | nil => exact absurd rfl hne2
            | cons cx l2 =>
            clear hne2
            have htT : (runesI t).length = tn := by unfold runesI; rw [List.length_map]; exact HT.out.1
            have HTT := Lib.hid htT
            clear htT
            go_upto_region 9 with (first | ((with_reducible refine gate_builtin (b := .append) (xs := #[.tmp 72, .tmp 74]) rfl ?_); at_builtin; refine Kd.R_append (Kd.int .i32) (w0 := wc) w.heap.size rfl (.tmp 72) (.tmp 74) 130 21 (.int .i32 0) 4 rfl Tryd.underlying130 K.info21 rfl (by decide) (by omega) (.slice A tn cp) (runesI t) r [.int .i32 r] (fun k_ => w.heap.size ≤ k_) (fun _ => False) rfl rfl ?aP (fun _ hk => hk.elim) ?aF ?aO ?aB ?aS ?aL ?_; (case aP => exact rfl); (case aF => intro k_ hk; have := S.out.1.size; omega); (case aO => exact S.out.2.2); (case aB => exact Below.refl _ _); (case aS => exact S.out.1.size); (case aL => rw [HTT.out]; omega); intro v1 w6 ho hb hg hat; have hS := And.intro (S.out.1.below2 hb) (And.intro (S.out.2.1.thru OK.out (by rw [HQ.out]; exact HQL.out) hb) ho); clear S ho hb hg hat c1 fz; obtain ⟨c1, fz⟩ := hS.2.1.cellsq HQ.out HI.out; have S := Lib.hid hS; clear hS))
            go_wp2_with (fail)
            obtain ⟨st, mv, -⟩ := S.out.2.1.stepq OK.out HQ.out HI.out
            obtain ⟨htn, hk, hlt⟩ := HT.out
            go_roundg l2.length
            case measure => simp only [List.length_cons] at hk; omega
            case rel =>
              refine ⟨t ++ [cx], l2, Nat.le_refl _, by rw [hlt]; simp, S.out.1.trans mv, st, ?_⟩
              have hrr : runesI (t ++ [cx]) = runesI t ++ [r] := by unfold runesI; rw [List.map_append, ← HR.out]; rfl
              rw [hrr]
              exact R21_keep S.out.2.2 fun g' cs hg' hx => by
                have hgq : g' ≠ q := by have h1 : w.heap.size ≤ g' := S.out.2.2.1 g' hg'; have h2 := HQL.out; omega
                rw [Below.heap_setCell _ _ _ _ (by exact hgq)]; exact hx
end Go.Proofs.YtmfihkgbfoapaaaDoor
