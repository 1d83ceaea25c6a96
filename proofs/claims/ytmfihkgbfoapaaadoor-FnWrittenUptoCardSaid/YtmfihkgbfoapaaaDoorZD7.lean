/- Own texts D7 of this claim, cut to what the claim uses. -/
import Derived.Test.YtmfihkgbfoapaaaDoorZE1
import Derived.Deep.DeepCutAuto
namespace Go.Proofs.YtmfihkgbfoapaaaDoor
open Go Go.RowKit Go.Lib Go.BigFrame
theorem and_one (d u : Bool) : bits .and .i64 (dsOf d u) 1 = if d = true then 1 else 0 := by cases d <;> cases u <;> kernel_rfl
theorem and_two (d u : Bool) : bits .and .i64 (dsOf d u) 2 = if u = true then 2 else 0 := by cases d <;> cases u <;> kernel_rfl
theorem or_ds (d u d' u' : Bool) : bits .or .i64 (dsOf d u) (dsOf d' u') = dsOf (d || d') (u || u') := by cases d <;> cases u <;> cases d' <;> cases u' <;> kernel_rfl
theorem Sl.c_mode {E : Env} {src : List UInt8} {w : World} {l : List Item} {x : Sx} (h : Sl E src w l x) : w.cell? ⟨E.b, 1041, none⟩ = some (.int .u64 x.mode) := by
  obtain ⟨pre, r, hR, _, hX⟩ := h; rw [hR.c_mode, hX.mode]
theorem Sl.frozen {E : Env} {src : List UInt8} {w : World} {l : List Item} {x : Sx} (h : Sl E src w l x) : ∀ i, w.frozen? ⟨E.b, i, none⟩ = false := by
  obtain ⟨pre, r, hR, _, hX⟩ := h; exact hR.frozen
theorem Sl.born {E : Env} {src : List UInt8} {w : World} {l : List Item} {x : Sx} (h : Sl E src w l x) (v : Int) : Sn E src (w.alloc (.cells #[.int .i32 v] 21 (0, 0))) l x w.heap.size v := by
  have h2 := h.old (w1 := w.alloc (.cells #[.int .i32 v] 21 (0, 0))) ((Below.refl _ w).alloc (Nat.le_refl _) _)
  obtain ⟨pre, r, hR, hd⟩ := h
  refine ⟨h2, ⟨by show (w.heap.push _)[w.heap.size]? = _; simp, hR.fr.1.size, hR.Bsize, by decide, ?_, ?_, ?_, ?_⟩⟩
  · have := hR.lt; omega
  · have := hR.ltR; omega
  · have := hR.ltC; omega
  · have := hR.ltE; omega
theorem expDig_eq (l : List Item) (b pr : Int) (d u : Bool) (inv tok : Int) (dot : Bool) (k : Nat) : Num.expDig ⟨l, b, pr, d, u, inv, tok, dot, k⟩ =
    ⟨(dg 10 l 0).1, b, pr, d || (dg 10 l 0).2.2.1, u || (dg 10 l 0).2.2.2, inv, tok, dot, k + (if (dg 10 l 0).2.2.1 = true then 0 else 1)⟩ := rfl
def NumAt (E : Env) (src : List UInt8) (x : Sx) (p : Nat) (n : Num) (ch sd b pr ds tk : Value) (wr : World) : Prop :=
  ch = .int .i32 (chOf n.l) ∧ sd = .bool n.dot ∧ b = .int .i64 n.b ∧ pr = .int .i32 n.pr ∧ ds = .int .i64 (dsOf n.d n.u) ∧ tk = .int .i32 n.tok ∧ Sn E src wr n.l (x.errs n.k) p n.inv ∧ (n.b = 16 ∨ (2 ≤ n.b ∧ n.b ≤ 10))
theorem litname_any (w : World) (c : Int) : Calls Tryd.prog 95 #[.int .i32 c] w fun e w' => ∃ s : ByteArray, e = .returned (.string s) ∧ s.size ≤ 19 ∧ w' = w :=
  (litname_spec w c).mono fun _ _ ⟨h1, h2⟩ => ⟨_, h1, by unfold litOf; repeat' split
                                                         all_goals decide, h2⟩
def bitOne (d : Bool) : Int := if d = true then 1 else 0
theorem expK_one {d : Bool} (h : (bitOne d == 0) = true) : (if d = true then 0 else 1) = 1 := by cases d with
  | true => exact absurd h (by decide)
  | false => rfl
theorem expK_zero {d : Bool} (h : (bitOne d == 0) = false) : (if d = true then 0 else 1) = 0 := by cases d with
  | true => rfl
  | false => exact absurd h (by decide)
theorem and_bit (d u : Bool) : bits .and .i64 (dsOf d u) 1 = bitOne d := and_one d u
theorem Sl.end_facts {E : Env} {src : List UInt8} {w : World} {l : List Item} {x : Sx} (h : Sl E src w l x) : ∃ a b t : Int, w.cell? ⟨E.b, 1026, none⟩ = some (.int .i64 a) ∧ w.cell? ⟨E.b, 1032, none⟩ = some (.int .i64 b) ∧
    w.cell? ⟨E.b, 1037, none⟩ = some (.int .i64 t) ∧ (0 ≤ b ∧ b ≤ a ∧ a ≤ 1024) ∧ St E src (w.setCell ⟨E.b, 1037, none⟩ (.int .i64 (a - b))) l x := by
  obtain ⟨pre, r, hR, hd, hX⟩ := h
  refine ⟨r.srcPos, r.lcl, r.tokEnd, hR.c_srcPos, hR.c_lcl, hR.c_tokEnd, ⟨by rw [hd.lcl]; omega, hd.le, ?_⟩, ?_⟩
  · obtain ⟨so, sp, se, g, _⟩ := hd.at_
    have := g.spse; have := g.se4; rw [g.pos]; omega
  · exact ⟨pre, _, hR.set_tokEnd _, hd.like rfl rfl rfl rfl rfl rfl rfl rfl rfl rfl, ⟨hX.ec, hX.cnt, hX.ch, hX.mode, hX.white, hX.offs, hX.ln, hX.co, hX.tok.like rfl rfl rfl rfl rfl⟩, rfl⟩
theorem txt_fits {src : List UInt8} {l : List Item} (h : Fits src) (st : Nat) : (txt src st l).length ≤ 70368744177664 := by
  unfold Fits at h; unfold txt; simp only [List.length_take, List.length_drop]; omega
def bitTwo (u : Bool) : Int := if u = true then 2 else 0
theorem and_bitTwo (d u : Bool) : bits .and .i64 (dsOf d u) 2 = bitTwo u := and_two d u
theorem Sn.cellv {E : Env} {src : List UInt8} {w : World} {l : List Item} {x : Sx} {p : Nat} {v : Int} (h : Sn E src w l x p v) : w.cell? ⟨p, 0, none⟩ = some (.int .i32 v) := h.loc.cell
def NumB (E : Env) (src : List UInt8) (x : Sx) (p : Nat) (pr : Int) (n : Num) (ch ds tk : Value) (wr : World) : Prop :=
  ch = .int .i32 (chOf n.l) ∧ ds = .int .i64 (dsOf n.d n.u) ∧ tk = .int .i32 n.tok ∧ Sn E src wr n.l (x.errs n.k) p n.inv ∧ n.pr = pr
set_option maxRecDepth 100000 in
set_option maxHeartbeats 6400000 in
theorem scanNumber_sl (E : Env) (src : List UInt8) (w : World) (l : List Item) (x : Sx) (st : Nat) (dot : Bool) (h : Sl E src w l x) (hx : x.tok = some st) (gl : Glob E) (hlen : Fits src) :
    Calls Tryd.prog 72 #[.pointer (some ⟨E.b, 0, none⟩), .int .i32 (chOf l), .bool dot] w fun e w' =>
      e = .returned (.tuple #[.int .i32 (numRun src st (hasBit x.mode 16) dot l).tok, .int .i32 (chOf (numRun src st (hasBit x.mode 16) dot l).l)]) ∧
      Sl E src w' (numRun src st (hasBit x.mode 16) dot l).l (x.errs (numRun src st (hasBit x.mode 16) dot l).k) := by
  generalize hN : numRun src st (hasBit x.mode 16) dot l = N
  unfold numRun at hN
  generalize h1 : Num.whole (hasBit x.mode 16) ⟨l, 10, 0, false, false, 0, 0, dot, 0⟩ = n1 at hN
  generalize h2 : n1.frac = n2 at hN
  generalize h3 : n2.none = n3 at hN
  generalize h4 : n3.exp (hasBit x.mode 16) = n4 at hN
  generalize h5 : n4.bad = n5 at hN
  have A1 := Lib.hid h1; have A2 := Lib.hid h2; have A3 := Lib.hid h3; have A4 := Lib.hid h4; have A5 := Lib.hid h5; have A6 := Lib.hid hN
  have HX := Lib.hid hx
  have S := Lib.hid (h.born 0)
  clear h hx h1 h2 h3 h4 h5 hN
  go_enter Tryd.func72, Tryd.ntmps72
  go_upto_region 5 with (fail)
  generalize w.alloc (Obj.cells #[Value.int IntKind.i32 0] 21) = W at S ⊢
  generalize w.heap.size = p at S ⊢
  go_upto_if 17 with (fail)
  go_cut [1, 2, 8, 9, 10, 12, 13] (fun ch sd b pr ds tk _ wr => NumAt E src x p n1 ch sd b pr ds tk wr)
  case first => as_aux_lemma =>
    cases dot with
    | true =>
      go_wp2_with (fail)
      go_meet
      have e1 := A1.out
      unfold Num.whole at e1
      rw [if_pos rfl] at e1
      subst e1
      exact ⟨rfl, rfl, rfl, rfl, rfl, rfl, by rw [Sx.errs_zero]; exact S.out, .inr (by simp)⟩
    | false =>
      have e1 := A1.out
      unfold Num.whole at e1
      rw [if_neg (fun h => by cases h)] at e1
      clear A1
      generalize e0 : Num.pre { (⟨l, 10, 0, false, false, 0, 0, false, 0⟩ : Num) with tok := -3 } = n0 at e1
      have A0 := Lib.hid e0
      have A1 := Lib.hid e1
      clear e0 e1
      go_upto_if 19 with (fail)
      go_cut [1, 8, 9, 10] (fun ch b pr ds wr => NumAt E src x p n0 ch (.bool false) b pr ds (.int .i32 (-3)) wr ∧ n0.tok = -3 ∧ n0.inv = 0)
      case first => as_aux_lemma =>
        go_wp2_with (first
          | (go_at_call 67; refine (next_sn E src _ _ _ _ _ S.out gl hlen).mono ?_; clear S; rintro e w' ⟨rfl, h'⟩; have S := Lib.hid h'; clear h')
          | (go_at_call 93; refine (lower_var _ _).mono ?_; rintro e w' ⟨v, rfl, HV, rfl⟩))
        all_goals go_meet
        all_goals have e0 := A0.out
        all_goals unfold Num.pre at e0
        all_goals dsimp only at e0
        all_goals have S1 := S.out
        all_goals rw [← Sx.errs_zero x] at S1
        · have hv := HV.out
          rw [if_pos (by simpa using ‹(chOf l == 48) = true›), if_pos (by rw [← hv]; simpa using ‹(v == 120) = true›)] at e0
          subst e0
          exact ⟨⟨rfl, rfl, rfl, rfl, rfl, rfl, S1, .inl rfl⟩, rfl, rfl⟩
        · have hv := HV.out
          rw [if_pos (by simpa using ‹(chOf l == 48) = true›), if_neg (by rw [← hv]; simpa using ‹(v == 120) = false›), if_pos (by rw [← hv]; simpa using ‹(v == 111) = true›)] at e0
          subst e0
          exact ⟨⟨rfl, rfl, rfl, rfl, rfl, rfl, S1, .inr (by simp)⟩, rfl, rfl⟩
        · have hv := HV.out
          rw [if_pos (by simpa using ‹(chOf l == 48) = true›), if_neg (by rw [← hv]; simpa using ‹(v == 120) = false›), if_neg (by rw [← hv]; simpa using ‹(v == 111) = false›), if_pos (by rw [← hv]; simpa using ‹(v == 98) = true›)] at e0
          subst e0
          exact ⟨⟨rfl, rfl, rfl, rfl, rfl, rfl, S1, .inr (by simp)⟩, rfl, rfl⟩
        · have hv := HV.out
          rw [if_pos (by simpa using ‹(chOf l == 48) = true›), if_neg (by rw [← hv]; simpa using ‹(v == 120) = false›), if_neg (by rw [← hv]; simpa using ‹(v == 111) = false›), if_neg (by rw [← hv]; simpa using ‹(v == 98) = false›)] at e0
          subst e0
          exact ⟨⟨rfl, rfl, rfl, rfl, rfl, rfl, S1, .inr (by simp)⟩, rfl, rfl⟩
        · rw [if_neg (by simpa using ‹(chOf l == 48) = false›)] at e0
          subst e0
          exact ⟨⟨rfl, rfl, rfl, rfl, rfl, rfl, S1, .inr (by simp)⟩, rfl, rfl⟩
      case rest =>
        obtain ⟨⟨rfl, hdd, rfl, rfl, rfl, -, hS, hb⟩, ht, hi⟩ := hcut
        clear S
        have hor := or_ds n0.d n0.u (dg n0.b n0.l n0.inv).2.2.1 (dg n0.b n0.l n0.inv).2.2.2
        have S := Lib.hid hS
        have HB := Lib.hid hb
        have HT := Lib.hid (And.intro ht (And.intro hi hdd))
        clear hS hb ht hi hdd
        go_wp2_with (first
          | (go_at_call 94; refine (digits_sn E src _ _ _ _ _ _ HB.out S.out gl hlen).mono ?_; clear S; rintro e w' ⟨rfl, h'⟩; have hm := h'.sl.c_mode; have hf := h'.sl.frozen; have S := Lib.hid h'; clear h')
          | (go_at_call 67; refine (next_sn E src _ _ _ _ _ S.out gl hlen).mono ?_; clear S; rintro e w' ⟨rfl, h'⟩; have S := Lib.hid h'; clear h'))
        · go_meet
          have e1 := A1.out
          have h46 : chOf n0.dig.l = 46 := by assumption
          have hfl : hasBit x.mode 16 = true := by assumption
          unfold Num.point at e1
          rw [if_pos ⟨h46, hfl⟩] at e1
          subst e1
          exact ⟨rfl, rfl, rfl, rfl, rfl, by rw [show n0.dig.tok = -3 from HT.out.1], S.out, HB.out⟩
        · go_meet
          have e1 := A1.out
          have h46 : chOf n0.dig.l = 46 := by assumption
          have hfl : hasBit x.mode 16 = false := by assumption
          unfold Num.point at e1
          rw [if_neg (fun h => by rw [hfl] at h; cases h.2)] at e1
          subst e1
          exact ⟨by rw [h46], HT.out.2.2, rfl, rfl, rfl, by rw [show n0.dig.tok = -3 from HT.out.1], S.out, HB.out⟩
        · go_meet
          have e1 := A1.out
          have h46 : ¬ chOf n0.dig.l = 46 := by assumption
          unfold Num.point at e1
          rw [if_neg (fun h => h46 h.1)] at e1
          subst e1
          exact ⟨rfl, HT.out.2.2, rfl, rfl, rfl, by rw [show n0.dig.tok = -3 from HT.out.1], S.out, HB.out⟩
  case rest =>
    obtain ⟨rfl, rfl, rfl, rfl, rfl, rfl, hS, hb⟩ := hcut
    clear S A1
    have S := Lib.hid hS
    have HB := Lib.hid hb
    clear hS hb
    obtain ⟨dd, hdd⟩ : ∃ dd, n1.dot = dd := ⟨_, rfl⟩
    rw [hdd]
    have HD := Lib.hid hdd
    clear hdd
    go_upto_if 58 with (fail)
    go_cut [1, 10, 12, 13] (fun ch ds tk _ wr => NumB E src x p n1.pr n2 ch ds tk wr)
    case first => as_aux_lemma =>
      have e2 := A2.out
      unfold Num.frac at e2
      cases dd with
      | false =>
        rw [if_neg (by rw [HD.out]; decide)] at e2
        subst e2
        go_wp2_with (fail)
        go_meet
        exact ⟨rfl, rfl, rfl, S.out, rfl⟩
      | true =>
        rw [if_pos HD.out] at e2
        have A2 := Lib.hid e2
        clear e2
        have hor := or_ds n1.d n1.u (dg n1.b n1.l n1.inv).2.2.1 (dg n1.b n1.l n1.inv).2.2.2
        have h3 : ((n1.pr == 111) = true ∨ ((n1.pr == 111) = false ∧ (n1.pr == 98) = true)) ∨ ((n1.pr == 111) = false ∧ (n1.pr == 98) = false) := by
          cases n1.pr == 111 <;> cases n1.pr == 98 <;> simp
        rcases h3 with h3 | ⟨hp1, hp2⟩
        · have hpr : n1.pr = 111 ∨ n1.pr = 98 := by
            rcases h3 with h | ⟨_, h⟩
            · exact .inl (by simpa using h)
            · exact .inr (by simpa using h)
          have e2 := A2.out
          rw [if_pos hpr] at e2
          have A2 := Lib.hid e2
          clear e2 hpr
          rcases h3 with hp1 | ⟨hp1, hp2⟩
          all_goals
            go_wp2_with (first
              | (go_at_call 95; refine (litname_any _ _).mono ?_; rintro e w' ⟨s, rfl, hs, rfl⟩)
              | (go_at_call 90; refine (error_sn E src _ _ _ _ _ _ S.out).mono ?_; clear S; rintro e w' ⟨rfl, h'⟩; have S := Lib.hid h'; clear h')
              | (go_at_call 94; refine (digits_sn E src _ _ _ _ _ _ HB.out S.out gl hlen).mono ?_; clear S; rintro e w' ⟨rfl, h'⟩; have S := Lib.hid h'; clear h'))
            go_meet
            have e2 := A2.out
            subst e2
            exact ⟨rfl, rfl, rfl, by have := S.out; rw [Sx.err_eq, Sx.errs_errs] at this; exact this, rfl⟩
        · have hpr : ¬ (n1.pr = 111 ∨ n1.pr = 98) := by
            rintro (h | h)
            · rw [h] at hp1; exact absurd hp1 (by decide)
            · rw [h] at hp2; exact absurd hp2 (by decide)
          have e2 := A2.out
          rw [if_neg hpr] at e2
          have A2 := Lib.hid e2
          clear e2 hpr
          go_wp2_with (first
            | (go_at_call 94; refine (digits_sn E src _ _ _ _ _ _ HB.out S.out gl hlen).mono ?_; clear S; rintro e w' ⟨rfl, h'⟩; have S := Lib.hid h'; clear h'))
          go_meet
          have e2 := A2.out
          subst e2
          exact ⟨rfl, rfl, rfl, S.out, rfl⟩
    case rest =>
      obtain ⟨rfl, rfl, rfl, hS, hpr⟩ := hcut
      clear S HB A2 HD
      have S := Lib.hid hS
      have HP := Lib.hid hpr
      clear hS hpr
      have a1 := and_bit n2.d n2.u
      go_upto_if 82 with (fail)
      go_cut [] (fun wr => Sn E src wr n2.l (x.errs n3.k) p n2.inv)
      case first => as_aux_lemma => -- none
        have e3 := A3.out
        unfold Num.none at e3
        have HE := Lib.hid e3
        clear e3
        obtain ⟨d2, hd2⟩ : ∃ d2, n2.d = d2 := ⟨_, rfl⟩
        have HD := Lib.hid hd2
        cases d2 with
        | true =>
          have b1 : (bitOne n2.d == 0) = false := by rw [hd2]; rfl
          clear hd2
          go_wp2_with (fail)
          go_meet
          have e3 := HE.out
          rw [if_pos HD.out] at e3
          subst e3
          exact S.out
        | false =>
          have b1 : (bitOne n2.d == 0) = true := by rw [hd2]; rfl
          clear hd2
          go_wp2_with (first
            | (go_at_call 95; refine (litname_any _ _).mono ?_; rintro e w' ⟨s, rfl, hs, rfl⟩)
            | (go_at_call 90; refine (error_sn E src _ _ _ _ _ _ S.out).mono ?_; clear S; rintro e w' ⟨rfl, h'⟩; have S := Lib.hid h'; clear h'))
          go_meet
          have e3 := HE.out
          rw [if_neg (by rw [HD.out]; decide)] at e3
          subst e3
          have := S.out
          rw [Sx.err_eq, Sx.errs_errs] at this
          exact this
      case rest => as_aux_lemma => -- none
        have hS := hcut
        clear S
        have E3 : n3 = { n2 with k := n3.k } := by
          have e3 := A3.out
          unfold Num.none at e3
          split at e3
          · rw [← e3]
          · rw [← e3]
        have HE3 := Lib.hid E3
        clear E3 A3 a1
        rw [← congrArg Num.l HE3.out, ← congrArg Num.inv HE3.out] at hS
        rw [← congrArg Num.l HE3.out, ← congrArg Num.d HE3.out, ← congrArg Num.u HE3.out, ← congrArg Num.tok HE3.out]
        have HP3 : Hid (n3.pr = n1.pr) := Lib.hid ((congrArg Num.pr HE3.out).trans HP.out)
        have hm := hS.sl.c_mode
        have hf := hS.sl.frozen
        have S := Lib.hid hS
        clear hS HP HE3
        go_upto_region 37 with (first
          | (go_at_call 93; refine (lower_var _ _).mono ?_; rintro e w' ⟨v, rfl, HV, rfl⟩))
        go_cut [103] (fun u wr => wr = w' ∧ ∃ bb : Bool, u = .bool bb ∧ (bb = true ↔ (v = 101 ∨ v = 112) ∧ hasBit x.mode 16 = true))
        case first => as_aux_lemma =>
          cases hv1 : v == 101 with
          | true =>
            go_wp2_with (fail)
            go_meet
            exact ⟨rfl, _, rfl, ⟨fun h => ⟨.inl (by simpa using hv1), h⟩, fun h => h.2⟩⟩
          | false =>
            cases hv2 : v == 112 with
            | true =>
              go_wp2_with (fail)
              go_meet
              exact ⟨rfl, _, rfl, ⟨fun h => ⟨.inr (by simpa using hv2), h⟩, fun h => h.2⟩⟩
            | false =>
              go_wp2_with (fail)
              go_meet
              exact ⟨rfl, false, rfl, ⟨fun h => (by cases h), fun h => by simp only [beq_eq_false_iff_ne, ne_eq] at hv1 hv2; omega⟩⟩
        case rest =>
          obtain ⟨ew, bb, rfl, hbb⟩ := hcut
          subst ew
          have HBB := Lib.hid hbb
          clear hbb hm hf
          go_upto_if 103 with (fail)
          go_cut [1, 10, 12, 13] (fun ch ds tk _ wr => NumB E src x p n1.pr n4 ch ds tk wr)
          case first => as_aux_lemma => -- exp
            have e4 := A4.out
            unfold Num.exp at e4
            rw [← HV.out] at e4
            cases bb with
            | false =>
              rw [if_neg (fun h => by have := HBB.out.2 h; cases this), HP3.out] at e4
              cases hp : n1.pr == 120 with
              | false =>
                rw [if_neg (fun h => by rw [h.1] at hp; exact absurd hp (by decide))] at e4
                have HE := Lib.hid e4
                clear e4
                go_wp2_with (fail)
                go_meet
                have e4 := HE.out
                subst e4
                exact ⟨rfl, rfl, rfl, S.out, HP3.out⟩
              | true =>
                cases ht : n3.tok == -4 with
                | false =>
                  rw [if_neg (fun h => by rw [h.2] at ht; exact absurd ht (by decide))] at e4
                  have HE := Lib.hid e4
                  clear e4
                  go_wp2_with (fail)
                  go_meet
                  have e4 := HE.out
                  subst e4
                  exact ⟨rfl, rfl, rfl, S.out, HP3.out⟩
                | true =>
                  rw [if_pos ⟨by simpa using hp, by simpa using ht⟩] at e4
                  have HE := Lib.hid e4
                  clear e4
                  go_wp2_with (first
                    | (go_at_call 90; refine (error_sn E src _ _ _ _ _ _ S.out).mono ?_; clear S; rintro e w' ⟨rfl, h'⟩; have S := Lib.hid h'; clear h'))
                  go_meet
                  have e4 := HE.out
                  subst e4
                  exact ⟨rfl, rfl, rfl, by have := S.out; rw [Sx.err_eq, Sx.errs_errs] at this; exact this, rfl⟩
            | true =>
              rw [if_pos (HBB.out.1 rfl), HP3.out] at e4
              -- whether the letter fits the prefix
              obtain ⟨kk, hkk⟩ : ∃ kk : Nat, (if (v = 101 ∧ n1.pr ≠ 0 ∧ n1.pr ≠ 48) ∨ (v = 112 ∧ n1.pr ≠ 120) then 1 else 0) = kk := ⟨_, rfl⟩
              rw [hkk] at e4
              have HE := Lib.hid e4
              have HV2 := Lib.hid (HBB.out.1 rfl).1
              have HKK := Lib.hid hkk
              clear e4 hkk
              go_upto_block 1 with (fail)
              go_cut [9, 14] (fun pr ev wr => Sn E src wr n3.l (x.errs (n3.k + kk)) p n3.inv ∧ pr = .int .i32 n1.pr ∧ ev = .int .i32 v)
              case first => as_aux_lemma =>
                have hsplit : ((v == 101) = true) ∨ ((v == 101) = false ∧ (v == 112) = true) := by
                  rcases HV2.out with h | h
                  · exact .inl (by rw [h]; rfl)
                  · exact .inr ⟨by rw [h]; rfl, by rw [h]; rfl⟩
                rcases hsplit with hv1 | ⟨hv1, hv2⟩
                all_goals go_wp2_with (first
                  | (go_at_call 96; refine (errorf_sn E src _ _ _ _ _ _ S.out).mono ?_; clear S; rintro e w' ⟨rfl, h'⟩; have S := Lib.hid h'; clear h'))
                all_goals go_meet
                · exfalso
                  have h1 : v = 101 := eq_of_beq hv1
                  omega
                · have h1 : v = 101 := eq_of_beq hv1
                  have hk := HKK.out
                  rw [if_neg (by omega)] at hk
                  subst hk
                  exact ⟨S.out, by rw [show n1.pr = 0 by assumption], rfl⟩
                · have h3 : (n1.pr != 0) = true ∧ (n1.pr != 48) = true := by assumption
                  have h1 : v = 101 := eq_of_beq hv1
                  have h4 : n1.pr ≠ 48 := bne_iff_ne.1 h3.2
                  have hk := HKK.out
                  rw [if_pos (.inl ⟨h1, bne_iff_ne.1 h3.1, h4⟩)] at hk
                  subst hk
                  exact ⟨by have := S.out; rw [Sx.err_eq, Sx.errs_errs] at this; exact this, rfl, rfl⟩
                · have h2 : ¬ n1.pr = 0 := by assumption
                  have h3 : (n1.pr != 0) = false ∨ (n1.pr != 48) = false := by assumption
                  have h1 : v = 101 := eq_of_beq hv1
                  have h4 : n1.pr = 48 := by
                    rcases h3 with h3 | h3
                    · exact absurd (bne_eq_false_iff_eq.1 h3) h2
                    · exact bne_eq_false_iff_eq.1 h3
                  have hk := HKK.out
                  rw [if_neg (by omega)] at hk
                  subst hk
                  exact ⟨S.out, rfl, rfl⟩
                · have h1 : v = 112 := eq_of_beq hv2
                  have h4 : n1.pr ≠ 120 := bne_iff_ne.1 (by assumption)
                  have hk := HKK.out
                  rw [if_pos (.inr ⟨h1, h4⟩)] at hk
                  subst hk
                  exact ⟨by have := S.out; rw [Sx.err_eq, Sx.errs_errs] at this; exact this, rfl, rfl⟩
                · have h1 : v = 112 := eq_of_beq hv2
                  have h4 : n1.pr = 120 := bne_eq_false_iff_eq.1 (by assumption)
                  have hk := HKK.out
                  rw [if_neg (by omega)] at hk
                  subst hk
                  exact ⟨S.out, rfl, rfl⟩
              case rest =>
                obtain ⟨hS, rfl, rfl⟩ := hcut
                clear S
                have hor1 := or_ds n3.d n3.u (dg 10 n3.l.tail 0).2.2.1 (dg 10 n3.l.tail 0).2.2.2
                have hor2 := or_ds n3.d n3.u (dg 10 n3.l.tail.tail 0).2.2.1 (dg 10 n3.l.tail.tail 0).2.2.2
                have hb1 := and_bit (dg 10 n3.l.tail 0).2.2.1 (dg 10 n3.l.tail 0).2.2.2
                have hb2 := and_bit (dg 10 n3.l.tail.tail 0).2.2.1 (dg 10 n3.l.tail.tail 0).2.2.2
                have S := Lib.hid hS
                clear hS
                go_wp2_with (first
                  | (go_at_call 67; refine (next_sn E src _ _ _ _ _ S.out gl hlen).mono ?_; clear S; rintro e w' ⟨rfl, h'⟩; have S := Lib.hid h'; clear h')
                  | (go_at_call 94; refine (digits_sn_nil E src _ _ _ _ _ S.out gl hlen).mono ?_; clear S; rintro e w' ⟨rfl, h'⟩; have S := Lib.hid h'; clear h')
                  | (go_at_call 90; refine (error_sn E src _ _ _ _ _ _ S.out).mono ?_; clear S; rintro e w' ⟨rfl, h'⟩; have S := Lib.hid h'; clear h'))
                all_goals go_meet
                all_goals have he := HE.out
                all_goals unfold Num.sign at he
                all_goals dsimp only at he
                · rw [if_pos (.inl (by assumption)), expDig_eq, expK_one (by assumption)] at he
                  subst he
                  exact ⟨rfl, rfl, rfl, by have := S.out; rw [Sx.err_eq, Sx.errs_errs] at this; exact this, rfl⟩
                · rw [if_pos (.inl (by assumption)), expDig_eq, expK_zero (by assumption), Nat.add_zero] at he
                  subst he
                  exact ⟨rfl, rfl, rfl, S.out, rfl⟩
                · have h45 : chOf n3.l.tail = 45 := by
                    have h1 : (chOf n3.l.tail == 43) = true ∨ (chOf n3.l.tail == 45) = true := by assumption
                    have h2 : ¬ chOf n3.l.tail = 43 := by assumption
                    exact h1.elim (fun h => absurd (eq_of_beq h) h2) fun h => eq_of_beq h
                  rw [if_pos (.inr h45), expDig_eq, expK_one (by assumption)] at he
                  subst he
                  exact ⟨rfl, rfl, rfl, by have := S.out; rw [Sx.err_eq, Sx.errs_errs] at this; exact this, rfl⟩
                · have h45 : chOf n3.l.tail = 45 := by
                    have h1 : (chOf n3.l.tail == 43) = true ∨ (chOf n3.l.tail == 45) = true := by assumption
                    have h2 : ¬ chOf n3.l.tail = 43 := by assumption
                    exact h1.elim (fun h => absurd (eq_of_beq h) h2) fun h => eq_of_beq h
                  rw [if_pos (.inr h45), expDig_eq, expK_zero (by assumption), Nat.add_zero] at he
                  subst he
                  exact ⟨rfl, rfl, rfl, S.out, rfl⟩
                · have h1 : (chOf n3.l.tail == 43) = false ∧ (chOf n3.l.tail == 45) = false := by assumption
                  rw [if_neg (fun h => h.elim (beq_eq_false_iff_ne.1 h1.1) (beq_eq_false_iff_ne.1 h1.2)), expDig_eq, expK_one (by assumption)] at he
                  subst he
                  exact ⟨rfl, rfl, rfl, by have := S.out; rw [Sx.err_eq, Sx.errs_errs] at this; exact this, rfl⟩
                · have h1 : (chOf n3.l.tail == 43) = false ∧ (chOf n3.l.tail == 45) = false := by assumption
                  rw [if_neg (fun h => h.elim (beq_eq_false_iff_ne.1 h1.1) (beq_eq_false_iff_ne.1 h1.2)), expDig_eq, expK_zero (by assumption), Nat.add_zero] at he
                  subst he
                  exact ⟨rfl, rfl, rfl, S.out, rfl⟩
          case rest => as_aux_lemma => -- exp
            obtain ⟨rfl, rfl, rfl, hS, hpr⟩ := hcut
            clear S HP3 HBB HV A4
            have a2 := and_bitTwo n4.d n4.u
            have hv1 := hS.cellv
            have S := Lib.hid hS
            clear hS hpr
            go_upto_region 52 with (fail)
            go_cut [163] (fun u wr => Sn E src wr n4.l (x.errs n4.k) p n4.inv ∧ ∃ bb : Bool, u = .bool bb ∧ (bb = true ↔ n4.tok = -3 ∧ n4.inv ≠ 0))
            case first => as_aux_lemma => -- bad0
              cases ht : n4.tok == -3 with
              | true =>
                go_wp2_with (fail)
                go_meet
                exact ⟨S.out, _, rfl, ⟨fun h => ⟨eq_of_beq ht, bne_iff_ne.1 h⟩, fun h => bne_iff_ne.2 h.2⟩⟩
              | false =>
                go_wp2_with (fail)
                go_meet
                exact ⟨S.out, _, rfl, ⟨fun h => (by cases h), fun h => absurd h.1 (beq_eq_false_iff_ne.1 ht)⟩⟩
            case rest => -- bad0
              obtain ⟨hS, bb, rfl, hbb⟩ := hcut
              clear S hv1
              have S := Lib.hid hS
              have HBB := Lib.hid hbb
              clear hS hbb
              go_upto_if 163 with (fail)
              go_cut [] (fun wr => Sn E src wr n4.l (x.errs n5.k) p n4.inv)
              case first => as_aux_lemma => -- bad
                have e5 := A5.out
                unfold Num.bad at e5
                cases bb with
                | true =>
                  rw [if_pos (HBB.out.1 rfl)] at e5
                  have HE := Lib.hid e5
                  clear e5
                  go_wp2_with (first
                    | (go_at_call 95; refine (litname_any _ _).mono ?_; rintro e w' ⟨s, rfl, hs, rfl⟩)
                    | (go_at_call 96; refine (errorf_sn E src _ _ _ _ _ _ S.out).mono ?_; clear S; rintro e w' ⟨rfl, h'⟩; have S := Lib.hid h'; clear h'))
                  go_meet
                  have e5 := HE.out
                  subst e5
                  have := S.out
                  rw [Sx.err_eq, Sx.errs_errs] at this
                  exact this
                | false =>
                  rw [if_neg (fun h => by have := HBB.out.2 h; cases this)] at e5
                  have HE := Lib.hid e5
                  clear e5
                  go_wp2_with (fail)
                  go_meet
                  have e5 := HE.out
                  subst e5
                  exact S.out
              case rest => -- bad
                have hS := hcut
                clear S
                have E5 : n5 = { n4 with k := n5.k } := by
                  have e5 := A5.out
                  unfold Num.bad at e5
                  split at e5
                  · rw [← e5]
                  · rw [← e5]
                have HE5 := Lib.hid E5
                clear E5 A5 HBB
                rw [← congrArg Num.l HE5.out, ← congrArg Num.inv HE5.out] at hS
                rw [← congrArg Num.l HE5.out, ← congrArg Num.d HE5.out, ← congrArg Num.u HE5.out, ← congrArg Num.tok HE5.out]
                rw [← congrArg Num.d HE5.out, ← congrArg Num.u HE5.out] at a2
                have e6 := A6.out
                unfold Num.sep at e6
                obtain ⟨uu, hu⟩ : ∃ uu, n5.u = uu := ⟨_, rfl⟩
                cases uu with
                | false =>
                  rw [if_neg (fun h => by rw [hu] at h; cases h.1)] at e6
                  have b2 : (bitTwo n5.u != 0) = false := by rw [hu]; rfl
                  have HE := Lib.hid e6
                  have S := Lib.hid hS
                  clear e6 hS hu
                  go_wp2_with (fail)
                  go_ret2
                  have e6 := HE.out
                  subst e6
                  exact ⟨rfl, S.out.sl⟩
                | true =>
                  have b2 : (bitTwo n5.u != 0) = true := by rw [hu]; rfl
                  have HE := Lib.hid e6
                  have HU := Lib.hid hu
                  have S := Lib.hid hS.sl
                  clear e6 hS hu
                  go_upto_region 55 with (fail)
                  refine wp_region_tail 10 (by kernel_rfl) (by kernel_rfl) ?_
                  intro wx e1 e2 e3 e4
                  have hx := S.out.like wx e1 e2 e3 e4
                  clear S e1 e2 e3 e4
                  have hf := hx.frozen'
                  obtain ⟨a, b, t, c1, c2, c3, hb, hst⟩ := hx.end_facts
                  have hwr : wrap64 (a - b) = a - b := by unfold wrap64; omega
                  have S := Lib.hid hst
                  clear hx hst
                  simp only [List.take_succ_cons, List.take_zero, List.drop_succ_cons, List.drop_zero]
                  repeat (go_big_quiet_step (fail))
                  refine wpQuiet_nil ?_
                  have hlt := txt_fits (l := n5.l) hlen st
                  have HX2 : Hid ((x.errs n5.k).tok = some st) := Lib.hid HX.out
                  go_wp2_with (first
                    | (go_at_call 46; refine (tokenText_st E src _ _ _ st S.out HX2.out hlen).mono ?_; clear S; rintro e w' ⟨rfl, h'⟩; have S := Lib.hid h'.sl; clear h')
                    | (go_at_call 97; refine (invalidSep_spec _ _ hlt).mono ?_; rintro e w2 ⟨rfl, r, rfl, hr⟩; have HR := Lib.hid hr; clear hr)
                    | (go_at_call 90; refine (error_sl E src _ _ _ _ S.out).mono ?_; clear S; rintro e w' ⟨rfl, h'⟩; have S := Lib.hid h'; clear h'))
                  · go_ret2
                    have e6 := HE.out
                    rw [if_pos ⟨HU.out, HR.out.1 (by omega)⟩] at e6
                    subst e6
                    exact ⟨rfl, by have := S.out; rw [Sx.err_eq, Sx.errs_errs] at this; exact this⟩
                  · go_ret2
                    have e6 := HE.out
                    rw [if_neg (fun h => by have := HR.out.2 h.2; omega)] at e6
                    subst e6
                    exact ⟨rfl, S.out⟩
end Go.Proofs.YtmfihkgbfoapaaaDoor
