/- Own texts D5 D6 of this claim, cut to what the claim uses. -/
import Derived.Test.YtmfihkgbfoapaaaDoorZD4
import Derived.Laws.IdiomStrings
namespace Go.Proofs.YtmfihkgbfoapaaaDoor
open Go Go.RowKit Go.Lib Go.BigFrame
theorem save_part {src : List UInt8} {r : Regs} {so sp se tp te st : Nat} (g : Good src r so sp se) (hb : r.buf.length = 1025) (ht : tp ≤ te) (hte : te ≤ sp) (hst : st ≤ so + tp) :
    (src.drop st).take (so + tp - st) ++ (r.buf.drop tp).take (te - tp) = (src.drop st).take (so + te - st) := by
  have g' : Good src { r with srcPos := (te : Int) } so te se := ⟨g.off, rfl, g.end_, by have := g.spse; omega, g.se4, g.len, g.buf, g.sent, g.rem, g.calls⟩
  exact save_text (r := { r with srcPos := (te : Int) }) g' hb ht hst
theorem conv_buf {E : Env} {w : World} {r : Regs} (h : Raw E w r) (tp n c : Nat) (hn : tp + n ≤ 1025) :
    (convert 22 9 (.slice (some ⟨E.b, 1 + tp, none⟩) n c)).run Tryd.prog w = .ok (.string ⟨((r.buf.drop tp).take n).toArray⟩) w := by
  have hl : ((r.buf.drop tp).take n).length = n := by have := h.blen; simp only [List.length_take, List.length_drop]; omega
  have := run_convert_bytes_back (P := Tryd.prog) w 22 9 5 ⟨E.b, 1 + tp, none⟩ c ((r.buf.drop tp).take n) Tryd.underlying22 Tryd.underlying5 Tryd.underlying9 (fun j hj => by
    have h2 := h.c_buf (tp + j) (by rw [hl] at hj; omega)
    have e1 : (⟨E.b, 1 + tp, none⟩ : Addr).add j = ⟨E.b, 1 + (tp + j), none⟩ := by cases j <;> simp [Addr.add, Nat.add_assoc]
    rw [e1, h2]
    have hb := h.blen
    rw [gb_get (by rw [hl] at hj; omega)]
    simp only [List.getElem_take, List.getElem_drop])
  rw [hl] at this
  exact this
set_option maxRecDepth 100000 in
set_option maxHeartbeats 1600000 in
theorem tokenText_raw (E : Env) (src : List UInt8) (r : Regs) (w : World) (so sp se tp te st : Nat) (h : Raw E w r) (g : Good src r so sp se) (h1 : r.tokPos = tp) (h2 : r.tokEnd = te) (ht : tp ≤ te) (hte : te ≤ sp) (hst : st ≤ so + tp)
    (htb : r.tb = (src.drop st).take (so + tp - st)) (hlen : Fits src) :
    Calls Tryd.prog 46 #[.pointer (some ⟨E.b, 0, none⟩)] w fun e w' => e = .returned (.string ⟨((src.drop st).take (so + te - st)).toArray⟩) ∧
      (Raw E w' r ∨ Raw E w' { r with tb := (src.drop st).take (so + te - st), tokPos := te }) := by
  have hs := save_part g h.blen ht hte hst
  rw [← htb] at hs
  have hse := g.se4; have hle := g.spse
  have q1 : ((tp : Nat) : Int) ≤ ((te : Nat) : Int) := by omega
  have q2 : ((te : Nat) : Int) ≤ 1025 := by omega
  have c1 := h.c_tokPos
  have c2 := h.c_tokEnd
  rw [h1] at c1; rw [h2] at c2
  have hf := h.frozen
  have hd0 : decide ((tp : Int) < 0) = false := decide_eq_false (by omega)
  have hd1 : decide ((te : Int) < (tp : Int)) = false := decide_eq_false (by omega)
  have HS := Lib.hid hs
  have htbl := Lib.hid htb
  have H := Lib.hid h
  clear h hs g htb
  by_cases h0 : r.tb.length = 0
  · have hz : (((r.tb.length : Nat) : Int) == 0) = true := by rw [h0]; rfl
    have H0 := Lib.hid h0
    clear h0
    go_enter Tryd.func46, Tryd.ntmps46
    go_wp2_with (first
      | (go_at_call 77; refine (len_spec E _ _ (H.out.drewN _)).mono ?_; rintro e w' ⟨rfl, nq2, rfl⟩)
      | (go_quiet (fail)))
    refine wp_region_tail 11 (by kernel_rfl) (by kernel_rfl) ?_
    intro wx e1 e2 e3 e4
    have hx := Raw.like H.out wx e1 e2 e3 e4
    clear c1 c2 hf
    have c1 := hx.c_tokPos
    have c2 := hx.c_tokEnd
    rw [h1] at c1; rw [h2] at c2
    have hf := hx.frozen
    have hcv := conv_buf hx tp (te - tp) (1025 - tp) (by omega)
    have HX := Lib.hid hx
    clear hx
    simp only [List.take_succ_cons, List.take_zero, List.drop_succ_cons, List.drop_zero]
    repeat (go_big_quiet_step (fail))
    refine wpQuiet_nil ?_
    go_wp2_with (fail)
    go_ret
    have hh := HS.out
    rw [List.eq_nil_of_length_eq_zero H0.out, List.nil_append] at hh
    rw [← hh]
    exact ⟨rfl, .inl HX.out⟩
  · have hz : (((r.tb.length : Nat) : Int) == 0) = false := beq_eq_false_iff_ne.2 (by omega)
    clear h0
    go_enter Tryd.func46, Tryd.ntmps46
    go_wp2_with (first
      | (go_at_call 77; refine (len_spec E _ _ (H.out.drewN _)).mono ?_; rintro e w' ⟨rfl, nq2, rfl⟩)
      | (go_not_at_region 7; go_quiet (fail)))
    refine wp_region_call 15 rfl rfl (by kernel_rfl) (by kernel_rfl) ?_
    intro wx e1 e2 e3 e4
    have hx := Raw.like H.out wx e1 e2 e3 e4
    clear c1 c2 hf
    have c1 := hx.c_tokPos
    have c2 := hx.c_tokEnd
    rw [h1] at c1; rw [h2] at c2
    have hf := hx.frozen
    have HX := Lib.hid hx
    clear hx
    simp only [List.take_succ_cons, List.take_zero, List.drop_succ_cons, List.drop_zero]
    repeat (go_big_quiet_step (fail))
    refine wpQuiet_nil ?_
    intro K hK
    go_wp2_with (fail)
    refine (write_spec E r wx tp (te - tp) _ HX.out (by omega) ?_).mono ?_
    · rw [htbl.out]; unfold Fits at hlen; simp only [List.length_take, List.length_drop]; omega
    rintro e w' ⟨rfl, hw⟩
    refine hK _ _ ?_
    clear hK K
    repeat (go_big_quiet_step (fail))
    refine wpQuiet_nil ?_
    rw [HS.out] at hw
    clear c1 c2 hf
    have c1 := hw.c_tokPos
    have c2 := hw.c_tokEnd
    have hf := hw.frozen
    simp only [h1, h2] at c1 c2
    have HW := Lib.hid hw
    clear hw
    go_wp2_with (first
      | (go_at_call 79; refine (string_spec E _ _ (HW.out.set_tokPos _)).mono ?_; rintro e w' ⟨rfl, nq3, rfl⟩))
    go_ret
    exact ⟨rfl, .inr ((HW.out.set_tokPos _).drewN _)⟩
def offOf (src : List UInt8) (l : List Item) : Nat := src.length - (bytesOf l).length
def txt (src : List UInt8) (st : Nat) (l : List Item) : List UInt8 := (src.drop st).take (offOf src l - st)
theorem offOf_pre {src : List UInt8} {pre l : List Item} (h : items src = pre ++ l) : offOf src l = (bytesOf pre).length := by
  have := items_len h; unfold offOf; omega
theorem tokenText_st (E : Env) (src : List UInt8) (w : World) (l : List Item) (x : Sx) (st : Nat) (h : St E src w l x) (hx : x.tok = some st) (hlen : Fits src) :
    Calls Tryd.prog 46 #[.pointer (some ⟨E.b, 0, none⟩)] w fun e w' => e = .returned (.string ⟨(txt src st l).toArray⟩) ∧ St E src w' l x := by
  obtain ⟨pre, r, hR, hd, hX, hte⟩ := h
  have ht := hX.tok
  simp only [hx, TokIs] at ht
  obtain ⟨⟨so, tp, sp, t1, t2, t3, t4, t5, t6⟩, t7⟩ := ht
  obtain ⟨so', sp', se, g, hA⟩ := hd.at_
  have es : so' = so := by have := g.off; omega
  have ep : sp' = sp := by have := g.pos; omega
  subst es ep
  have hlcl := hd.lcl
  have hle := hd.le
  have hap := bytesOf_append pre (l.take 1)
  have hA2 : (bytesOf pre).length + (bytesOf (l.take 1)).length = so' + sp' := by rw [hA, hap, List.length_append]
  have hoff := offOf_pre hd.split
  obtain ⟨te, hte1⟩ : ∃ te : Nat, r.tokEnd = te := ⟨(r.tokEnd).toNat, by omega⟩
  have hte2 : so' + te = (bytesOf pre).length := by omega
  refine (tokenText_raw E src r w so' sp' se tp te st hR g t2 hte1 (by omega) (by omega) t5 t6 hlen).mono ?_
  rintro e w' ⟨rfl, hw⟩
  refine ⟨by unfold txt; rw [hoff, hte2], ?_⟩
  rcases hw with hw | hw
  · exact ⟨pre, r, hw, hd, hX, hte⟩
  · refine ⟨pre, _, hw, ⟨hd.split, ⟨so', sp', se, ⟨g.off, g.pos, g.end_, g.spse, g.se4, g.len, g.buf, g.sent, g.rem, g.calls⟩, hA⟩, hd.lcl, hd.le, hd.pos⟩, ⟨hX.ec, hX.cnt, hX.ch, hX.mode, hX.white, hX.offs, hX.ln, hX.co, ?_⟩, hte⟩
    simp only [hx, TokIs]
    exact ⟨⟨so', te, sp', t1, rfl, t3, by omega, by omega, rfl⟩, by omega⟩
end Go.Proofs.YtmfihkgbfoapaaaDoor
namespace Go.Proofs.YtmfihkgbfoapaaaDoor
open Go Go.RowKit Go.Lib Go.BigFrame
def sepGo (hex : Bool) : Int → List UInt8 → Bool
  | d, [] => decide (d = 95)
  | d, c :: t => if (c.toNat : Int) = 95 then (if d = 48 then sepGo hex 95 t else true)
    else if isDec c.toNat = true ∨ (hex = true ∧ isHexa c.toNat = true) then sepGo hex 48 t
    else if d = 95 then true else sepGo hex 46 t
def sepPre (s : List UInt8) : Bool := decide (2 ≤ s.length) && decide ((gb s 0 : Int) = 48) && (decide (lowerOf (gb s 1) = 120) || decide (lowerOf (gb s 1) = 111) || decide (lowerOf (gb s 1) = 98))
def sepBad (s : List UInt8) : Bool := if sepPre s = true then sepGo (decide (lowerOf (gb s 1) = 120)) 48 (s.drop 2) else sepGo false 46 s
theorem sepBad_no {s : List UInt8} (h : ¬ (2 ≤ s.length ∧ gb s 0 = 48) ∨ (lowerOf (gb s 1) ≠ 120 ∧ lowerOf (gb s 1) ≠ 111 ∧ lowerOf (gb s 1) ≠ 98)) : sepBad s = sepGo false 46 s := by
  unfold sepBad
  rw [if_neg]
  unfold sepPre
  simp only [Bool.and_eq_true, Bool.or_eq_true, decide_eq_true_eq]
  omega
theorem sepBad_pre {s : List UInt8} (h : 2 ≤ s.length) (h1 : gb s 0 = 48) (h2 : lowerOf (gb s 1) = 120 ∨ lowerOf (gb s 1) = 111 ∨ lowerOf (gb s 1) = 98) : sepBad s = sepGo (decide (lowerOf (gb s 1) = 120)) 48 (s.drop 2) := by
  unfold sepBad
  rw [if_pos]
  unfold sepPre
  simp only [Bool.and_eq_true, Bool.or_eq_true, decide_eq_true_eq]
  omega
theorem sep_a {hx : Bool} {d : Int} {c : UInt8} {t : List UInt8} (h : (c.toNat : Int) = 95) (h1 : d ≠ 48) : sepGo hx d (c :: t) = true := by rw [sepGo, if_pos h, if_neg h1]
theorem sep_b {hx : Bool} {d : Int} {c : UInt8} {t : List UInt8} (h : (c.toNat : Int) = 95) (h1 : d = 48) : sepGo hx d (c :: t) = sepGo hx 95 t := by rw [sepGo, if_pos h, if_pos h1]
theorem sep_c {hx : Bool} {d : Int} {c : UInt8} {t : List UInt8} (h : (c.toNat : Int) ≠ 95) (h1 : isDec c.toNat = true ∨ (hx = true ∧ isHexa c.toNat = true)) : sepGo hx d (c :: t) = sepGo hx 48 t := by rw [sepGo, if_neg h, if_pos h1]
theorem sep_d {hx : Bool} {d : Int} {c : UInt8} {t : List UInt8} (h : (c.toNat : Int) ≠ 95) (h1 : isDec c.toNat = false) (h2 : hx = false ∨ isHexa c.toNat = false) (h3 : d = 95) : sepGo hx d (c :: t) = true := by
  rw [sepGo, if_neg h, if_neg (by rintro (e | ⟨e1, e2⟩); · rw [h1] at e; cases e
                                  · rcases h2 with h2 | h2
                                    · rw [h2] at e1; cases e1
                                    · rw [h2] at e2; cases e2), if_pos h3]
theorem sep_e {hx : Bool} {d : Int} {c : UInt8} {t : List UInt8} (h : (c.toNat : Int) ≠ 95) (h1 : isDec c.toNat = false) (h2 : hx = false ∨ isHexa c.toNat = false) (h3 : d ≠ 95) : sepGo hx d (c :: t) = sepGo hx 46 t := by
  rw [sepGo, if_neg h, if_neg (by rintro (e | ⟨e1, e2⟩); · rw [h1] at e; cases e
                                  · rcases h2 with h2 | h2
                                    · rw [h2] at e1; cases e1
                                    · rw [h2] at e2; cases e2), if_neg h3]
theorem wrap32_byte (b : UInt8) : wrap32 ((b.toNat : Nat) : Int) = ((b.toNat : Nat) : Int) := by have := b.toNat_lt; unfold wrap32; omega
theorem lower_byte {s : List UInt8} {v : Int} (h : 1 < (⟨s.toArray⟩ : ByteArray).size) (hv : v = lowerOf (wrap32 ((((⟨s.toArray⟩ : ByteArray)[1]'h).toNat : Nat) : Int))) : v = lowerOf (gb s 1) := by
  have h1 : 1 < s.length := h
  rw [hv, wrap32_byte, gb_get h1]; rfl
theorem lower_var (w : World) (c : Int) : Calls Tryd.prog 93 #[.int .i32 c] w fun e w' => ∃ v : Int, e = .returned (.int .i32 v) ∧ Hid (v = lowerOf c) ∧ w' = w :=
  (lower_spec w c).mono fun _ _ ⟨h1, h2⟩ => ⟨_, h1, Lib.hid rfl, h2⟩
theorem isHex_var (w : World) (c : Int) : Calls Tryd.prog 108 #[.int .i32 c] w fun e w' => ∃ b : Bool, e = .returned (.bool b) ∧ Hid (b = isHexa c) ∧ w' = w :=
  (isHex_spec w c).mono fun _ _ ⟨h1, h2⟩ => ⟨_, h1, Lib.hid rfl, h2⟩
set_option maxRecDepth 100000 in
set_option maxHeartbeats 1600000 in
theorem invalidSep_spec (w : World) (s : List UInt8) (hs : s.length ≤ 70368744177664) :
    Calls Tryd.prog 97 #[.string ⟨s.toArray⟩] w fun e w' => w' = w ∧ ∃ r : Int, e = .returned (.int .i64 r) ∧ (0 ≤ r ↔ sepBad s = true) := by
  go_enter Tryd.func97, Tryd.ntmps97
  go_upto_region 4 with (fail)
  go_cut [14] (fun u wr => wr = w ∧ ∃ b : Bool, u = .bool b ∧ (b = true ↔ (2 ≤ s.length ∧ gb s 0 = 48)))
  case first =>
    go_wp2_with (fail)
    · go_meet
      have h2 : 2 ≤ s.length := by omega
      refine ⟨rfl, _, rfl, ?_⟩
      rw [beq_iff_eq, gb_get (by omega)]
      exact ⟨fun h => ⟨h2, by have : ((s[0].toNat : Nat) : Int) = 48 := h; omega⟩, fun h => by show ((s[0].toNat : Nat) : Int) = 48; omega⟩
    · go_meet
      exact ⟨rfl, false, rfl, ⟨fun h => (by cases h), fun h => by omega⟩⟩
  case rest =>
    obtain ⟨ew, b, rfl, hb⟩ := hcut
    subst ew
    have HB := Lib.hid hb
    clear hb
    go_upto_if 14 with (fail)
    go_cut [3, 4, 5] (fun x1 d i wr => ∃ (v d0 : Int) (n : Nat), x1 = .int .i32 v ∧ d = .int .i32 d0 ∧ i = .int .i64 n ∧ n ≤ s.length ∧ wr = wc ∧ sepBad s = sepGo (decide (v = 120)) d0 (s.drop n) ∧ (d0 = 95 → 1 ≤ n))
    case first =>
      cases b with
      | false =>
        go_wp2_with (fail)
        go_meet
        have h2 : ¬ (2 ≤ s.length ∧ gb s 0 = 48) := fun h => by have := HB.out.2 h; cases this
        exact ⟨32, 46, 0, rfl, rfl, rfl, Nat.zero_le _, rfl, by rw [sepBad_no (.inl h2)]; rfl, fun h => by omega⟩
      | true =>
        have hl : 2 ≤ s.length := (HB.out.1 rfl).1
        have H2 := Lib.hid (HB.out.1 rfl)
        clear HB
        go_wp2_with (first
          | (go_at_call 93; refine (lower_var _ _).mono ?_; rintro e w' ⟨v, rfl, HV, rfl⟩))
        all_goals go_meet
        all_goals have h2 := H2.out
        all_goals have hv : v = lowerOf (gb s 1) := lower_byte _ HV.out
        · exact ⟨120, 48, 2, rfl, rfl, rfl, h2.1, rfl, by rw [sepBad_pre h2.1 h2.2 (by omega), ← hv]; rw [show v = 120 by assumption], fun h => by omega⟩
        · exact ⟨111, 48, 2, rfl, rfl, rfl, h2.1, rfl, by rw [sepBad_pre h2.1 h2.2 (by omega), ← hv]; rw [show v = 111 by assumption], fun h => by omega⟩
        · have h6 : ((v == 120) = true ∨ (v == 111) = true) ∨ (v == 98) = true := by assumption
          simp only [beq_iff_eq] at h6
          exact ⟨v, 48, 2, rfl, rfl, rfl, h2.1, rfl, by rw [sepBad_pre h2.1 h2.2 (by omega), ← hv], fun h => by omega⟩
        · have h6 : ((v == 120) = false ∧ (v == 111) = false) ∧ (v == 98) = false := by assumption
          simp only [beq_eq_false_iff_ne, ne_eq] at h6
          have h7 : decide (v = 120) = false := decide_eq_false (by omega)
          exact ⟨v, 46, 0, rfl, rfl, rfl, Nat.zero_le _, rfl, by rw [sepBad_no (.inr (by omega)), h7]; rfl, fun h => by omega⟩
    case rest =>
      obtain ⟨v, d0, n, rfl, rfl, rfl, hn, rfl, hb, h1⟩ := hcut
      have HC := Lib.hid (And.intro hb h1)
      clear hb h1
      have HN := Lib.hid hn
      clear hn
      go_wp2_with (fail)
      go_loopg [4, 5] (s.length - n) (fun k d i wr => ∃ (d1 : Int) (m : Nat), d = .int .i32 d1 ∧ i = .int .i64 m ∧ m ≤ s.length ∧ s.length ≤ m + k ∧ wr = wc ∧ sepBad s = sepGo (decide (v = 120)) d1 (s.drop m) ∧ (d1 = 95 → 1 ≤ m))
      case atStart => exact ⟨d0, n, rfl, rfl, HN.out, by omega, rfl, HC.out.1, HC.out.2⟩
      case round =>
        obtain ⟨d1, m, rfl, rfl, hm, hk, rfl, hb, h1⟩ := hrel
        clear HC HN
        by_cases hlt : m < s.length
        · obtain ⟨c, hc⟩ : ∃ c : UInt8, s[m] = c := ⟨_, rfl⟩
          have hd := List.drop_eq_getElem_cons hlt
          rw [hc] at hd
          rw [hd] at hb
          have hix : (⟨s.toArray⟩ : ByteArray)[m]'hlt = c := hc
          have hw := wrap32_byte c
          have hm0 : m ≤ 70368744177664 := by omega
          have HB := Lib.hid (And.intro hb h1)
          have HK := Lib.hid hk
          clear hb h1 hd hc hk
          go_wp2_with (first
            | (go_at_call 71; refine (isDecimal_spec _ _).mono ?_; rintro e w' ⟨rfl, rfl⟩)
            | (go_at_call 108; refine (isHex_var _ _).mono ?_; rintro e w' ⟨bh, rfl, HH, rfl⟩))
          · have h95 : (c.toNat : Int) = 95 := by simpa using ‹((c.toNat : Int) == 95) = true›
            have h48 : d1 ≠ 48 := by simpa using ‹(d1 != 48) = true›
            go_ret
            exact ⟨rfl, _, rfl, ⟨fun _ => by rw [HB.out.1]; exact sep_a h95 h48, fun _ => by omega⟩⟩
          · have h95 : (c.toNat : Int) = 95 := by simpa using ‹((c.toNat : Int) == 95) = true›
            have h48 : d1 = 48 := by simpa using ‹(d1 != 48) = false›
            have hb := HB.out.1
            have hk := HK.out
            rw [sep_b h95 h48] at hb
            go_roundg (gk - 1)
            case measure => omega
            case rel => exact ⟨_, m + 1, rfl, rfl, by omega, by omega, rfl, by rw [h95, show wrap32 95 = 95 from by unfold wrap32; rfl]; exact hb, fun _ => by omega⟩
          · have h95 : (c.toNat : Int) ≠ 95 := by simpa using ‹((c.toNat : Int) == 95) = false›
            have hb := HB.out.1
            have hk := HK.out
            rw [sep_c h95 (.inl (by assumption))] at hb
            go_roundg (gk - 1)
            case measure => omega
            case rel => exact ⟨48, m + 1, rfl, rfl, by omega, by omega, rfl, hb, fun h => by omega⟩
          · have h95 : (c.toNat : Int) ≠ 95 := by simpa using ‹((c.toNat : Int) == 95) = false›
            have hb := HB.out.1
            have hk := HK.out
            have hh := HH.out
            have hv : v = 120 := by assumption
            subst hv
            rw [sep_c h95 (.inr ⟨decide_eq_true rfl, by rw [← hh]; assumption⟩)] at hb
            go_roundg (gk - 1)
            case measure => omega
            case rel => exact ⟨48, m + 1, rfl, rfl, by omega, by omega, rfl, hb, fun h => by omega⟩
          · have h95 : (c.toNat : Int) ≠ 95 := by simpa using ‹((c.toNat : Int) == 95) = false›
            have hd : d1 = 95 := by simpa using ‹(d1 == 95) = true›
            have hh := HH.out
            have hbf : bh = false := by assumption
            have h2 := HB.out.2 hd
            go_ret
            exact ⟨rfl, _, rfl, ⟨fun _ => by rw [HB.out.1]; exact sep_d h95 (by simpa using ‹¬isDec c.toNat = true›) (.inr (by rw [← hh, hbf])) hd, fun _ => by omega⟩⟩
          · have h95 : (c.toNat : Int) ≠ 95 := by simpa using ‹((c.toNat : Int) == 95) = false›
            have hd : d1 ≠ 95 := by simpa using ‹(d1 == 95) = false›
            have hb := HB.out.1
            have hk := HK.out
            have hh := HH.out
            have hbf : bh = false := by assumption
            have hv : v = 120 := by assumption
            subst hv
            rw [sep_e h95 (by simpa using ‹¬isDec c.toNat = true›) (.inr (by rw [← hh, hbf])) hd] at hb
            go_roundg (gk - 1)
            case measure => omega
            case rel => exact ⟨46, m + 1, rfl, rfl, by omega, by omega, rfl, hb, fun h => by omega⟩
          · have h95 : (c.toNat : Int) ≠ 95 := by simpa using ‹((c.toNat : Int) == 95) = false›
            have hd : d1 = 95 := by simpa using ‹(d1 == 95) = true›
            have h2 := HB.out.2 hd
            go_ret
            exact ⟨rfl, _, rfl, ⟨fun _ => by rw [HB.out.1]; exact sep_d h95 (by simpa using ‹¬isDec c.toNat = true›) (.inl (decide_eq_false (by assumption))) hd, fun _ => by omega⟩⟩
          · have h95 : (c.toNat : Int) ≠ 95 := by simpa using ‹((c.toNat : Int) == 95) = false›
            have hd : d1 ≠ 95 := by simpa using ‹(d1 == 95) = false›
            have hb := HB.out.1
            have hk := HK.out
            rw [sep_e h95 (by simpa using ‹¬isDec c.toNat = true›) (.inl (decide_eq_false (by assumption))) hd] at hb
            go_roundg (gk - 1)
            case measure => omega
            case rel => exact ⟨46, m + 1, rfl, rfl, by omega, by omega, rfl, hb, fun h => by omega⟩
        · have e : m = s.length := by omega
          rw [List.drop_eq_nil_of_le (by omega)] at hb
          have HB := Lib.hid (And.intro hb h1)
          clear hb h1
          go_wp2_with (fail)
          · have hd : d1 = 95 := by simpa using ‹(d1 == 95) = true›
            have h2 := HB.out.2 hd
            go_ret
            exact ⟨rfl, _, rfl, ⟨fun _ => by rw [HB.out.1]; exact decide_eq_true hd, fun _ => by omega⟩⟩
          · have hd : d1 ≠ 95 := by simpa using ‹(d1 == 95) = false›
            go_ret
            exact ⟨rfl, _, rfl, ⟨fun h => absurd h (by decide), fun h => by rw [HB.out.1] at h; exact absurd (of_decide_eq_true h) hd⟩⟩
end Go.Proofs.YtmfihkgbfoapaaaDoor
