/- The separators of a number. -/
import Derived.Test.YtmfihkgbfoapaaaDoorD5
namespace Go.Proofs.YtmfihkgbfoapaaaDoor
open Go Go.RowKit Go.Lib Go.BigFrame

/-- A '_' that does not separate digits. -/
def sepGo (hex : Bool) : Int → List UInt8 → Bool
  | d, [] => decide (d = 95)
  | d, c :: t => if (c.toNat : Int) = 95 then (if d = 48 then sepGo hex 95 t else true)
    else if isDec c.toNat = true ∨ (hex = true ∧ isHexa c.toNat = true) then sepGo hex 48 t
    else if d = 95 then true else sepGo hex 46 t
def sepPre (s : List UInt8) : Bool := decide (2 ≤ s.length) && decide ((gb s 0 : Int) = 48) && (decide (lowerOf (gb s 1) = 120) || decide (lowerOf (gb s 1) = 111) || decide (lowerOf (gb s 1) = 98))
def sepBad (s : List UInt8) : Bool := if sepPre s = true then sepGo (decide (lowerOf (gb s 1) = 120)) 48 (s.drop 2) else sepGo false 46 s

theorem sepBad_no {s : List UInt8} (h : ¬ (2 ≤ s.length ∧ gb s 0 = 48) ∨ (lowerOf (gb s 1) ≠ 120 ∧ lowerOf (gb s 1) ≠ 111 ∧ lowerOf (gb s 1) ≠ 98)) : sepBad s = sepGo false 46 s := by
  unfold sepBad
  rw [if_neg]
  unfold sepPre
  simp only [Bool.and_eq_true, Bool.or_eq_true, decide_eq_true_eq]
  omega
theorem sepBad_pre {s : List UInt8} (h : 2 ≤ s.length) (h1 : gb s 0 = 48) (h2 : lowerOf (gb s 1) = 120 ∨ lowerOf (gb s 1) = 111 ∨ lowerOf (gb s 1) = 98) : sepBad s = sepGo (decide (lowerOf (gb s 1) = 120)) 48 (s.drop 2) := by
  unfold sepBad
  rw [if_pos]
  unfold sepPre
  simp only [Bool.and_eq_true, Bool.or_eq_true, decide_eq_true_eq]
  omega
theorem sep_a {hx : Bool} {d : Int} {c : UInt8} {t : List UInt8} (h : (c.toNat : Int) = 95) (h1 : d ≠ 48) : sepGo hx d (c :: t) = true := by rw [sepGo, if_pos h, if_neg h1]
theorem sep_b {hx : Bool} {d : Int} {c : UInt8} {t : List UInt8} (h : (c.toNat : Int) = 95) (h1 : d = 48) : sepGo hx d (c :: t) = sepGo hx 95 t := by rw [sepGo, if_pos h, if_pos h1]
theorem sep_c {hx : Bool} {d : Int} {c : UInt8} {t : List UInt8} (h : (c.toNat : Int) ≠ 95) (h1 : isDec c.toNat = true ∨ (hx = true ∧ isHexa c.toNat = true)) : sepGo hx d (c :: t) = sepGo hx 48 t := by rw [sepGo, if_neg h, if_pos h1]
theorem sep_d {hx : Bool} {d : Int} {c : UInt8} {t : List UInt8} (h : (c.toNat : Int) ≠ 95) (h1 : isDec c.toNat = false) (h2 : hx = false ∨ isHexa c.toNat = false) (h3 : d = 95) : sepGo hx d (c :: t) = true := by
  rw [sepGo, if_neg h, if_neg (by rintro (e | ⟨e1, e2⟩); · rw [h1] at e; cases e
                                  · rcases h2 with h2 | h2
                                    · rw [h2] at e1; cases e1
                                    · rw [h2] at e2; cases e2), if_pos h3]
theorem sep_e {hx : Bool} {d : Int} {c : UInt8} {t : List UInt8} (h : (c.toNat : Int) ≠ 95) (h1 : isDec c.toNat = false) (h2 : hx = false ∨ isHexa c.toNat = false) (h3 : d ≠ 95) : sepGo hx d (c :: t) = sepGo hx 46 t := by
  rw [sepGo, if_neg h, if_neg (by rintro (e | ⟨e1, e2⟩); · rw [h1] at e; cases e
                                  · rcases h2 with h2 | h2
                                    · rw [h2] at e1; cases e1
                                    · rw [h2] at e2; cases e2), if_neg h3]
theorem wrap32_byte (b : UInt8) : wrap32 ((b.toNat : Nat) : Int) = ((b.toNat : Nat) : Int) := by have := b.toNat_lt; unfold wrap32; omega
theorem lower_byte {s : List UInt8} {v : Int} (h : 1 < (⟨s.toArray⟩ : ByteArray).size) (hv : v = lowerOf (wrap32 ((((⟨s.toArray⟩ : ByteArray)[1]'h).toNat : Nat) : Int))) : v = lowerOf (gb s 1) := by
  have h1 : 1 < s.length := h
  rw [hv, wrap32_byte, gb_get h1]; rfl
theorem lower_var (w : World) (c : Int) : Calls Tryd.prog 93 #[.int .i32 c] w fun e w' => ∃ v : Int, e = .returned (.int .i32 v) ∧ Hid (v = lowerOf c) ∧ w' = w :=
  (lower_spec w c).mono fun _ _ ⟨h1, h2⟩ => ⟨_, h1, Lib.hid rfl, h2⟩
theorem isHex_var (w : World) (c : Int) : Calls Tryd.prog 108 #[.int .i32 c] w fun e w' => ∃ b : Bool, e = .returned (.bool b) ∧ Hid (b = isHexa c) ∧ w' = w :=
  (isHex_spec w c).mono fun _ _ ⟨h1, h2⟩ => ⟨_, h1, Lib.hid rfl, h2⟩

set_option maxRecDepth 100000 in
set_option maxHeartbeats 1600000 in
theorem invalidSep_spec (w : World) (s : List UInt8) (hs : s.length ≤ 70368744177664) :
    Calls Tryd.prog 97 #[.string ⟨s.toArray⟩] w fun e w' => w' = w ∧ ∃ r : Int, e = .returned (.int .i64 r) ∧ (0 ≤ r ↔ sepBad s = true) := by
  go_enter Tryd.func97, Tryd.ntmps97
  go_upto_region 4 with (fail)
  go_cut [14] (fun u wr => wr = w ∧ ∃ b : Bool, u = .bool b ∧ (b = true ↔ (2 ≤ s.length ∧ gb s 0 = 48)))
  case first =>
    go_wp2_with (fail)
    · go_meet
      have h2 : 2 ≤ s.length := by omega
      refine ⟨rfl, _, rfl, ?_⟩
      rw [beq_iff_eq, gb_get (by omega)]
      exact ⟨fun h => ⟨h2, by have : ((s[0].toNat : Nat) : Int) = 48 := h; omega⟩, fun h => by show ((s[0].toNat : Nat) : Int) = 48; omega⟩
    · go_meet
      exact ⟨rfl, false, rfl, ⟨fun h => (by cases h), fun h => by omega⟩⟩
  case rest =>
    obtain ⟨ew, b, rfl, hb⟩ := hcut
    subst ew
    have HB := Lib.hid hb
    clear hb
    go_upto_if 14 with (fail)
    go_cut [3, 4, 5] (fun x1 d i wr => ∃ (v d0 : Int) (n : Nat), x1 = .int .i32 v ∧ d = .int .i32 d0 ∧ i = .int .i64 n ∧ n ≤ s.length ∧ wr = wc ∧ sepBad s = sepGo (decide (v = 120)) d0 (s.drop n) ∧ (d0 = 95 → 1 ≤ n))
    case first =>
      cases b with
      | false =>
        go_wp2_with (fail)
        go_meet
        have h2 : ¬ (2 ≤ s.length ∧ gb s 0 = 48) := fun h => by have := HB.out.2 h; cases this
        exact ⟨32, 46, 0, rfl, rfl, rfl, Nat.zero_le _, rfl, by rw [sepBad_no (.inl h2)]; rfl, fun h => by omega⟩
      | true =>
        have hl : 2 ≤ s.length := (HB.out.1 rfl).1
        have H2 := Lib.hid (HB.out.1 rfl)
        clear HB
        go_wp2_with (first
          | (go_at_call 93; refine (lower_var _ _).mono ?_; rintro e w' ⟨v, rfl, HV, rfl⟩))
        all_goals go_meet
        all_goals have h2 := H2.out
        all_goals have hv : v = lowerOf (gb s 1) := lower_byte _ HV.out
        · exact ⟨120, 48, 2, rfl, rfl, rfl, h2.1, rfl, by rw [sepBad_pre h2.1 h2.2 (by omega), ← hv]; rw [show v = 120 by assumption], fun h => by omega⟩
        · exact ⟨111, 48, 2, rfl, rfl, rfl, h2.1, rfl, by rw [sepBad_pre h2.1 h2.2 (by omega), ← hv]; rw [show v = 111 by assumption], fun h => by omega⟩
        · have h6 : ((v == 120) = true ∨ (v == 111) = true) ∨ (v == 98) = true := by assumption
          simp only [beq_iff_eq] at h6
          exact ⟨v, 48, 2, rfl, rfl, rfl, h2.1, rfl, by rw [sepBad_pre h2.1 h2.2 (by omega), ← hv], fun h => by omega⟩
        · have h6 : ((v == 120) = false ∧ (v == 111) = false) ∧ (v == 98) = false := by assumption
          simp only [beq_eq_false_iff_ne, ne_eq] at h6
          have h7 : decide (v = 120) = false := decide_eq_false (by omega)
          exact ⟨v, 46, 0, rfl, rfl, rfl, Nat.zero_le _, rfl, by rw [sepBad_no (.inr (by omega)), h7]; rfl, fun h => by omega⟩
    case rest =>
      obtain ⟨v, d0, n, rfl, rfl, rfl, hn, rfl, hb, h1⟩ := hcut
      have HC := Lib.hid (And.intro hb h1)
      clear hb h1
      have HN := Lib.hid hn
      clear hn
      go_wp2_with (fail)
      go_loopg [4, 5] (s.length - n) (fun k d i wr => ∃ (d1 : Int) (m : Nat), d = .int .i32 d1 ∧ i = .int .i64 m ∧ m ≤ s.length ∧ s.length ≤ m + k ∧ wr = wc ∧ sepBad s = sepGo (decide (v = 120)) d1 (s.drop m) ∧ (d1 = 95 → 1 ≤ m))
      case atStart => exact ⟨d0, n, rfl, rfl, HN.out, by omega, rfl, HC.out.1, HC.out.2⟩
      case round =>
        obtain ⟨d1, m, rfl, rfl, hm, hk, rfl, hb, h1⟩ := hrel
        clear HC HN
        by_cases hlt : m < s.length
        · obtain ⟨c, hc⟩ : ∃ c : UInt8, s[m] = c := ⟨_, rfl⟩
          have hd := List.drop_eq_getElem_cons hlt
          rw [hc] at hd
          rw [hd] at hb
          have hix : (⟨s.toArray⟩ : ByteArray)[m]'hlt = c := hc
          have hw := wrap32_byte c
          have hm0 : m ≤ 70368744177664 := by omega
          have HB := Lib.hid (And.intro hb h1)
          have HK := Lib.hid hk
          clear hb h1 hd hc hk
          go_wp2_with (first
            | (go_at_call 71; refine (isDecimal_spec _ _).mono ?_; rintro e w' ⟨rfl, rfl⟩)
            | (go_at_call 108; refine (isHex_var _ _).mono ?_; rintro e w' ⟨bh, rfl, HH, rfl⟩))
          · have h95 : (c.toNat : Int) = 95 := by simpa using ‹((c.toNat : Int) == 95) = true›
            have h48 : d1 ≠ 48 := by simpa using ‹(d1 != 48) = true›
            go_ret
            exact ⟨rfl, _, rfl, ⟨fun _ => by rw [HB.out.1]; exact sep_a h95 h48, fun _ => by omega⟩⟩
          · have h95 : (c.toNat : Int) = 95 := by simpa using ‹((c.toNat : Int) == 95) = true›
            have h48 : d1 = 48 := by simpa using ‹(d1 != 48) = false›
            have hb := HB.out.1
            have hk := HK.out
            rw [sep_b h95 h48] at hb
            go_roundg (gk - 1)
            case measure => omega
            case rel => exact ⟨_, m + 1, rfl, rfl, by omega, by omega, rfl, by rw [h95, show wrap32 95 = 95 from by unfold wrap32; rfl]; exact hb, fun _ => by omega⟩
          · have h95 : (c.toNat : Int) ≠ 95 := by simpa using ‹((c.toNat : Int) == 95) = false›
            have hb := HB.out.1
            have hk := HK.out
            rw [sep_c h95 (.inl (by assumption))] at hb
            go_roundg (gk - 1)
            case measure => omega
            case rel => exact ⟨48, m + 1, rfl, rfl, by omega, by omega, rfl, hb, fun h => by omega⟩
          · have h95 : (c.toNat : Int) ≠ 95 := by simpa using ‹((c.toNat : Int) == 95) = false›
            have hb := HB.out.1
            have hk := HK.out
            have hh := HH.out
            have hv : v = 120 := by assumption
            subst hv
            rw [sep_c h95 (.inr ⟨decide_eq_true rfl, by rw [← hh]; assumption⟩)] at hb
            go_roundg (gk - 1)
            case measure => omega
            case rel => exact ⟨48, m + 1, rfl, rfl, by omega, by omega, rfl, hb, fun h => by omega⟩
          · have h95 : (c.toNat : Int) ≠ 95 := by simpa using ‹((c.toNat : Int) == 95) = false›
            have hd : d1 = 95 := by simpa using ‹(d1 == 95) = true›
            have hh := HH.out
            have hbf : bh = false := by assumption
            have h2 := HB.out.2 hd
            go_ret
            exact ⟨rfl, _, rfl, ⟨fun _ => by rw [HB.out.1]; exact sep_d h95 (by simpa using ‹¬isDec c.toNat = true›) (.inr (by rw [← hh, hbf])) hd, fun _ => by omega⟩⟩
          · have h95 : (c.toNat : Int) ≠ 95 := by simpa using ‹((c.toNat : Int) == 95) = false›
            have hd : d1 ≠ 95 := by simpa using ‹(d1 == 95) = false›
            have hb := HB.out.1
            have hk := HK.out
            have hh := HH.out
            have hbf : bh = false := by assumption
            have hv : v = 120 := by assumption
            subst hv
            rw [sep_e h95 (by simpa using ‹¬isDec c.toNat = true›) (.inr (by rw [← hh, hbf])) hd] at hb
            go_roundg (gk - 1)
            case measure => omega
            case rel => exact ⟨46, m + 1, rfl, rfl, by omega, by omega, rfl, hb, fun h => by omega⟩
          · have h95 : (c.toNat : Int) ≠ 95 := by simpa using ‹((c.toNat : Int) == 95) = false›
            have hd : d1 = 95 := by simpa using ‹(d1 == 95) = true›
            have h2 := HB.out.2 hd
            go_ret
            exact ⟨rfl, _, rfl, ⟨fun _ => by rw [HB.out.1]; exact sep_d h95 (by simpa using ‹¬isDec c.toNat = true›) (.inl (decide_eq_false (by assumption))) hd, fun _ => by omega⟩⟩
          · have h95 : (c.toNat : Int) ≠ 95 := by simpa using ‹((c.toNat : Int) == 95) = false›
            have hd : d1 ≠ 95 := by simpa using ‹(d1 == 95) = false›
            have hb := HB.out.1
            have hk := HK.out
            rw [sep_e h95 (by simpa using ‹¬isDec c.toNat = true›) (.inl (decide_eq_false (by assumption))) hd] at hb
            go_roundg (gk - 1)
            case measure => omega
            case rel => exact ⟨46, m + 1, rfl, rfl, by omega, by omega, rfl, hb, fun h => by omega⟩
        · have e : m = s.length := by omega
          rw [List.drop_eq_nil_of_le (by omega)] at hb
          have HB := Lib.hid (And.intro hb h1)
          clear hb h1
          go_wp2_with (fail)
          · have hd : d1 = 95 := by simpa using ‹(d1 == 95) = true›
            have h2 := HB.out.2 hd
            go_ret
            exact ⟨rfl, _, rfl, ⟨fun _ => by rw [HB.out.1]; exact decide_eq_true hd, fun _ => by omega⟩⟩
          · have hd : d1 ≠ 95 := by simpa using ‹(d1 == 95) = false›
            go_ret
            exact ⟨rfl, _, rfl, ⟨fun h => absurd h (by decide), fun h => by rw [HB.out.1] at h; exact absurd (of_decide_eq_true h) hd⟩⟩
end Go.Proofs.YtmfihkgbfoapaaaDoor
