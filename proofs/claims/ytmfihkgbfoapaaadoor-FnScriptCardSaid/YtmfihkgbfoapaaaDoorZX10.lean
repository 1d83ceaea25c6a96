/- Own texts X10 of this claim, cut to what the claim uses. -/
import Derived.Test.YtmfihkgbfoapaaaDoorZX9
namespace Go.Proofs.YtmfihkgbfoapaaaDoor
set_option linter.unusedVariables false
set_option linter.unusedSimpArgs false
open Go Go.RowKit Go.Lib Go.BigFrame Go.Proofs.YtmfihkgbfoapaaaDoorW.PrintWords
theorem bits_tab : ((List.range 256).all fun m => (hasBit (4 * (m : Int)) 4 == sBit m 1) && (hasBit (4 * (m : Int)) 24 == (sBit m 2 || sBit m 4)) && (hasBit (4 * (m : Int)) 16 == sBit m 4) && (hasBit (4 * (m : Int)) 32 == sBit m 8) &&
    (hasBit (4 * (m : Int)) 64 == sBit m 16) && (hasBit (4 * (m : Int)) 128 == sBit m 32) && (hasBit (4 * (m : Int)) 256 == sBit m 64) && (hasBit (4 * (m : Int)) 512 == sBit m 128)) = true := by kernel_rfl
structure BitsAt (mode : Int) : Prop where
  b1 : hasBit (4 * mode) 4 = sBit mode 1
  b24 : hasBit (4 * mode) 24 = (sBit mode 2 || sBit mode 4)
  b4 : hasBit (4 * mode) 16 = sBit mode 4
  b8 : hasBit (4 * mode) 32 = sBit mode 8
  b16 : hasBit (4 * mode) 64 = sBit mode 16
  b32 : hasBit (4 * mode) 128 = sBit mode 32
  b64 : hasBit (4 * mode) 256 = sBit mode 64
  b128 : hasBit (4 * mode) 512 = sBit mode 128
theorem bits_at {mode : Int} (h0 : 0 ≤ mode) (h1 : mode ≤ 255) : BitsAt mode := by
  obtain ⟨m, rfl⟩ : ∃ m : Nat, mode = m := ⟨mode.toNat, by omega⟩
  have := List.all_eq_true.1 bits_tab m (List.mem_range.2 (by omega))
  simp only [Bool.and_eq_true, beq_iff_eq] at this
  obtain ⟨⟨⟨⟨⟨⟨⟨a, b⟩, c⟩, d⟩, e⟩, f⟩, g⟩, h⟩ := this
  exact ⟨a, b, c, d, e, f, g, h⟩
theorem scanGo_eq {C : Cfg} {src : List UInt8} {l l' : List Item} (h : more (isWh C.white) l = more (isWh C.white) l') : scanGo C src l = scanGo C src l' := by
  cases hr : (oneAt C src (more (isWh C.white) l)).redo with
  | true =>
    have hr' := hr
    rw [h] at hr'
    rw [scanGo_redo hr, scanGo_redo hr', h]
  | false =>
    have hr' := hr
    rw [h] at hr'
    rw [scanGo_stop hr, scanGo_stop hr', h]
theorem scan_white {C : Cfg} {src : List UInt8} {l : List Item} (h : isWh C.white (chOf l) = true) : scanGo C src l = scanGo C src l.tail := scanGo_eq (more_step (isWh_end _) h).1
theorem scan_redo0 {C : Cfg} {src : List UInt8} {l l' : List Item} {t : Int} (hw : isWh C.white (chOf l) = false) (h : oneAt C src l = ⟨t, l', 0, true⟩) : scanGo C src l = scanGo C src l' := by
  have hm := more_stop (p := isWh C.white) hw
  have hr : (oneAt C src (more (isWh C.white) l)).redo = true := by rw [hm, h]
  rw [scanGo_redo hr, hm, h]
  simp
theorem scan_stop0 {C : Cfg} {src : List UInt8} {l l' : List Item} {k : Int} (hw : isWh C.white (chOf l) = false) (h : oneAt C src l = ⟨k, l', 0, false⟩) : scanGo C src l = ⟨k, l, l', 0⟩ := by
  have hm := more_stop (p := isWh C.white) hw
  have hr : (oneAt C src (more (isWh C.white) l)).redo = false := by rw [hm, h]
  rw [scanGo_stop hr, hm, h]
def IdClean (I : Idr) : Prop := ∀ r : Int, I.p0 r = true → isDec r = false ∧ r ≠ -1 ∧ r ≠ 34 ∧ r ≠ 39 ∧ r ≠ 46 ∧ r ≠ 47 ∧ r ≠ 96
def spCfg (e : SpE) (mode white : Int) : Cfg := ⟨4 * mode, white, e.s.cfg.I⟩
def TokSp (e : SpE) (w : World) (mode white : Int) (l : List Item) (en : Ending) (w' : World) : Prop :=
  ∃ (k fr : Int) (sure : Bool), en = .returned (.tuple #[.int .i64 k, .int .i64 fr, .bool sure]) ∧ Mv e.q w w' ∧ ∃ l2, Sp e w' mode white l2 ∧
    (sure = true → ∃ a, scanGo (spCfg e mode white) e.src l = ⟨k, a, l2, 0⟩ ∧ fr = ((e.n - a.length : Nat) : Int))
theorem one_id {C : Cfg} {src : List UInt8} {l : List Item} (h : C.I.p0 (chOf l) = true) (hb : hasBit C.mode 4 = true) : oneAt C src l = ⟨-2, more C.I.p1 l.tail, 0, false⟩ := by
  unfold oneAt; rw [if_pos h]; unfold oneId; rw [if_pos hb]
theorem one_end {C : Cfg} {src : List UInt8} : oneAt C src [] = ⟨-1, [], 0, false⟩ := by
  unfold oneAt
  rw [chOf_nil, if_neg (by rw [C.I.e0]; simp), if_neg (by decide), if_pos rfl]
theorem one_num {C : Cfg} {src : List UInt8} {l : List Item} (hI : IdClean C.I) (h : isDec (chOf l) = true) : oneAt C src l = oneNum C src l := by
  unfold oneAt
  rw [if_neg (fun h1 => by have := (hI _ h1).1; rw [h] at this; cases this), if_pos h]
theorem one_dot {C : Cfg} {src : List UInt8} {l : List Item} (hI : IdClean C.I) (h : chOf l = 46) : oneAt C src l = oneDot C src l := by
  unfold oneAt
  rw [if_neg (fun h1 => (hI _ h1).2.2.2.2.1 h), h, if_neg (by decide), if_neg (by decide), if_neg (by decide), if_neg (by decide), if_pos rfl]
theorem one_str {C : Cfg} {src : List UInt8} {l : List Item} (hI : IdClean C.I) (h : chOf l = 34) : oneAt C src l = oneStr C l := by
  unfold oneAt
  rw [if_neg (fun h1 => (hI _ h1).2.2.1 h), h, if_neg (by decide), if_neg (by decide), if_pos rfl]
theorem one_chr {C : Cfg} {src : List UInt8} {l : List Item} (hI : IdClean C.I) (h : chOf l = 39) : oneAt C src l = oneChr C l := by
  unfold oneAt
  rw [if_neg (fun h1 => (hI _ h1).2.2.2.1 h), h, if_neg (by decide), if_neg (by decide), if_neg (by decide), if_pos rfl]
theorem one_com {C : Cfg} {src : List UInt8} {l : List Item} (hI : IdClean C.I) (h : chOf l = 47) : oneAt C src l = oneCom C l := by
  unfold oneAt
  rw [if_neg (fun h1 => (hI _ h1).2.2.2.2.2.1 h), h, if_neg (by decide), if_neg (by decide), if_neg (by decide), if_neg (by decide), if_neg (by decide), if_pos rfl]
theorem one_raw {C : Cfg} {src : List UInt8} {l : List Item} (hI : IdClean C.I) (h : chOf l = 96) : oneAt C src l = oneRaw C l := by
  unfold oneAt
  rw [if_neg (fun h1 => (hI _ h1).2.2.2.2.2.2 h), h, if_neg (by decide), if_neg (by decide), if_neg (by decide), if_neg (by decide), if_neg (by decide), if_neg (by decide), if_pos rfl]
theorem one_self {mode white : Int} {I : Idr} {src : List UInt8} {l : List Item} (hI : IdClean I) (B : BitsAt mode) (h1 : 0 ≤ chOf l) (hid : sBit mode 1 = true → I.p0 (chOf l) = false)
    (hn : isDec (chOf l) = false) (hd : chOf l = 46 → isDec (chOf l.tail) = false) (hs : chOf l = 34 → sBit mode 16 = false) (hc : chOf l = 39 → sBit mode 8 = false) (hr : chOf l = 96 → sBit mode 32 = false)
    (hk : chOf l = 47 → sBit mode 64 = true → chOf l.tail ≠ 47 ∧ chOf l.tail ≠ 42) : oneAt ⟨4 * mode, white, I⟩ src l = ⟨chOf l, l.tail, 0, false⟩ := by
  show _ = One.self l
  by_cases hp : I.p0 (chOf l) = true
  · unfold oneAt
    rw [if_pos hp]
    unfold oneId
    rw [if_neg]
    simp only
    rw [B.b1]
    intro h; rw [hid h] at hp; cases hp
  · by_cases e1 : chOf l = 34
    · rw [one_str hI e1]; unfold oneStr; rw [if_neg]; simp only; rw [B.b16, hs e1]; decide
    by_cases e2 : chOf l = 39
    · rw [one_chr hI e2]; unfold oneChr; rw [if_neg]; simp only; rw [B.b8, hc e2]; decide
    by_cases e3 : chOf l = 46
    · rw [one_dot hI e3]; unfold oneDot; rw [if_neg]; rw [hd e3]; rintro ⟨h, -⟩; cases h
    by_cases e4 : chOf l = 47
    · rw [one_com hI e4]; unfold oneCom; rw [if_neg]; simp only; rw [B.b64]; rintro ⟨h, h2⟩; have := hk e4 h2; omega
    by_cases e5 : chOf l = 96
    · rw [one_raw hI e5]; unfold oneRaw; rw [if_neg]; simp only; rw [B.b32, hr e5]; decide
    unfold oneAt
    rw [if_neg hp, if_neg (by rw [hn]; decide), if_neg (by omega), if_neg e1, if_neg e2, if_neg e3, if_neg e4, if_neg e5]
theorem whiteq {e : SpE} {q : Nat} (hq : e.q = q) {w : World} {mode white : Int} {l : List Item} (h : Sp e w mode white l) (hw : 0 ≤ white ∧ white ≤ 8589934590) (c : Int) (hc : -1 ≤ c ∧ c ≤ 1114111) :
    Calls Tryd.prog 58 #[.pointer (some ⟨q, 0, none⟩), .int .i32 c] w fun en w' => en = .returned (.bool (isWh white c)) ∧ w = w' := by
  subst hq; exact (isWhite_sp e w mode white l h hw c hc).mono fun en w' hh => ⟨hh.1, hh.2.symm⟩
theorem identq {e : SpE} (ok : SpOk e) (fo : FitOk e.s) {q : Nat} (hq : e.q = q) {w : World} {mode white : Int} {l : List Item} (h : Sp e w mode white l) (c i : Int) (hc : -1 ≤ c ∧ c ≤ 1114111) (hi : 0 ≤ i ∧ i ≤ 140737488355328) :
    Calls Tryd.prog 61 #[.pointer (some ⟨q, 0, none⟩), .int .i32 c, .int .i64 i] w fun en w' => en = .returned (.bool (e.s.cfg.I.at i c)) ∧ Below w.heap.size w w' := by
  subst hq; exact inIdent_sp e ok fo w mode white l h c i hc hi
theorem commentq {e : SpE} (ok : SpOk e) {q : Nat} (hq : e.q = q) {w : World} {mode white : Int} {l : List Item} (h : Sp e w mode white l) (h0 : chOf l = 47) (h1 : chOf l.tail = 47 ∨ chOf l.tail = 42) :
    Calls Tryd.prog 60 #[.pointer (some ⟨q, 0, none⟩)] w (SurePost e w mode white ((comment l.tail).2 = 0) (comment l.tail).1) := by
  subst hq; exact comment_sp e ok w mode white l h h0 h1
theorem numberq {e : SpE} (ok : SpOk e) {q : Nat} (hq : e.q = q) {w : World} {mode white : Int} {l : List Item} (h : Sp e w mode white l) (h0 : isDec (chOf l) = true ∨ chOf l = 46) :
    Calls Tryd.prog 62 #[.pointer (some ⟨q, 0, none⟩)] w (NumPost e w mode white l) := by
  subst hq; exact number_sp e ok w mode white l h h0
theorem quotedq {e : SpE} (ok : SpOk e) {q : Nat} (hq : e.q = q) {w : World} {mode white : Int} {l : List Item} (h : Sp e w mode white l) (qt : Int) (hqt : qt = 34 ∨ qt = 39) (h0 : chOf l = qt) :
    Calls Tryd.prog 63 #[.pointer (some ⟨q, 0, none⟩), .int .i32 qt] w (SurePost e w mode white (QuoteOk qt l) (quoteL qt l)) := by
  subst hq; exact quoted_sp e ok w mode white l h qt hqt h0
set_option maxRecDepth 100000 in
set_option maxHeartbeats 6400000 in
theorem token_sp (e : SpE) (ok : SpOk e) (fo : FitOk e.s) (hI : IdClean e.s.cfg.I) (w : World) (mode white : Int) (hm : 0 ≤ mode ∧ mode ≤ 255) (hw : 0 ≤ white ∧ white ≤ 8589934590) (l : List Item) (h : Sp e w mode white l) :
    Calls Tryd.prog 41 #[.pointer (some ⟨e.q, 0, none⟩)] w (TokSp e w mode white l) := by
  obtain ⟨q, hq⟩ : ∃ q, e.q = q := ⟨_, rfl⟩
  rw [hq]
  have HQ := Lib.hid hq
  have OK := Lib.hid ok
  have FO := Lib.hid fo
  have HCL := Lib.hid hI
  have HW := Lib.hid hw
  have HB := Lib.hid (bits_at hm.1 hm.2)
  have H0 := Lib.hid h
  obtain ⟨C, hC⟩ : ∃ C, spCfg e mode white = C := ⟨_, rfl⟩
  have HC := Lib.hid hC
  have hbad : ∀ (wx : World) (lx : List Item) (k fr : Int), Mv q w wx → Sp e wx mode white lx → TokSp e w mode white l (.returned (.tuple #[.int .i64 k, .int .i64 fr, .bool false])) wx := fun wx lx k fr h1 h2 =>
    ⟨k, fr, false, rfl, by rw [hq]; exact h1, lx, h2, fun h => by cases h⟩
  have HBAD := Lib.hid hbad
  clear hq ok fo hI hw hm h hC hbad
  go_enter Tryd.func41, Tryd.ntmps41
  go_wp2_with (fail)
  go_loopg [] l.length (fun kk wr => ∃ (l1 : List Item), l1.length ≤ kk ∧ Sp e wr mode white l1 ∧ Mv q w wr ∧ scanGo C e.src l = scanGo C e.src l1)
  case atStart => exact ⟨l, Nat.le_refl _, H0.out, Mv.refl _ _, rfl⟩
  case round =>
    obtain ⟨l1, hk, hs, hm, hsc⟩ := hrel
    have H1 := Lib.hid (And.intro hk (And.intro hs (And.intro hm hsc)))
    clear hk hs hm hsc
    go_wp2_with (fail)
    go_loopg [] l1.length (fun kk wr => ∃ (l2 : List Item), l2.length ≤ kk ∧ Sp e wr mode white l2 ∧ Mv q w wr ∧ scanGo C e.src l = scanGo C e.src l2 ∧ l2.length ≤ l1.length)
    case atStart => exact ⟨l1, Nat.le_refl _, H1.out.2.1, H1.out.2.2.1, H1.out.2.2.2, Nat.le_refl _⟩
    case round =>
      obtain ⟨l2, hk, hs, hm, hsc, hll⟩ := hrel
      obtain ⟨i, hi⟩ : ∃ i, e.n - l2.length = i := ⟨_, rfl⟩
      have hib := Sp.ib OK.out hi
      obtain ⟨c1, fz⟩ := hs.cellsq HQ.out hi
      obtain ⟨r, hr⟩ : ∃ r, chOf l2 = r := ⟨_, rfl⟩
      obtain ⟨r1, hr1⟩ : ∃ r, chOf l2.tail = r := ⟨_, rfl⟩
      have hrg := hs.range
      rw [hr] at hrg
      have HRG := Lib.hid hrg
      have HR := Lib.hid hr
      have HR1 := Lib.hid hr1
      have HI := Lib.hid hi
      have S := Lib.hid (And.intro hm hs)
      have HK := Lib.hid (And.intro hk (And.intro hsc hll))
      obtain ⟨bw, hbw⟩ : ∃ b, isWh white r = b := ⟨_, rfl⟩
      have HWH := Lib.hid hbw
      clear hk hs hm hsc hll hi hr hr1 hbw
      cases bw with
      | true =>
        have hne : l2 ≠ [] := by rintro rfl; have h1 := HR.out; rw [chOf_nil] at h1; have h2 := HWH.out; rw [← h1] at h2; cases h2
        cases l2 with
        | nil => exact absurd rfl hne
        | cons cx l3 =>
        clear hne hrg
        go_wp2_with (first
          | (go_at_call 57; refine (peekq OK.out HQ.out S.out.2 _ (by decide)).mono ?_; (try rw [drop1, HR1.out]); (try rw [drop0, HR.out]); rintro en wn ⟨rfl, hbn⟩; have hS := And.intro (S.out.1.trans (Mv.of hbn)) (S.out.2.old hbn); clear S hbn; obtain ⟨c1, fz⟩ := hS.2.cellsq HQ.out HI.out; have S := Lib.hid hS; clear hS)
          | (go_at_call 58; refine (whiteq HQ.out S.out.2 HW.out _ HRG.out).mono ?_; rw [HWH.out]; rintro en wn ⟨rfl, rfl⟩))
        obtain ⟨st, mv, -⟩ := S.out.2.stepq OK.out HQ.out HI.out
        obtain ⟨hk, hsc, hll⟩ := HK.out
        simp only [List.length_cons] at hk hll
        go_roundg l3.length
        case measure => omega
        case rel => exact ⟨l3, Nat.le_refl _, st, S.out.1.trans mv, by rw [hsc]; exact scan_white (by rw [← HC.out]; show isWh white (chOf (cx :: l3)) = true; rw [HR.out]; exact HWH.out), by omega⟩
      | false =>
        go_upto_region 3 with (first
          | (go_at_call 57; refine (peekq OK.out HQ.out S.out.2 _ (by decide)).mono ?_; (try rw [drop1, HR1.out]); (try rw [drop0, HR.out]); rintro en wn ⟨rfl, hbn⟩; have hS := And.intro (S.out.1.trans (Mv.of hbn)) (S.out.2.old hbn); clear S hbn; obtain ⟨c1, fz⟩ := hS.2.cellsq HQ.out HI.out; have S := Lib.hid hS; clear hS)
          | (go_at_call 58; refine (whiteq HQ.out S.out.2 HW.out _ HRG.out).mono ?_; rw [HWH.out]; rintro en wn ⟨rfl, rfl⟩))
        go_cut [39] (fun u wr => u = .bool (!(sBit mode 64 && sBit mode 128 && r == 47 && (r1 == 47 || r1 == 42))) ∧ Mv q w wr ∧ Sp e wr mode white l2)
        case first => as_aux_lemma =>
          obtain ⟨m64, h64⟩ : ∃ b, sBit mode 64 = b := ⟨_, rfl⟩
          obtain ⟨m128, h128⟩ : ∃ b, sBit mode 128 = b := ⟨_, rfl⟩
          obtain ⟨b47, hb47⟩ : ∃ b, (r == 47) = b := ⟨_, rfl⟩
          obtain ⟨b1, hb1⟩ : ∃ b, (r1 == 47) = b := ⟨_, rfl⟩
          obtain ⟨b2, hb2⟩ : ∃ b, (r1 == 42) = b := ⟨_, rfl⟩
          have HX := Lib.hid (And.intro h64 (And.intro h128 (And.intro hb47 (And.intro hb1 hb2))))
          clear hrg
          cases m64
          case true =>
            cases m128
            case true =>
              cases b47
              case true =>
                cases b1
                case true =>
                  go_wp2_with (first
                    | (go_at_call 59; refine (isq HQ.out S.out.2 _).mono ?_; rintro en wn ⟨rfl, rfl⟩)
                    | (go_at_call 57; refine (peekq OK.out HQ.out S.out.2 _ (by decide)).mono ?_; (try rw [drop1, HR1.out]); (try rw [drop0, HR.out]); rintro en wn ⟨rfl, hbn⟩; have hS := And.intro (S.out.1.trans (Mv.of hbn)) (S.out.2.old hbn); clear S hbn; obtain ⟨c1, fz⟩ := hS.2.cellsq HQ.out HI.out; have S := Lib.hid hS; clear hS))
                  go_meet
                  exact ⟨by rw [HX.out.1, HX.out.2.1, HX.out.2.2.1, HX.out.2.2.2.1]; rfl, S.out.1, S.out.2⟩
                case false =>
                  cases b2 <;>
                  · go_wp2_with (first
                      | (go_at_call 59; refine (isq HQ.out S.out.2 _).mono ?_; rintro en wn ⟨rfl, rfl⟩)
                      | (go_at_call 57; refine (peekq OK.out HQ.out S.out.2 _ (by decide)).mono ?_; (try rw [drop1, HR1.out]); (try rw [drop0, HR.out]); rintro en wn ⟨rfl, hbn⟩; have hS := And.intro (S.out.1.trans (Mv.of hbn)) (S.out.2.old hbn); clear S hbn; obtain ⟨c1, fz⟩ := hS.2.cellsq HQ.out HI.out; have S := Lib.hid hS; clear hS))
                    go_meet
                    exact ⟨by rw [HX.out.1, HX.out.2.1, HX.out.2.2.1, HX.out.2.2.2.1, HX.out.2.2.2.2]; rfl, S.out.1, S.out.2⟩
              case false =>
                go_wp2_with (first
                  | (go_at_call 59; refine (isq HQ.out S.out.2 _).mono ?_; rintro en wn ⟨rfl, rfl⟩)
                  | (go_at_call 57; refine (peekq OK.out HQ.out S.out.2 _ (by decide)).mono ?_; (try rw [drop1, HR1.out]); (try rw [drop0, HR.out]); rintro en wn ⟨rfl, hbn⟩; have hS := And.intro (S.out.1.trans (Mv.of hbn)) (S.out.2.old hbn); clear S hbn; obtain ⟨c1, fz⟩ := hS.2.cellsq HQ.out HI.out; have S := Lib.hid hS; clear hS))
                go_meet
                exact ⟨by rw [HX.out.1, HX.out.2.1, HX.out.2.2.1]; rfl, S.out.1, S.out.2⟩
            case false =>
              go_wp2_with (first
                | (go_at_call 59; refine (isq HQ.out S.out.2 _).mono ?_; rintro en wn ⟨rfl, rfl⟩)
                | (go_at_call 57; refine (peekq OK.out HQ.out S.out.2 _ (by decide)).mono ?_; (try rw [drop1, HR1.out]); (try rw [drop0, HR.out]); rintro en wn ⟨rfl, hbn⟩; have hS := And.intro (S.out.1.trans (Mv.of hbn)) (S.out.2.old hbn); clear S hbn; obtain ⟨c1, fz⟩ := hS.2.cellsq HQ.out HI.out; have S := Lib.hid hS; clear hS))
              go_meet
              exact ⟨by rw [HX.out.1, HX.out.2.1]; rfl, S.out.1, S.out.2⟩
          case false =>
            go_wp2_with (first
              | (go_at_call 59; refine (isq HQ.out S.out.2 _).mono ?_; rintro en wn ⟨rfl, rfl⟩)
              | (go_at_call 57; refine (peekq OK.out HQ.out S.out.2 _ (by decide)).mono ?_; (try rw [drop1, HR1.out]); (try rw [drop0, HR.out]); rintro en wn ⟨rfl, hbn⟩; have hS := And.intro (S.out.1.trans (Mv.of hbn)) (S.out.2.old hbn); clear S hbn; obtain ⟨c1, fz⟩ := hS.2.cellsq HQ.out HI.out; have S := Lib.hid hS; clear hS))
            go_meet
            exact ⟨by rw [HX.out.1]; rfl, S.out.1, S.out.2⟩
        case rest =>
          obtain ⟨rfl, hm, hs⟩ := hcut
          clear S c1 fz
          obtain ⟨c1, fz⟩ := hs.cellsq HQ.out HI.out
          have S := Lib.hid (And.intro hm hs)
          clear hm hs
          obtain ⟨bk, hbk⟩ : ∃ b, (sBit mode 64 && sBit mode 128 && r == 47 && (r1 == 47 || r1 == 42)) = b := ⟨_, rfl⟩
          rw [hbk]
          have HBK := Lib.hid hbk
          clear hbk
          cases bk with
          | true => as_aux_lemma =>
            have hx := HBK.out
            simp only [Bool.and_eq_true, Bool.or_eq_true, beq_iff_eq] at hx
            obtain ⟨⟨⟨x64, x128⟩, x47⟩, x1⟩ := hx
            have hone : (comment l2.tail).2 = 0 → oneAt C e.src l2 = ⟨-8, (comment l2.tail).1, 0, true⟩ := fun h0 => by
              rw [← HC.out, one_com (C := spCfg e mode white) HCL.out (HR.out.trans x47)]
              unfold oneCom spCfg
              simp only
              rw [HB.out.b64, HB.out.b128, x64, x128, if_pos ⟨by rw [HR1.out]; exact x1, rfl⟩, h0]
            have HONE := Lib.hid hone
            have hcl : (comment l2.tail).1.length < l2.length := by
              have h1 := comment_le l2.tail
              have h2 : l2 ≠ [] := by rintro rfl; have h1 := HR.out; rw [chOf_nil] at h1; omega
              have h3 := tail_lt h2
              simp only [List.length_tail] at h1 h3
              omega
            have HCMT := Lib.hid hcl
            have HX1 := Lib.hid (And.intro x47 x1)
            clear hone hcl x64 x128 x47 x1 hrg
            go_wp2_with (first
              | (go_at_call 60; refine (commentq OK.out HQ.out S.out.2 (HR.out.trans HX1.out.1) (by rw [HR1.out]; exact HX1.out.2)).mono ?_; rintro en wx ⟨b, rfl, hgood, hmx, l4, hsx, hl4⟩; have SX := Lib.hid (And.intro (S.out.1.trans (by rw [← HQ.out]; exact hmx)) (And.intro hsx (And.intro hgood hl4))); clear hgood hmx hsx hl4 c1 fz; cases b))
            · refine bodyPost_ret (v := .tuple #[.int .i64 0, .int .i64 0, .bool false]) (by simp [results, Tryd.results41, go_sem]) rfl ?_
              exact HBAD.out _ _ 0 0 SX.out.1 SX.out.2.1
            · obtain ⟨hm, hs, hg, hl⟩ := SX.out
              have e4 := hl (by trivial)
              have eg := hg (by trivial)
              subst e4
              obtain ⟨hk, hsc, hll⟩ := HK.out
              have hc2 := HCMT.out
              have hk1 := H1.out.1
              go_roundg (comment l2.tail).1.length
              case measure => omega
              case rel => exact ⟨_, Nat.le_refl _, hs, hm, by rw [hsc]; exact scan_redo0 (by rw [← HC.out]; show isWh white (chOf l2) = false; rw [HR.out]; exact HWH.out) (HONE.out eg)⟩
          | false => as_aux_lemma =>
            go_upto_region 6 with (fail)
            have hdone : ∀ (wx : World) (l' : List Item) (k : Int) (sure : Bool), Mv q w wx → Sp e wx mode white l' → (sure = true → oneAt C e.src l2 = ⟨k, l', 0, false⟩) → TokSp e w mode white l (.returned (.tuple #[.int .i64 k, .int .i64 (i : Nat), .bool sure])) wx := fun wx l' k sure h1 h2 h3 =>
              ⟨k, (i : Nat), sure, rfl, by rw [HQ.out]; exact h1, l', h2, fun hs => ⟨l2, by rw [HC.out, HK.out.2.1, scan_stop0 (by rw [← HC.out]; show isWh white (chOf l2) = false; rw [HR.out]; exact HWH.out) (h3 hs)], by rw [HI.out]⟩⟩
            have HDONE := Lib.hid hdone
            have HRO := Lib.hid HR.out
            clear hdone
            by_cases hneg : r < 0
            · have hm1 : r = -1 := by omega
              have hl2 : l2 = [] := comRun_nil (by rw [HR.out]; omega)
              subst hm1
              clear hneg hrg
              go_wp2_with (first
                | (go_at_call 57; refine (peekq OK.out HQ.out S.out.2 _ (by decide)).mono ?_; (try rw [drop1, HR1.out]); (try rw [drop0, HR.out]); rintro en wn ⟨rfl, hbn⟩; have hS := And.intro (S.out.1.trans (Mv.of hbn)) (S.out.2.old hbn); clear S hbn; obtain ⟨c1, fz⟩ := hS.2.cellsq HQ.out HI.out; have S := Lib.hid hS; clear hS))
              refine bodyPost_ret (v := .tuple #[.int .i64 (-1), .int .i64 (i : Nat), .bool true]) (by simp [results, Tryd.results41, go_sem]) rfl ?_
              exact HDONE.out _ [] (-1) true S.out.1 (by rw [← hl2]; exact S.out.2) (fun _ => by rw [hl2]; exact one_end)
            have hr0 : 0 ≤ r := by omega
            have hne : l2 ≠ [] := by rintro rfl; have := HR.out; rw [chOf_nil] at this; omega
            have HNE := Lib.hid (And.intro hr0 hne)
            clear hneg hne
            go_upto_region 10 with (first
              | (go_at_call 57; refine (peekq OK.out HQ.out S.out.2 _ (by decide)).mono ?_; (try rw [drop1, HR1.out]); (try rw [drop0, HR.out]); rintro en wn ⟨rfl, hbn⟩; have hS := And.intro (S.out.1.trans (Mv.of hbn)) (S.out.2.old hbn); clear S hbn; obtain ⟨c1, fz⟩ := hS.2.cellsq HQ.out HI.out; have S := Lib.hid hS; clear hS))
            obtain ⟨bp, hbp⟩ : ∃ b, e.s.cfg.I.p0 r = b := ⟨_, rfl⟩
            have HP := Lib.hid hbp
            have HP0 := Lib.hid (show e.s.cfg.I.at 0 r = bp from hbp)
            clear hbp
            go_cut [53] (fun u wr => u = .bool (sBit mode 1 && bp) ∧ Mv q w wr ∧ Sp e wr mode white l2)
            case first => as_aux_lemma =>
              cases m1 : sBit mode 1 with
              | true =>
                have HM1 := Lib.hid m1
                go_wp2_with (first
                  | (go_at_call 59; refine (isq HQ.out S.out.2 _).mono ?_; rintro en wn ⟨rfl, rfl⟩)
                  | (go_at_call 61; refine (identq OK.out FO.out HQ.out S.out.2 _ _ HRG.out (by decide)).mono ?_; rw [HP0.out]; rintro en wn ⟨rfl, hbn⟩; have hS := And.intro (S.out.1.trans (Mv.of hbn)) (S.out.2.old hbn); clear S hbn; obtain ⟨c1, fz⟩ := hS.2.cellsq HQ.out HI.out; have S := Lib.hid hS; clear hS))
                go_meet
                exact ⟨by rw [HM1.out, Bool.true_and], S.out.1, S.out.2⟩
              | false =>
                have HM1 := Lib.hid m1
                go_wp2_with (first
                  | (go_at_call 59; refine (isq HQ.out S.out.2 _).mono ?_; rintro en wn ⟨rfl, rfl⟩)
                  | (go_at_call 61; refine (identq OK.out FO.out HQ.out S.out.2 _ _ HRG.out (by decide)).mono ?_; rw [HP0.out]; rintro en wn ⟨rfl, hbn⟩; have hS := And.intro (S.out.1.trans (Mv.of hbn)) (S.out.2.old hbn); clear S hbn; obtain ⟨c1, fz⟩ := hS.2.cellsq HQ.out HI.out; have S := Lib.hid hS; clear hS))
                go_meet
                exact ⟨by rw [HM1.out, Bool.false_and], S.out.1, S.out.2⟩
            case rest =>
              obtain ⟨rfl, hm, hs⟩ := hcut
              clear S c1 fz
              obtain ⟨c1, fz⟩ := hs.cellsq HQ.out HI.out
              have S := Lib.hid (And.intro hm hs)
              clear hm hs
              obtain ⟨bI, hbI⟩ : ∃ b, (sBit mode 1 && bp) = b := ⟨_, rfl⟩
              rw [hbI]
              have HBI := Lib.hid hbI
              clear hbI
              cases bI with
              | true => as_aux_lemma =>
                have hx := HBI.out
                simp only [Bool.and_eq_true] at hx
                have hone : oneAt C e.src l2 = ⟨-2, more e.s.cfg.I.p1 l2.tail, 0, false⟩ := by
                  rw [← HC.out]
                  exact one_id (C := spCfg e mode white) (by show e.s.cfg.I.p0 (chOf l2) = true; rw [HR.out, HP.out]; exact hx.2) (by show hasBit (4 * mode) 4 = true; rw [HB.out.b1]; exact hx.1)
                have HONE := Lib.hid hone
                have HX := Lib.hid hx.2
                clear hone hx hrg hr0
                have hln := S.out.2.len
                have hnl := OK.out.n_le
                have HLB := Lib.hid (show l2.length ≤ 10000000000 by omega)
                clear hln hnl c1 fz
                go_wp2_with (fail)
                go_loopg [6] l2.length (fun kk v wr => ∃ (n : Nat) (l3 : List Item), l3.length ≤ kk ∧ v = .int .i64 (n : Nat) ∧ n + l3.length ≤ l2.length ∧ Mv q w wr ∧ Sp e wr mode white l3 ∧ ((n = 0 ∧ l3 = l2) ∨ (0 < n ∧ more e.s.cfg.I.p1 l3 = more e.s.cfg.I.p1 l2.tail)))
                case atStart => exact ⟨0, l2, Nat.le_refl _, rfl, by omega, S.out.1, S.out.2, .inl ⟨rfl, rfl⟩⟩
                case round =>
                  obtain ⟨n, l3, hk, rfl, hnl, hm, hs, hor⟩ := hrel
                  obtain ⟨j, hj⟩ : ∃ i, e.n - l3.length = i := ⟨_, rfl⟩
                  have hib2 := Sp.ib OK.out hj
                  obtain ⟨c1, fz⟩ := hs.cellsq HQ.out hj
                  obtain ⟨r3, hr3⟩ : ∃ r, chOf l3 = r := ⟨_, rfl⟩
                  have hrg := hs.range
                  rw [hr3] at hrg
                  obtain ⟨bq, hbq⟩ : ∃ b, e.s.cfg.I.at (n : Int) r3 = b := ⟨_, rfl⟩
                  have hnb : (n : Int) ≤ 10000000000 := by have := HLB.out; omega
                  have HBQ := Lib.hid (And.intro hbq (And.intro hrg hnb))
                  have HR := Lib.hid hr3
                  have HI := Lib.hid hj
                  have S := Lib.hid (And.intro hm hs)
                  have HN := Lib.hid (And.intro hk (And.intro hnl hor))
                  clear hk hnl hm hs hor hj hr3 hbq hrg
                  cases bq with
                  | true =>
                    have hne : l3 ≠ [] := by
                      rintro rfl
                      have h1 := HR.out
                      rw [chOf_nil] at h1
                      have h2 := HBQ.out.1
                      rw [← h1] at h2
                      unfold Idr.at at h2
                      split at h2
                      · rw [e.s.cfg.I.e0] at h2; cases h2
                      · rw [e.s.cfg.I.e1] at h2; cases h2
                    cases l3 with
                    | nil => exact absurd rfl hne
                    | cons cx l4 =>
                    clear hne
                    go_wp2_with (first
                      | (go_at_call 57; refine (peekq OK.out HQ.out S.out.2 _ (by decide)).mono ?_; (try rw [drop1, HR1.out]); (try rw [drop0, HR.out]); rintro en wn ⟨rfl, hbn⟩; have hS := And.intro (S.out.1.trans (Mv.of hbn)) (S.out.2.old hbn); clear S hbn; obtain ⟨c1, fz⟩ := hS.2.cellsq HQ.out HI.out; have S := Lib.hid hS; clear hS)
                      | (go_at_call 61; refine (identq OK.out FO.out HQ.out S.out.2 _ _ HBQ.out.2.1 (by have := HBQ.out.2.2; omega)).mono ?_; rw [HBQ.out.1]; rintro en wn ⟨rfl, hbn⟩; have hS := And.intro (S.out.1.trans (Mv.of hbn)) (S.out.2.old hbn); clear S hbn; obtain ⟨c1, fz⟩ := hS.2.cellsq HQ.out HI.out; have S := Lib.hid hS; clear hS))
                    obtain ⟨st, mv, -⟩ := S.out.2.stepq OK.out HQ.out HI.out
                    obtain ⟨hk, hnl, hor⟩ := HN.out
                    simp only [List.length_cons] at hk hnl
                    have hbq := HBQ.out.1
                    go_roundg l4.length
                    case measure => omega
                    case rel =>
                      refine ⟨n + 1, l4, Nat.le_refl _, by go_num, by omega, S.out.1.trans mv, st, .inr ⟨by omega, ?_⟩⟩
                      rcases hor with ⟨h1, h2⟩ | ⟨h1, h2⟩
                      · rw [← h2]; rfl
                      · rw [← h2]
                        have hp1 : e.s.cfg.I.p1 (chOf (cx :: l4)) = true := by rw [HR.out]; rw [Idr.at_pos _ (by omega)] at hbq; exact hbq
                        exact (more_step e.s.cfg.I.e1 hp1).1.symm
                  | false =>
                    have hml : more e.s.cfg.I.p1 l2.tail = l3 := by
                      obtain ⟨hk, hnl, hor⟩ := HN.out
                      have hbq := HBQ.out.1
                      rcases hor with ⟨h1, h2⟩ | ⟨h1, h2⟩
                      · rw [h1] at hbq
                        have h3 : e.s.cfg.I.p0 r3 = false := hbq
                        have ha := HR.out
                        rw [h2] at ha
                        have h4 : r3 = r := ha.symm.trans HRO.out
                        rw [h4, HP.out, HX.out] at h3
                        cases h3
                      · rw [← h2]
                        rw [Idr.at_pos _ (by omega)] at hbq
                        exact more_stop (by rw [HR.out]; exact hbq)
                    have HML := Lib.hid hml
                    clear hml
                    go_wp2_with (first
                      | (go_at_call 57; refine (peekq OK.out HQ.out S.out.2 _ (by decide)).mono ?_; (try rw [drop1, HR1.out]); (try rw [drop0, HR.out]); rintro en wn ⟨rfl, hbn⟩; have hS := And.intro (S.out.1.trans (Mv.of hbn)) (S.out.2.old hbn); clear S hbn; obtain ⟨c1, fz⟩ := hS.2.cellsq HQ.out HI.out; have S := Lib.hid hS; clear hS)
                      | (go_at_call 61; refine (identq OK.out FO.out HQ.out S.out.2 _ _ HBQ.out.2.1 (by have := HBQ.out.2.2; omega)).mono ?_; rw [HBQ.out.1]; rintro en wn ⟨rfl, hbn⟩; have hS := And.intro (S.out.1.trans (Mv.of hbn)) (S.out.2.old hbn); clear S hbn; obtain ⟨c1, fz⟩ := hS.2.cellsq HQ.out HI.out; have S := Lib.hid hS; clear hS))
                    refine bodyPost_ret (v := .tuple #[.int .i64 (-2), .int .i64 (i : Nat), .bool true]) (by simp [results, Tryd.results41, go_sem]) rfl ?_
                    exact HDONE.out _ l3 (-2) true S.out.1 S.out.2 (fun _ => by rw [HONE.out, HML.out])
              | false => as_aux_lemma =>
                have hid : sBit mode 1 = true → e.s.cfg.I.p0 r = false := fun h => by
                  have := HBI.out
                  rw [h, Bool.true_and] at this
                  rw [HP.out]; exact this
                have HID := Lib.hid hid
                obtain ⟨bd, hbd⟩ : ∃ b, isDec r = b := ⟨_, rfl⟩
                obtain ⟨bd1, hbd1⟩ : ∃ b, isDec r1 = b := ⟨_, rfl⟩
                have HD := Lib.hid hbd
                have HD1 := Lib.hid hbd1
                clear hid hbd hbd1 hrg
                go_upto_region 16 with (fail)
                go_cut [76] (fun u wr => u = .bool (bd || (r == 46 && bd1)) ∧ Mv q w wr ∧ Sp e wr mode white l2)
                case first => as_aux_lemma =>
                  cases bd with
                  | true =>
                    go_wp2_with (first
                      | (go_at_call 38; refine (digit_spec _ _).mono ?_; (try rw [HD.out]); (try rw [HD1.out]); rintro en wn ⟨rfl, rfl⟩)
                      | (go_at_call 57; refine (peekq OK.out HQ.out S.out.2 _ (by decide)).mono ?_; (try rw [drop1, HR1.out]); (try rw [drop0, HR.out]); rintro en wn ⟨rfl, hbn⟩; have hS := And.intro (S.out.1.trans (Mv.of hbn)) (S.out.2.old hbn); clear S hbn; obtain ⟨c1, fz⟩ := hS.2.cellsq HQ.out HI.out; have S := Lib.hid hS; clear hS))
                    go_meet
                    exact ⟨rfl, S.out.1, S.out.2⟩
                  | false =>
                    by_cases h46 : r = 46
                    · subst h46
                      go_wp2_with (first
                        | (go_at_call 38; refine (digit_spec _ _).mono ?_; (try rw [HD.out]); (try rw [HD1.out]); rintro en wn ⟨rfl, rfl⟩)
                        | (go_at_call 57; refine (peekq OK.out HQ.out S.out.2 _ (by decide)).mono ?_; (try rw [drop1, HR1.out]); (try rw [drop0, HR.out]); rintro en wn ⟨rfl, hbn⟩; have hS := And.intro (S.out.1.trans (Mv.of hbn)) (S.out.2.old hbn); clear S hbn; obtain ⟨c1, fz⟩ := hS.2.cellsq HQ.out HI.out; have S := Lib.hid hS; clear hS))
                      go_meet
                      exact ⟨by simp, S.out.1, S.out.2⟩
                    · have b46 : (r == 46) = false := beq_eq_false_iff_ne.2 h46
                      have H46 := Lib.hid b46
                      clear h46
                      go_wp2_with (first
                        | (go_at_call 38; refine (digit_spec _ _).mono ?_; (try rw [HD.out]); (try rw [HD1.out]); rintro en wn ⟨rfl, rfl⟩)
                        | (go_at_call 57; refine (peekq OK.out HQ.out S.out.2 _ (by decide)).mono ?_; (try rw [drop1, HR1.out]); (try rw [drop0, HR.out]); rintro en wn ⟨rfl, hbn⟩; have hS := And.intro (S.out.1.trans (Mv.of hbn)) (S.out.2.old hbn); clear S hbn; obtain ⟨c1, fz⟩ := hS.2.cellsq HQ.out HI.out; have S := Lib.hid hS; clear hS))
                      go_meet
                      exact ⟨by rw [H46.out]; rfl, S.out.1, S.out.2⟩
                case rest =>
                  obtain ⟨rfl, hm, hs⟩ := hcut
                  clear S c1 fz
                  obtain ⟨c1, fz⟩ := hs.cellsq HQ.out HI.out
                  have S := Lib.hid (And.intro hm hs)
                  clear hm hs
                  obtain ⟨bn, hbn0⟩ : ∃ b, (bd || (r == 46 && bd1)) = b := ⟨_, rfl⟩
                  rw [hbn0]
                  have HBN := Lib.hid hbn0
                  clear hbn0
                  cases bn with
                  | true => as_aux_lemma =>
                    have hx := HBN.out
                    simp only [Bool.or_eq_true, Bool.and_eq_true, beq_iff_eq] at hx
                    have HX := Lib.hid hx
                    clear hx c1 fz
                    go_wp2_with (first
                      | (go_at_call 62; refine (numberq OK.out HQ.out S.out.2 (by rw [HR.out, HD.out]; rcases HX.out with h | h; exact .inl h; exact .inr h.1)).mono ?_; rintro en wx ⟨k, sure, rfl, hmx, l4, hsx, hsure⟩; have SX := Lib.hid (And.intro (S.out.1.trans (by rw [← HQ.out]; exact hmx)) (And.intro hsx hsure)); clear hmx hsx hsure))
                    refine bodyPost_ret (v := .tuple #[.int .i64 k, .int .i64 (i : Nat), .bool sure]) (by simp [results, Tryd.results41, go_sem]) rfl ?_
                    refine HDONE.out _ l4 k sure SX.out.1 SX.out.2.1 (fun hs => ?_)
                    rw [← HC.out]
                    rcases SX.out.2.2 hs with ⟨a1, a2, rfl, rfl⟩ | ⟨t, a1, a2, a3, a4, a5, a6⟩
                    · by_cases hd : isDec (chOf l2) = true
                      · rw [one_num (C := spCfg e mode white) HCL.out hd]
                        unfold oneNum
                        rw [if_neg]
                        · rfl
                        · show ¬ hasBit (4 * mode) 24 = true
                          rw [HB.out.b24, a1, a2]; decide
                      · have h46 : chOf l2 = 46 := by
                          rcases HX.out with h | h
                          · exact absurd (by rw [HR.out, HD.out]; exact h) hd
                          · rw [HR.out]; exact h.1
                        rw [one_dot (C := spCfg e mode white) HCL.out h46]
                        unfold oneDot
                        rw [if_neg]
                        · rfl
                        · show ¬ (isDec (chOf l2.tail) = true ∧ hasBit (4 * mode) 16 = true)
                          rw [HB.out.b4, a2]; rintro ⟨-, h⟩; cases h
                    · obtain ⟨pre, hpre⟩ := S.out.2.suf
                      have htne : t ≠ [] := by
                        rintro rfl
                        rw [List.nil_append] at a2
                        rcases HX.out with h | h
                        · have := a3.dec; rw [← a2, HR.out, HD.out, h] at this; cases this
                        · have := a3.pt; rw [← a2, HR.out, h.1] at this; exact this rfl
                      have hch : chOf t = chOf l2 := by rw [a2, chOf_append htne]
                      have hlaw := num_law (src := e.src) (pre0 := pre) (t := t) (rest := l4) (k := k) (by rw [← a2]; exact hpre.symm) a3 a4 a5 (sBit mode 4) (a6.imp id fun h => h.1)
                      rw [← a2] at hlaw
                      by_cases hd : isDec (chOf l2) = true
                      · rw [one_num (C := spCfg e mode white) HCL.out hd]
                        unfold oneNum
                        rw [if_pos]
                        · show One.num (numRun e.src (offOf e.src l2) (hasBit (4 * mode) 16) false l2) = _
                          rw [HB.out.b4]
                          exact hlaw.1 (by rw [hch]; exact hd)
                        · show hasBit (4 * mode) 24 = true
                          rw [HB.out.b24, Bool.or_eq_true]; exact a1
                      · have h46 : chOf l2 = 46 ∧ isDec (chOf l2.tail) = true := by
                          rcases HX.out with h | h
                          · exact absurd (by rw [HR.out, HD.out]; exact h) hd
                          · exact ⟨by rw [HR.out]; exact h.1, by rw [HR1.out, HD1.out]; exact h.2⟩
                        have hfl : sBit mode 4 = true := by
                          rcases a6 with h | ⟨-, h⟩
                          · exact h
                          · exact absurd (hch.trans h46.1) h
                        rw [one_dot (C := spCfg e mode white) HCL.out h46.1]
                        unfold oneDot
                        rw [if_pos]
                        · show One.num (numRun e.src (offOf e.src l2) (hasBit (4 * mode) 16) true l2.tail) = _
                          rw [HB.out.b4, hfl]
                          rw [hfl] at hlaw
                          have := hlaw.2 (hch.trans h46.1) rfl
                          have htl : l2.tail = t.tail ++ l4 := by
                            rw [a2]
                            cases t with
                            | nil => exact absurd rfl htne
                            | cons x y => rfl
                          rw [htl]; exact this
                        · show isDec (chOf l2.tail) = true ∧ hasBit (4 * mode) 16 = true
                          rw [HB.out.b4]; exact ⟨h46.2, hfl⟩
                  | false => as_aux_lemma =>
                    have hx := HBN.out
                    rw [Bool.or_eq_false_iff] at hx
                    have HX := Lib.hid hx
                    clear hx
                    go_upto_region 19 with (fail)
                    go_cut [96] (fun u wr => u = .bool (r == 34 && sBit mode 16) ∧ Mv q w wr ∧ Sp e wr mode white l2)
                    case first => as_aux_lemma =>
                      by_cases hcc : r = 34
                      · subst hcc
                        go_wp2_with (first
                          | (go_at_call 59; refine (isq HQ.out S.out.2 _).mono ?_; rintro en wn ⟨rfl, rfl⟩))
                        go_meet
                        exact ⟨by simp, S.out.1, S.out.2⟩
                      · have bcc : (r == 34) = false := beq_eq_false_iff_ne.2 hcc
                        have HCC := Lib.hid bcc
                        clear hcc
                        go_wp2_with (first
                          | (go_at_call 59; refine (isq HQ.out S.out.2 _).mono ?_; rintro en wn ⟨rfl, rfl⟩))
                        go_meet
                        exact ⟨by rw [HCC.out]; rfl, S.out.1, S.out.2⟩
                    case rest =>
                      obtain ⟨rfl, hm, hs⟩ := hcut
                      clear S c1 fz
                      obtain ⟨c1, fz⟩ := hs.cellsq HQ.out HI.out
                      have S := Lib.hid (And.intro hm hs)
                      clear hm hs
                      obtain ⟨b34, hb34⟩ : ∃ b, (r == 34 && sBit mode 16) = b := ⟨_, rfl⟩
                      rw [hb34]
                      have H34 := Lib.hid hb34
                      clear hb34
                      cases b34 with
                      | true => as_aux_lemma =>
                        have hx := H34.out
                        simp only [Bool.and_eq_true, beq_iff_eq] at hx
                        have HX2 := Lib.hid hx
                        clear hx c1 fz
                        go_wp2_with (first
                          | (go_at_call 63; refine (quotedq OK.out HQ.out S.out.2 34 (.inl rfl) (HR.out.trans HX2.out.1)).mono ?_; rintro en wx ⟨b, rfl, hgood, hmx, l4, hsx, hl4⟩; have SX := Lib.hid (And.intro (S.out.1.trans (by rw [← HQ.out]; exact hmx)) (And.intro hsx (And.intro hgood hl4))); clear hgood hmx hsx hl4))
                        refine bodyPost_ret (v := .tuple #[.int .i64 (-6), .int .i64 (i : Nat), .bool b]) (by simp [results, Tryd.results41, go_sem]) rfl ?_
                        refine HDONE.out _ l4 (-6) b SX.out.1 SX.out.2.1 (fun hs => ?_)
                        have hg := SX.out.2.2.1 hs
                        rw [SX.out.2.2.2 hs, ← HC.out, one_str (C := spCfg e mode white) HCL.out (HR.out.trans HX2.out.1)]
                        unfold oneStr
                        rw [if_pos (by show hasBit (4 * mode) 64 = true; rw [HB.out.b16]; exact HX2.out.2), hg.1]
                        rfl
                      | false => as_aux_lemma =>
                        have hx := H34.out
                        rw [Bool.and_eq_false_iff] at hx
                        have HN34 := Lib.hid (show chOf l2 = 34 → sBit mode 16 = false from fun h => by rcases hx with h1 | h1; rw [HR.out] at h; rw [h] at h1; cases h1; exact h1)
                        clear hx
                        go_upto_region 21 with (fail)
                        go_cut [106] (fun u wr => u = .bool (r == 39 && sBit mode 8) ∧ Mv q w wr ∧ Sp e wr mode white l2)
                        case first => as_aux_lemma =>
                          by_cases hcc : r = 39
                          · subst hcc
                            go_wp2_with (first
                              | (go_at_call 59; refine (isq HQ.out S.out.2 _).mono ?_; rintro en wn ⟨rfl, rfl⟩))
                            go_meet
                            exact ⟨by simp, S.out.1, S.out.2⟩
                          · have bcc : (r == 39) = false := beq_eq_false_iff_ne.2 hcc
                            have HCC := Lib.hid bcc
                            clear hcc
                            go_wp2_with (first
                              | (go_at_call 59; refine (isq HQ.out S.out.2 _).mono ?_; rintro en wn ⟨rfl, rfl⟩))
                            go_meet
                            exact ⟨by rw [HCC.out]; rfl, S.out.1, S.out.2⟩
                        case rest =>
                          obtain ⟨rfl, hm, hs⟩ := hcut
                          clear S c1 fz
                          obtain ⟨c1, fz⟩ := hs.cellsq HQ.out HI.out
                          have S := Lib.hid (And.intro hm hs)
                          clear hm hs
                          obtain ⟨b39, hb39⟩ : ∃ b, (r == 39 && sBit mode 8) = b := ⟨_, rfl⟩
                          rw [hb39]
                          have H39 := Lib.hid hb39
                          clear hb39
                          cases b39 with
                          | true => as_aux_lemma =>
                            have hx := H39.out
                            simp only [Bool.and_eq_true, beq_iff_eq] at hx
                            have HX2 := Lib.hid hx
                            clear hx c1 fz
                            go_wp2_with (first
                              | (go_at_call 63; refine (quotedq OK.out HQ.out S.out.2 39 (.inr rfl) (HR.out.trans HX2.out.1)).mono ?_; rintro en wx ⟨b, rfl, hgood, hmx, l4, hsx, hl4⟩; have SX := Lib.hid (And.intro (S.out.1.trans (by rw [← HQ.out]; exact hmx)) (And.intro hsx (And.intro hgood hl4))); clear hgood hmx hsx hl4))
                            refine bodyPost_ret (v := .tuple #[.int .i64 (-5), .int .i64 (i : Nat), .bool b]) (by simp [results, Tryd.results41, go_sem]) rfl ?_
                            refine HDONE.out _ l4 (-5) b SX.out.1 SX.out.2.1 (fun hs => ?_)
                            have hg := SX.out.2.2.1 hs
                            have h1 : (strRun 39 l2.tail).2.1 = 1 := by
                              rcases hg.2 with h | h
                              · cases h
                              · exact h
                            rw [SX.out.2.2.2 hs, ← HC.out, one_chr (C := spCfg e mode white) HCL.out (HR.out.trans HX2.out.1)]
                            unfold oneChr
                            rw [if_pos (by show hasBit (4 * mode) 32 = true; rw [HB.out.b8]; exact HX2.out.2), hg.1, h1]
                            rfl
                          | false => as_aux_lemma =>
                            have hx := H39.out
                            rw [Bool.and_eq_false_iff] at hx
                            have HN39 := Lib.hid (show chOf l2 = 39 → sBit mode 8 = false from fun h => by rcases hx with h1 | h1; rw [HR.out] at h; rw [h] at h1; cases h1; exact h1)
                            clear hx
                            go_upto_region 23 with (fail)
                            go_cut [116] (fun u wr => u = .bool (r == 96 && sBit mode 32) ∧ Mv q w wr ∧ Sp e wr mode white l2)
                            case first => as_aux_lemma =>
                              by_cases hcc : r = 96
                              · subst hcc
                                go_wp2_with (first
                                  | (go_at_call 59; refine (isq HQ.out S.out.2 _).mono ?_; rintro en wn ⟨rfl, rfl⟩))
                                go_meet
                                exact ⟨by simp, S.out.1, S.out.2⟩
                              · have bcc : (r == 96) = false := beq_eq_false_iff_ne.2 hcc
                                have HCC := Lib.hid bcc
                                clear hcc
                                go_wp2_with (first
                                  | (go_at_call 59; refine (isq HQ.out S.out.2 _).mono ?_; rintro en wn ⟨rfl, rfl⟩))
                                go_meet
                                exact ⟨by rw [HCC.out]; rfl, S.out.1, S.out.2⟩
                            case rest =>
                              obtain ⟨rfl, hm, hs⟩ := hcut
                              clear S c1 fz
                              obtain ⟨c1, fz⟩ := hs.cellsq HQ.out HI.out
                              have S := Lib.hid (And.intro hm hs)
                              clear hm hs
                              obtain ⟨b96, hb96⟩ : ∃ b, (r == 96 && sBit mode 32) = b := ⟨_, rfl⟩
                              rw [hb96]
                              have H96 := Lib.hid hb96
                              clear hb96
                              cases b96 with
                              | true => as_aux_lemma =>
                                have hx := H96.out
                                simp only [Bool.and_eq_true, beq_iff_eq] at hx
                                have HX2 := Lib.hid hx
                                clear hx
                                have hne := HNE.out.2
                                cases l2 with
                                | nil => exact absurd rfl hne
                                | cons cx l3 =>
                                obtain ⟨st, mv, hi2⟩ := S.out.2.stepq OK.out HQ.out HI.out
                                have HST := Lib.hid (And.intro (S.out.1.trans mv) st)
                                clear st mv hi2 hne
                                go_upto_region 24 with (fail)
                                obtain ⟨w2, hw2⟩ : ∃ w2, wc.setCell ⟨q, 1, none⟩ (.int .i64 ((i : Int) + 1)) = w2 := ⟨_, rfl⟩
                                have hS := HST.out
                                rw [hw2] at hS
                                have S2 := Lib.hid hS
                                clear hS HST
                                go_wp2_with (fail)
                                go_loopg [3] l3.length (fun kk v wr => ∃ l4 : List Item, l4.length ≤ kk ∧ v = .int .i64 (i : Nat) ∧ Mv q w wr ∧ Sp e wr mode white l4 ∧ rawRun l4 = rawRun l3)
                                case atStart => exact ⟨l3, Nat.le_refl _, rfl, S2.out.1, S2.out.2, rfl⟩
                                case round =>
                                  obtain ⟨l4, hk, rfl, hm, hs, hrr⟩ := hrel
                                  clear hw2 S c1 fz
                                  obtain ⟨j, hj⟩ : ∃ i, e.n - l4.length = i := ⟨_, rfl⟩
                                  have hib2 := Sp.ib OK.out hj
                                  obtain ⟨c1, fz⟩ := hs.cellsq HQ.out hj
                                  obtain ⟨r4, hr4⟩ : ∃ r, chOf l4 = r := ⟨_, rfl⟩
                                  have HR := Lib.hid hr4
                                  have HI := Lib.hid hj
                                  have S := Lib.hid (And.intro hm hs)
                                  have HKR := Lib.hid (And.intro hk hrr)
                                  clear hk hm hs hrr hj hr4
                                  by_cases h96 : r4 = 96
                                  · have b96 : (r4 != 96) = false := by rw [h96]; rfl
                                    have H96' := Lib.hid h96
                                    have hne : l4 ≠ [] := by rintro rfl; have := HR.out; rw [chOf_nil] at this; omega
                                    clear h96
                                    cases l4 with
                                    | nil => exact absurd rfl hne
                                    | cons cy l5 =>
                                    clear hne
                                    go_wp2_with (first
                                      | (go_at_call 57; refine (peekq OK.out HQ.out S.out.2 _ (by decide)).mono ?_; (try rw [drop1, HR1.out]); (try rw [drop0, HR.out]); rintro en wn ⟨rfl, hbn⟩; have hS := And.intro (S.out.1.trans (Mv.of hbn)) (S.out.2.old hbn); clear S hbn; obtain ⟨c1, fz⟩ := hS.2.cellsq HQ.out HI.out; have S := Lib.hid hS; clear hS))
                                    obtain ⟨st, mv, -⟩ := S.out.2.stepq OK.out HQ.out HI.out
                                    refine bodyPost_ret (v := .tuple #[.int .i64 (-7), .int .i64 (i : Nat), .bool true]) (by simp [results, Tryd.results41, go_sem]) rfl ?_
                                    refine HDONE.out _ l5 (-7) true (S.out.1.trans mv) st (fun _ => ?_)
                                    have hstop : rawRun l3 = cy :: l5 := by rw [← HKR.out.2]; exact rawRun_stop (HR.out.trans H96'.out)
                                    rw [← HC.out, one_raw (C := spCfg e mode white) HCL.out (HRO.out.trans HX2.out.1)]
                                    unfold oneRaw
                                    rw [if_pos (by show hasBit (4 * mode) 128 = true; rw [HB.out.b32]; exact HX2.out.2), List.tail_cons, hstop]
                                    rfl
                                  · have b96 : (r4 != 96) = true := bne_iff_ne.2 h96
                                    have H96' := Lib.hid h96
                                    clear h96
                                    by_cases hneg : r4 < 0
                                    · have hneg2 : ¬ 0 ≤ r4 := by omega
                                      go_wp2_with (first
                                        | (go_at_call 57; refine (peekq OK.out HQ.out S.out.2 _ (by decide)).mono ?_; (try rw [drop1, HR1.out]); (try rw [drop0, HR.out]); rintro en wn ⟨rfl, hbn⟩; have hS := And.intro (S.out.1.trans (Mv.of hbn)) (S.out.2.old hbn); clear S hbn; obtain ⟨c1, fz⟩ := hS.2.cellsq HQ.out HI.out; have S := Lib.hid hS; clear hS))
                                      refine bodyPost_ret (v := .tuple #[.int .i64 0, .int .i64 0, .bool false]) (by simp [results, Tryd.results41, go_sem]) rfl ?_
                                      exact HBAD.out _ _ 0 0 S.out.1 S.out.2
                                    · have hne : l4 ≠ [] := by rintro rfl; have := HR.out; rw [chOf_nil] at this; omega
                                      cases l4 with
                                      | nil => exact absurd rfl hne
                                      | cons cy l5 =>
                                      clear hne
                                      go_wp2_with (first
                                        | (go_at_call 57; refine (peekq OK.out HQ.out S.out.2 _ (by decide)).mono ?_; (try rw [drop1, HR1.out]); (try rw [drop0, HR.out]); rintro en wn ⟨rfl, hbn⟩; have hS := And.intro (S.out.1.trans (Mv.of hbn)) (S.out.2.old hbn); clear S hbn; obtain ⟨c1, fz⟩ := hS.2.cellsq HQ.out HI.out; have S := Lib.hid hS; clear hS))
                                      obtain ⟨st, mv, -⟩ := S.out.2.stepq OK.out HQ.out HI.out
                                      obtain ⟨hk, hrr⟩ := HKR.out
                                      simp only [List.length_cons] at hk
                                      go_roundg l5.length
                                      case measure => omega
                                      case rel => exact ⟨l5, Nat.le_refl _, rfl, S.out.1.trans mv, st, by rw [← hrr]; exact (rawRun_step (by rw [HR.out]; exact H96'.out)).symm⟩
                              | false => as_aux_lemma =>
                                have hx := H96.out
                                rw [Bool.and_eq_false_iff] at hx
                                have HN96 := Lib.hid (show chOf l2 = 96 → sBit mode 32 = false from fun h => by rcases hx with h1 | h1; rw [HR.out] at h; rw [h] at h1; cases h1; exact h1)
                                clear hx
                                go_upto_region 31 with (fail)
                                go_cut [151] (fun u wr => u = .bool (r == 47 && sBit mode 64 && (r1 == 47 || r1 == 42)) ∧ Mv q w wr ∧ Sp e wr mode white l2)
                                case first => as_aux_lemma =>
                                  by_cases h47 : r = 47
                                  · subst h47
                                    cases m64 : sBit mode 64 with
                                    | false =>
                                      have HM := Lib.hid m64
                                      go_wp2_with (first
                                        | (go_at_call 59; refine (isq HQ.out S.out.2 _).mono ?_; rintro en wn ⟨rfl, rfl⟩)
                                        | (go_at_call 57; refine (peekq OK.out HQ.out S.out.2 _ (by decide)).mono ?_; (try rw [drop1, HR1.out]); (try rw [drop0, HR.out]); rintro en wn ⟨rfl, hbn⟩; have hS := And.intro (S.out.1.trans (Mv.of hbn)) (S.out.2.old hbn); clear S hbn; obtain ⟨c1, fz⟩ := hS.2.cellsq HQ.out HI.out; have S := Lib.hid hS; clear hS))
                                      go_meet
                                      exact ⟨by rw [HM.out]; rfl, S.out.1, S.out.2⟩
                                    | true =>
                                      have HM := Lib.hid m64
                                      by_cases h1 : r1 = 47
                                      · subst h1
                                        go_wp2_with (first
                                          | (go_at_call 59; refine (isq HQ.out S.out.2 _).mono ?_; rintro en wn ⟨rfl, rfl⟩)
                                          | (go_at_call 57; refine (peekq OK.out HQ.out S.out.2 _ (by decide)).mono ?_; (try rw [drop1, HR1.out]); (try rw [drop0, HR.out]); rintro en wn ⟨rfl, hbn⟩; have hS := And.intro (S.out.1.trans (Mv.of hbn)) (S.out.2.old hbn); clear S hbn; obtain ⟨c1, fz⟩ := hS.2.cellsq HQ.out HI.out; have S := Lib.hid hS; clear hS))
                                        go_meet
                                        exact ⟨by rw [HM.out]; rfl, S.out.1, S.out.2⟩
                                      · have b1 : (r1 == 47) = false := beq_eq_false_iff_ne.2 h1
                                        obtain ⟨b42, h42⟩ : ∃ b, (r1 == 42) = b := ⟨_, rfl⟩
                                        have HBB := Lib.hid (And.intro b1 h42)
                                        clear h1
                                        go_wp2_with (first
                                          | (go_at_call 59; refine (isq HQ.out S.out.2 _).mono ?_; rintro en wn ⟨rfl, rfl⟩)
                                          | (go_at_call 57; refine (peekq OK.out HQ.out S.out.2 _ (by decide)).mono ?_; (try rw [drop1, HR1.out]); (try rw [drop0, HR.out]); rintro en wn ⟨rfl, hbn⟩; have hS := And.intro (S.out.1.trans (Mv.of hbn)) (S.out.2.old hbn); clear S hbn; obtain ⟨c1, fz⟩ := hS.2.cellsq HQ.out HI.out; have S := Lib.hid hS; clear hS))
                                        go_meet
                                        exact ⟨by rw [HM.out, HBB.out.1, HBB.out.2]; rfl, S.out.1, S.out.2⟩
                                  · have b47 : (r == 47) = false := beq_eq_false_iff_ne.2 h47
                                    have H47 := Lib.hid b47
                                    clear h47
                                    go_wp2_with (first
                                      | (go_at_call 59; refine (isq HQ.out S.out.2 _).mono ?_; rintro en wn ⟨rfl, rfl⟩)
                                      | (go_at_call 57; refine (peekq OK.out HQ.out S.out.2 _ (by decide)).mono ?_; (try rw [drop1, HR1.out]); (try rw [drop0, HR.out]); rintro en wn ⟨rfl, hbn⟩; have hS := And.intro (S.out.1.trans (Mv.of hbn)) (S.out.2.old hbn); clear S hbn; obtain ⟨c1, fz⟩ := hS.2.cellsq HQ.out HI.out; have S := Lib.hid hS; clear hS))
                                    go_meet
                                    exact ⟨by rw [H47.out]; rfl, S.out.1, S.out.2⟩
                                case rest =>
                                  obtain ⟨rfl, hm, hs⟩ := hcut
                                  clear S c1 fz
                                  obtain ⟨c1, fz⟩ := hs.cellsq HQ.out HI.out
                                  have S := Lib.hid (And.intro hm hs)
                                  clear hm hs
                                  obtain ⟨b47, hb47⟩ : ∃ b, (r == 47 && sBit mode 64 && (r1 == 47 || r1 == 42)) = b := ⟨_, rfl⟩
                                  rw [hb47]
                                  have H47 := Lib.hid hb47
                                  clear hb47
                                  cases b47 with
                                  | true => as_aux_lemma =>
                                    have hx := H47.out
                                    simp only [Bool.and_eq_true, Bool.or_eq_true, beq_iff_eq] at hx
                                    have HX2 := Lib.hid hx
                                    have hskip : sBit mode 128 = false := by
                                      have := HBK.out
                                      rw [hx.1.2, hx.1.1] at this
                                      cases h : sBit mode 128 with
                                      | false => rfl
                                      | true => rw [h] at this; rcases hx.2 with h2 | h2 <;> rw [h2] at this <;> cases this
                                    have HSK := Lib.hid hskip
                                    clear hx hskip c1 fz
                                    go_wp2_with (first
                                      | (go_at_call 60; refine (commentq OK.out HQ.out S.out.2 (HR.out.trans HX2.out.1.1) (by rw [HR1.out]; exact HX2.out.2)).mono ?_; rintro en wx ⟨b, rfl, hgood, hmx, l4, hsx, hl4⟩; have SX := Lib.hid (And.intro (S.out.1.trans (by rw [← HQ.out]; exact hmx)) (And.intro hsx (And.intro hgood hl4))); clear hgood hmx hsx hl4))
                                    refine bodyPost_ret (v := .tuple #[.int .i64 (-8), .int .i64 (i : Nat), .bool b]) (by simp [results, Tryd.results41, go_sem]) rfl ?_
                                    refine HDONE.out _ l4 (-8) b SX.out.1 SX.out.2.1 (fun hs => ?_)
                                    have hg := SX.out.2.2.1 hs
                                    rw [SX.out.2.2.2 hs, ← HC.out, one_com (C := spCfg e mode white) HCL.out (HR.out.trans HX2.out.1.1)]
                                    unfold oneCom
                                    rw [if_pos (by show (chOf l2.tail = 47 ∨ chOf l2.tail = 42) ∧ hasBit (4 * mode) 256 = true; rw [HB.out.b64, HR1.out]; exact ⟨HX2.out.2, HX2.out.1.2⟩), hg]
                                    show (⟨-8, _, 0, hasBit (4 * mode) 512⟩ : One) = _
                                    rw [HB.out.b128, HSK.out]
                                  | false => as_aux_lemma =>
                                    have hne := HNE.out.2
                                    have hself : oneAt C e.src l2 = ⟨chOf l2, l2.tail, 0, false⟩ := by
                                      rw [← HC.out]
                                      refine one_self HCL.out HB.out (by rw [HR.out]; exact HNE.out.1) (fun h => by rw [HR.out]; exact HID.out h) (by rw [HR.out, HD.out]; exact HX.out.1) (fun h => ?_) HN34.out HN39.out HN96.out (fun h h2 => ?_)
                                      · rw [HR.out] at h
                                        have := HX.out.2
                                        rw [h] at this
                                        rw [HR1.out, HD1.out]
                                        simpa using this
                                      · rw [HR.out] at h
                                        have := H47.out
                                        rw [h, h2] at this
                                        rw [HR1.out]
                                        simp at this
                                        exact this
                                    rw [HR.out] at hself
                                    have HSELF := Lib.hid hself
                                    have hrg := HRG.out
                                    clear hself
                                    cases l2 with
                                    | nil => exact absurd rfl hne
                                    | cons cx l3 =>
                                    clear hne
                                    go_upto_region 34 with (fail)
                                    go_wp2_with (fail)
                                    obtain ⟨st, mv, -⟩ := S.out.2.stepq OK.out HQ.out HI.out
                                    have hwr : wrap64 r = r := by exact wrap64_id (by omega) (by omega)
                                    refine bodyPost_ret (v := .tuple #[.int .i64 r, .int .i64 (i : Nat), .bool true]) (by simp [results, Tryd.results41, go_sem, hwr]) rfl ?_
                                    exact HDONE.out _ l3 r true (S.out.1.trans mv) st (fun _ => HSELF.out)
end Go.Proofs.YtmfihkgbfoapaaaDoor
