/- Own texts E2 of this claim, cut to what the claim uses. -/
import Derived.Test.YtmfihkgbfoapaaaDoorZD7
import Derived.Test.YtmfihkgbfoapaaaDoorZM0
import Derived.WalkMore
import Derived.Laws.BitsLemmas
import Derived.Laws.Bits64
import Derived.Deep.DeepCutAuto
import Derived.Deep.CutBlock
import Derived.Deep.LoopGhost
namespace Go.Proofs.YtmfihkgbfoapaaaDoor
open Go Go.RowKit Go.Lib Go.BigFrame
theorem wraps_u64 (n : Int) (h₀ : 0 ≤ n) (h₁ : n < 2 ^ 64) : IntKind.u64.wrap n = n := by rw [IntKind.wrap_u64]; omega
theorem isWh_test {white c : Int} (hw : 0 ≤ white ∧ white < 18446744073709551616) (hc : -1 ≤ c ∧ c ≤ 1114111) :
    (bits .and .u64 white (IntKind.u64.wrap (2 ^ min (IntKind.u64.wrap c).toNat 64)) != 0) = isWh white c := by
  obtain ⟨W, rfl⟩ : ∃ W : Nat, white = W := ⟨white.toNat, by omega⟩
  have hW : W < 2 ^ 64 := by have := hw.2; omega
  unfold isWh
  by_cases h0 : c < 0
  · have h1 : c = -1 := by omega
    subst h1
    rw [show (min (IntKind.u64.wrap (-1)).toNat 64) = 64 by rw [IntKind.wrap_u64]; decide, show IntKind.u64.wrap (2 ^ 64 : Int) = ((0 : Nat) : Int) by rw [IntKind.wrap_u64]; decide]
    have h2 := (bits_nat .u64 64 (by decide) wraps_u64 W 0 hW (by decide)).1
    rw [h2]
    simp
  · obtain ⟨n, rfl⟩ : ∃ n : Nat, c = n := ⟨c.toNat, by omega⟩
    rw [show (IntKind.u64.wrap ((n : Nat) : Int)).toNat = n by rw [IntKind.wrap_u64]; omega]
    simp only [Int.toNat_natCast]
    rw [show decide (0 ≤ ((n : Nat) : Int)) = true by simp, Bool.true_and]
    by_cases hn : n < 64
    · rw [Nat.min_eq_left (by omega)]
      have hp : (2 : Nat) ^ n < 2 ^ 64 := Nat.pow_lt_pow_right (by decide) hn
      rw [show ((2 : Int) ^ n) = ((2 ^ n : Nat) : Int) by simp, wraps_u64 _ (Int.natCast_nonneg _) (by exact_mod_cast hp)]
      have h2 := (bits_nat .u64 64 (by decide) wraps_u64 W (2 ^ n) hW hp).1
      rw [h2]
      rw [show (((W &&& 2 ^ n : Nat) : Int) != 0) = (W &&& 2 ^ n != 0) by
        rw [Bool.eq_iff_iff]; simp [bne_iff_ne]]
      have h3 : W &&& 2 ^ n = if W.testBit n = true then 2 ^ n else 0 := by
        apply Nat.eq_of_testBit_eq
        intro i
        rw [Nat.testBit_and, Nat.testBit_two_pow]
        by_cases hi : n = i
        · subst hi; cases h4 : W.testBit n <;> simp
        · cases h4 : W.testBit n <;> simp [hi]
      rw [h3]
      cases W.testBit n
      · rfl
      · simp only [if_true, bne_iff_ne]; exact Nat.ne_of_gt (Nat.two_pow_pos n)
    · rw [Nat.min_eq_right (by omega), show IntKind.u64.wrap (2 ^ 64 : Int) = ((0 : Nat) : Int) by rw [IntKind.wrap_u64]; decide]
      have h2 := (bits_nat .u64 64 (by decide) wraps_u64 W 0 hW (by decide)).1
      rw [h2, Nat.testBit_lt_two_pow (Nat.lt_of_lt_of_le hW (Nat.pow_le_pow_right (by decide) (by omega)))]
      simp
def tokLn (src : List UInt8) (l : List Item) : Nat := if items src = [] then 0 else lineAt src l
def tokCo (src : List UInt8) (l : List Item) : Nat := if items src = [] then 0 else colAt src l
theorem tokPlace {src : List UInt8} {pre l : List Item} {r : Regs} (hd : Rd src pre l r) :
    (0 < r.col ∧ r.line = tokLn src l ∧ r.col = tokCo src l) ∨ (r.col = 0 ∧ r.line - 1 = tokLn src l ∧ r.lll = tokCo src l) := by
  have hp := hd.pos
  have hs := hd.split
  have hb := behind_pre hs
  unfold tokLn tokCo lineAt colAt
  rw [hb]
  cases l with
  | nil =>
    simp only [PosAt] at hp
    rw [List.append_nil] at hs
    rw [hs]
    by_cases h0 : pre = []
    · subst h0
      simp only [if_true] at hp ⊢
      exact .inr ⟨hp.2.1, by rw [hp.1]; rfl, by rw [hp.2.2]; rfl⟩
    · simp only [if_neg h0] at hp ⊢
      exact .inl ⟨by rw [hp.2.1]; omega, hp.1, hp.2.1⟩
  | cons c l =>
    simp only [PosAt] at hp
    have hne : ¬ items src = [] := by rw [hs]; simp
    rw [posOf_snoc] at hp
    simp only [if_neg hne]
    unfold posStep at hp
    by_cases h10 : c.r = 10
    · simp only [h10, if_true] at hp
      exact .inr ⟨hp.2.1, by rw [hp.1]; omega, hp.2.2⟩
    · simp only [h10, if_false] at hp
      exact .inl ⟨by rw [hp.2.1]; omega, hp.1, hp.2.1⟩
theorem Rd.bounds {src : List UInt8} {pre l : List Item} {r : Regs} (hd : Rd src pre l r) (hlen : Fits src) : 0 ≤ r.line ∧ r.line ≤ 4611686018427387904 ∧ 0 ≤ r.lcl ∧ r.lcl ≤ r.srcPos ∧ r.srcPos ≤ 1024 ∧ 0 ≤ r.off ∧ r.off ≤ 70368744177664 ∧
    r.off + (r.srcPos - r.lcl) = offOf src l := by
  have hp := hd.pos
  have hoff := offOf_pre hd.split
  obtain ⟨so, sp, se, g, hA⟩ := hd.at_
  have h1 := g.off; have h2 := g.pos; have h3 := g.spse; have h4 := g.se4; have h5 := g.len
  have h6 := hd.lcl; have h7 := hd.le
  rw [bytesOf_append, List.length_append] at hA
  have hpl : pre.length + l.length ≤ src.length := by
    have h1 := items_len hd.split
    have h2 := length_le_bytes (l := pre ++ l) (fun c hc => items_n (by rw [hd.split]; exact hc))
    rw [bytesOf_append, List.length_append, List.length_append] at h2; omega
  unfold Fits at hlen
  have hl : 0 ≤ r.line ∧ r.line ≤ 4611686018427387904 := by
    cases l with
    | nil =>
      simp only [PosAt] at hp
      have := posOf_le pre
      simp only [List.length_nil] at hpl
      omega
    | cons c l =>
      simp only [PosAt] at hp
      have := posOf_le (pre ++ [c])
      simp only [List.length_append, List.length_cons, List.length_nil] at this hpl
      omega
  exact ⟨hl.1, hl.2, by omega, h7, by omega, by omega, by omega, by rw [hoff]; omega⟩
theorem Sl.begun {E : Env} {src : List UInt8} {w : World} {pre l : List Item} {x : Sx} {r : Regs} {o a b : Int} (hR : Raw E w { r with tb := [], tokPos := r.srcPos - r.lcl, offs := o, ln := a, co := b }) (hd : Rd src pre l r)
    (hX : Rx src r { x with e := x.e + (lexErrs (pre ++ l.take 1) : Nat) }) (hlen : Fits src) (ho : o = offOf src l) (ha : a = tokLn src l) (hb : b = tokCo src l) :
    Sl E src w l { x with offs := offOf src l, ln := tokLn src l, co := tokCo src l, tok := some (offOf src l) } := by
  have hbd := hd.bounds hlen
  obtain ⟨so, sp, se, g, hA⟩ := hd.at_
  have h1 := g.off; have h2 := g.pos
  refine ⟨pre, _, hR, hd.like rfl rfl rfl rfl rfl rfl rfl rfl rfl rfl, ⟨hX.ec, hX.cnt, hX.ch, hX.mode, hX.white, ho, ha, hb, ?_⟩⟩
  simp only [TokIs]
  refine ⟨⟨so, (r.srcPos - r.lcl).toNat, sp, h1, by simp only; omega, h2, by omega, by omega, ?_⟩, by omega⟩
  rw [show so + (r.srcPos - r.lcl).toNat - offOf src l = 0 by omega, List.take_zero]
theorem scanNumber_m (E : Env) (src : List UInt8) (w : World) (l : List Item) (x : Sx) (st : Nat) (dot : Bool) (m : Int) (h : Sl E src w l x) (hm : x.mode = m) (hx : x.tok = some st) (gl : Glob E) (hlen : Fits src) :
    Calls Tryd.prog 72 #[.pointer (some ⟨E.b, 0, none⟩), .int .i32 (chOf l), .bool dot] w fun e w' =>
      e = .returned (.tuple #[.int .i32 (numRun src st (hasBit m 16) dot l).tok, .int .i32 (chOf (numRun src st (hasBit m 16) dot l).l)]) ∧
      Sl E src w' (numRun src st (hasBit m 16) dot l).l (x.errs (numRun src st (hasBit m 16) dot l).k) := by
  subst hm; exact scanNumber_sl E src w l x st dot h hx gl hlen
theorem scanComment_c (E : Env) (src : List UInt8) (w : World) (l : List Item) (x : Sx) (c : Int) (h : Sl E src w l x) (hc : chOf l = c) (gl : Glob E) (hlen : Fits src) :
    Calls Tryd.prog 75 #[.pointer (some ⟨E.b, 0, none⟩), .int .i32 c] w fun e w' => e = .returned (.int .i32 (chOf (comment l).1)) ∧ Sl E src w' (comment l).1 (x.errs (comment l).2) := by
  subst hc; exact scanComment_sl E src w l x h gl hlen
theorem ff {b : Bool} (h : b = false) : ¬ b = true := by rw [h]; decide
section
variable {C : Cfg} {src : List UInt8} {l : List Item}
theorem at_zero (I : Idr) (c : Int) : I.at 0 c = I.p0 c := rfl
theorem o_id (h1 : C.I.at 0 (chOf l) = true) : oneAt C src l = oneId C l := by unfold oneAt; rw [if_pos (by rw [← at_zero]; exact h1)]
theorem o_num (h1 : C.I.at 0 (chOf l) = false) (h2 : isDec (chOf l) = true) : oneAt C src l = oneNum C src l := by
  unfold oneAt; rw [if_neg (by rw [← at_zero]; exact ff h1), if_pos h2]
theorem o_eof (h1 : C.I.at 0 (chOf l) = false) (h2 : isDec (chOf l) = false) (h3 : (chOf l == -1) = true) : oneAt C src l = ⟨-1, l, 0, false⟩ := by
  unfold oneAt; rw [if_neg (by rw [← at_zero]; exact ff h1), if_neg (ff h2), if_pos (eq_of_beq h3)]
theorem o_str (h1 : C.I.at 0 (chOf l) = false) (h2 : isDec (chOf l) = false) (h3 : (chOf l == 34) = true) : oneAt C src l = oneStr C l := by
  unfold oneAt; rw [if_neg (by rw [← at_zero]; exact ff h1), if_neg (ff h2), if_neg (by rw [eq_of_beq h3]; decide), if_pos (eq_of_beq h3)]
theorem o_chr (h1 : C.I.at 0 (chOf l) = false) (h2 : isDec (chOf l) = false) (h3 : (chOf l == 39) = true) : oneAt C src l = oneChr C l := by
  unfold oneAt; rw [if_neg (by rw [← at_zero]; exact ff h1), if_neg (ff h2), if_neg (by rw [eq_of_beq h3]; decide), if_neg (by rw [eq_of_beq h3]; decide), if_pos (eq_of_beq h3)]
theorem o_dot (h1 : C.I.at 0 (chOf l) = false) (h2 : isDec (chOf l) = false) (h3 : (chOf l == 46) = true) : oneAt C src l = oneDot C src l := by
  unfold oneAt; rw [if_neg (by rw [← at_zero]; exact ff h1), if_neg (ff h2), if_neg (by rw [eq_of_beq h3]; decide), if_neg (by rw [eq_of_beq h3]; decide), if_neg (by rw [eq_of_beq h3]; decide), if_pos (eq_of_beq h3)]
theorem o_com (h1 : C.I.at 0 (chOf l) = false) (h2 : isDec (chOf l) = false) (h3 : (chOf l == 47) = true) : oneAt C src l = oneCom C l := by
  unfold oneAt; rw [if_neg (by rw [← at_zero]; exact ff h1), if_neg (ff h2), if_neg (by rw [eq_of_beq h3]; decide), if_neg (by rw [eq_of_beq h3]; decide), if_neg (by rw [eq_of_beq h3]; decide), if_neg (by rw [eq_of_beq h3]; decide), if_pos (eq_of_beq h3)]
theorem o_raw (h1 : C.I.at 0 (chOf l) = false) (h2 : isDec (chOf l) = false) (h3 : (chOf l == 96) = true) : oneAt C src l = oneRaw C l := by
  unfold oneAt; rw [if_neg (by rw [← at_zero]; exact ff h1), if_neg (ff h2), if_neg (by rw [eq_of_beq h3]; decide), if_neg (by rw [eq_of_beq h3]; decide), if_neg (by rw [eq_of_beq h3]; decide), if_neg (by rw [eq_of_beq h3]; decide), if_neg (by rw [eq_of_beq h3]; decide), if_pos (eq_of_beq h3)]
theorem o_def (h1 : C.I.at 0 (chOf l) = false) (h2 : isDec (chOf l) = false) (h3 : (chOf l == -1) = false) (h4 : (chOf l == 34) = false) (h5 : (chOf l == 39) = false) (h6 : (chOf l == 46) = false) (h7 : (chOf l == 47) = false) (h8 : (chOf l == 96) = false) : oneAt C src l = One.self l := by
  unfold oneAt; rw [if_neg (by rw [← at_zero]; exact ff h1), if_neg (ff h2), if_neg (beq_eq_false_iff_ne.1 h3), if_neg (beq_eq_false_iff_ne.1 h4), if_neg (beq_eq_false_iff_ne.1 h5), if_neg (beq_eq_false_iff_ne.1 h6), if_neg (beq_eq_false_iff_ne.1 h7), if_neg (beq_eq_false_iff_ne.1 h8)]
variable {o : One}
theorem q_id1 (ho : oneAt C src l = o) (h1 : C.I.at 0 (chOf l) = true) (hb : (bits .and .u64 C.mode 4 != 0) = true) : o = ⟨-2, more C.I.p1 l.tail, 0, false⟩ := by
  rw [← ho]; have hb : hasBit C.mode 4 = true := hb; rw [o_id h1]; unfold oneId; rw [if_pos hb]
theorem q_id0 (ho : oneAt C src l = o) (h1 : C.I.at 0 (chOf l) = true) (hb : (bits .and .u64 C.mode 4 != 0) = false) : o = ⟨chOf l, l.tail, 0, false⟩ := by
  rw [← ho]; have hb : hasBit C.mode 4 = false := hb; rw [o_id h1]; unfold oneId; rw [if_neg (ff hb)]; rfl
theorem q_num1 (ho : oneAt C src l = o) (h1 : C.I.at 0 (chOf l) = false) (h2 : isDec (chOf l) = true) (hb : (bits .and .u64 C.mode 24 != 0) = true) : o = ⟨(numRun src (offOf src l) (hasBit C.mode 16) false l).tok, (numRun src (offOf src l) (hasBit C.mode 16) false l).l, (numRun src (offOf src l) (hasBit C.mode 16) false l).k, false⟩ := by
  rw [← ho]; have hb : hasBit C.mode 24 = true := hb; rw [o_num h1 h2]; unfold oneNum; rw [if_pos hb]; rfl
theorem q_num0 (ho : oneAt C src l = o) (h1 : C.I.at 0 (chOf l) = false) (h2 : isDec (chOf l) = true) (hb : (bits .and .u64 C.mode 24 != 0) = false) : o = ⟨chOf l, l.tail, 0, false⟩ := by
  rw [← ho]; have hb : hasBit C.mode 24 = false := hb; rw [o_num h1 h2]; unfold oneNum; rw [if_neg (ff hb)]; rfl
theorem q_eof (ho : oneAt C src l = o) (h1 : C.I.at 0 (chOf l) = false) (h2 : isDec (chOf l) = false) (h3 : (chOf l == -1) = true) : o = ⟨chOf l, l, 0, false⟩ := by
  rw [← ho]; rw [o_eof h1 h2 h3, eq_of_beq h3]
theorem q_str1 (ho : oneAt C src l = o) (h1 : C.I.at 0 (chOf l) = false) (h2 : isDec (chOf l) = false) (h3 : (chOf l == 34) = true) (hb : (bits .and .u64 C.mode 64 != 0) = true) : o = ⟨-6, (strRun 34 l.tail).1.tail, (strRun 34 l.tail).2.2, false⟩ := by
  rw [← ho]; have hb : hasBit C.mode 64 = true := hb; rw [o_str h1 h2 h3]; unfold oneStr; rw [if_pos hb]
theorem q_str0 (ho : oneAt C src l = o) (h1 : C.I.at 0 (chOf l) = false) (h2 : isDec (chOf l) = false) (h3 : (chOf l == 34) = true) (hb : (bits .and .u64 C.mode 64 != 0) = false) : o = ⟨chOf l, l.tail, 0, false⟩ := by
  rw [← ho]; have hb : hasBit C.mode 64 = false := hb; rw [o_str h1 h2 h3]; unfold oneStr; rw [if_neg (ff hb)]; rfl
theorem q_chr1 (ho : oneAt C src l = o) (h1 : C.I.at 0 (chOf l) = false) (h2 : isDec (chOf l) = false) (h3 : (chOf l == 39) = true) (hb : (bits .and .u64 C.mode 32 != 0) = true) : o = ⟨-5, (strRun 39 l.tail).1.tail, (strRun 39 l.tail).2.2 + chrErr (strRun 39 l.tail).2.1, false⟩ := by
  rw [← ho]; have hb : hasBit C.mode 32 = true := hb; rw [o_chr h1 h2 h3]; unfold oneChr; rw [if_pos hb]
theorem q_chr0 (ho : oneAt C src l = o) (h1 : C.I.at 0 (chOf l) = false) (h2 : isDec (chOf l) = false) (h3 : (chOf l == 39) = true) (hb : (bits .and .u64 C.mode 32 != 0) = false) : o = ⟨chOf l, l.tail, 0, false⟩ := by
  rw [← ho]; have hb : hasBit C.mode 32 = false := hb; rw [o_chr h1 h2 h3]; unfold oneChr; rw [if_neg (ff hb)]; rfl
theorem q_dot1 (ho : oneAt C src l = o) (h1 : C.I.at 0 (chOf l) = false) (h2 : isDec (chOf l) = false) (h3 : (chOf l == 46) = true) (h4 : isDec (chOf l.tail) = true) (hb : (bits .and .u64 C.mode 16 != 0) = true) : o = ⟨(numRun src (offOf src l) (hasBit C.mode 16) true l.tail).tok, (numRun src (offOf src l) (hasBit C.mode 16) true l.tail).l, (numRun src (offOf src l) (hasBit C.mode 16) true l.tail).k, false⟩ := by
  rw [← ho]; have hb : hasBit C.mode 16 = true := hb; rw [o_dot h1 h2 h3]; unfold oneDot; rw [if_pos ⟨h4, hb⟩]; rfl
theorem q_dot0 (ho : oneAt C src l = o) (h1 : C.I.at 0 (chOf l) = false) (h2 : isDec (chOf l) = false) (h3 : (chOf l == 46) = true) (hb : (bits .and .u64 C.mode 16 != 0) = false) : o = ⟨chOf l, l.tail, 0, false⟩ := by
  rw [← ho]; have hb : hasBit C.mode 16 = false := hb; rw [o_dot h1 h2 h3]; unfold oneDot; rw [if_neg (fun h => ff hb h.2)]; rfl
theorem q_dotn (ho : oneAt C src l = o) (h1 : C.I.at 0 (chOf l) = false) (h2 : isDec (chOf l) = false) (h3 : (chOf l == 46) = true) (h4 : ¬ isDec (chOf l.tail) = true) : o = ⟨chOf l, l.tail, 0, false⟩ := by
  rw [← ho]; rw [o_dot h1 h2 h3]; unfold oneDot; rw [if_neg (fun h => h4 h.1)]; rfl
theorem q_com47r (ho : oneAt C src l = o) (h1 : C.I.at 0 (chOf l) = false) (h2 : isDec (chOf l) = false) (h3 : (chOf l == 47) = true) (h4 : chOf l.tail = 47) (hb : (bits .and .u64 C.mode 256 != 0) = true) (hr : (bits .and .u64 C.mode 512 != 0) = true) : o = ⟨-8, (comment l.tail).1, (comment l.tail).2, true⟩ := by
  rw [← ho]; have hb : hasBit C.mode 256 = true := hb; rw [o_com h1 h2 h3]; unfold oneCom; rw [if_pos ⟨.inl h4, hb⟩, show hasBit C.mode 512 = true from hr]
theorem q_com47 (ho : oneAt C src l = o) (h1 : C.I.at 0 (chOf l) = false) (h2 : isDec (chOf l) = false) (h3 : (chOf l == 47) = true) (h4 : chOf l.tail = 47) (hb : (bits .and .u64 C.mode 256 != 0) = true) (hr : (bits .and .u64 C.mode 512 != 0) = false) : o = ⟨-8, (comment l.tail).1, (comment l.tail).2, false⟩ := by
  rw [← ho]; have hb : hasBit C.mode 256 = true := hb; rw [o_com h1 h2 h3]; unfold oneCom; rw [if_pos ⟨.inl h4, hb⟩, show hasBit C.mode 512 = false from hr]
theorem q_com42r (ho : oneAt C src l = o) (h1 : C.I.at 0 (chOf l) = false) (h2 : isDec (chOf l) = false) (h3 : (chOf l == 47) = true) (h4 : chOf l.tail = 42) (hb : (bits .and .u64 C.mode 256 != 0) = true) (hr : (bits .and .u64 C.mode 512 != 0) = true) : o = ⟨-8, (comment l.tail).1, (comment l.tail).2, true⟩ := by
  rw [← ho]; have hb : hasBit C.mode 256 = true := hb; rw [o_com h1 h2 h3]; unfold oneCom; rw [if_pos ⟨.inr h4, hb⟩, show hasBit C.mode 512 = true from hr]
theorem q_com42 (ho : oneAt C src l = o) (h1 : C.I.at 0 (chOf l) = false) (h2 : isDec (chOf l) = false) (h3 : (chOf l == 47) = true) (h4 : chOf l.tail = 42) (hb : (bits .and .u64 C.mode 256 != 0) = true) (hr : (bits .and .u64 C.mode 512 != 0) = false) : o = ⟨-8, (comment l.tail).1, (comment l.tail).2, false⟩ := by
  rw [← ho]; have hb : hasBit C.mode 256 = true := hb; rw [o_com h1 h2 h3]; unfold oneCom; rw [if_pos ⟨.inr h4, hb⟩, show hasBit C.mode 512 = false from hr]
theorem q_com0 (ho : oneAt C src l = o) (h1 : C.I.at 0 (chOf l) = false) (h2 : isDec (chOf l) = false) (h3 : (chOf l == 47) = true) (hb : (bits .and .u64 C.mode 256 != 0) = false) : o = ⟨chOf l, l.tail, 0, false⟩ := by
  rw [← ho]; have hb : hasBit C.mode 256 = false := hb; rw [o_com h1 h2 h3]; unfold oneCom; rw [if_neg (fun h => ff hb h.2)]; rfl
theorem q_comn (ho : oneAt C src l = o) (h1 : C.I.at 0 (chOf l) = false) (h2 : isDec (chOf l) = false) (h3 : (chOf l == 47) = true) (h4 : ¬ chOf l.tail = 47) (h5 : ¬ chOf l.tail = 42) : o = ⟨chOf l, l.tail, 0, false⟩ := by
  rw [← ho]; rw [o_com h1 h2 h3]; unfold oneCom; rw [if_neg (fun h => h.1.elim h4 h5)]; rfl
theorem q_raw1 (ho : oneAt C src l = o) (h1 : C.I.at 0 (chOf l) = false) (h2 : isDec (chOf l) = false) (h3 : (chOf l == 96) = true) (hb : (bits .and .u64 C.mode 128 != 0) = true) : o = ⟨-7, (rawRun l.tail).tail, rawErr (rawRun l.tail), false⟩ := by
  rw [← ho]; have hb : hasBit C.mode 128 = true := hb; rw [o_raw h1 h2 h3]; unfold oneRaw; rw [if_pos hb]
theorem q_raw0 (ho : oneAt C src l = o) (h1 : C.I.at 0 (chOf l) = false) (h2 : isDec (chOf l) = false) (h3 : (chOf l == 96) = true) (hb : (bits .and .u64 C.mode 128 != 0) = false) : o = ⟨chOf l, l.tail, 0, false⟩ := by
  rw [← ho]; have hb : hasBit C.mode 128 = false := hb; rw [o_raw h1 h2 h3]; unfold oneRaw; rw [if_neg (ff hb)]; rfl
theorem q_def (ho : oneAt C src l = o) (h1 : C.I.at 0 (chOf l) = false) (h2 : isDec (chOf l) = false) (h3 : (chOf l == -1) = false) (h4 : (chOf l == 34) = false) (h5 : (chOf l == 39) = false) (h6 : (chOf l == 46) = false) (h7 : (chOf l == 47) = false) (h8 : (chOf l == 96) = false) : o = ⟨chOf l, l.tail, 0, false⟩ := by
  rw [← ho]; rw [o_def h1 h2 h3 h4 h5 h6 h7 h8]; rfl
end
def scanFrame (E : Env) (ch : Value) (u : Nat → Value) : Act := { tmps := #[.pointer (some ⟨E.b, 0, none⟩), u 1, .int .i32 0, ch, u 4, u 5, u 6, u 7, u 8, u 9, u 10, u 11, u 12, u 13, u 14, u 15, u 16, u 17, u 18, u 19, u 20, u 21, u 22, u 23, u 24, u 25, u 26, u 27, u 28, u 29, u 30, u 31, u 32, u 33, u 34, u 35, u 36, u 37, u 38, u 39, u 40, u 41, u 42, u 43, u 44, u 45, u 46, u 47, u 48, u 49, u 50, u 51, u 52, u 53, u 54, u 55, u 56, u 57, u 58, u 59, u 60, u 61, u 62, u 63, u 64, u 65, u 66, u 67, u 68, u 69, u 70, u 71, u 72, u 73, u 74, u 75, u 76, u 77, u 78, u 79, u 80, u 81, u 82, u 83, u 84, u 85, u 86, u 87, u 88, u 89, u 90, u 91, u 92, u 93, u 94, u 95, u 96, u 97, u 98, u 99, u 100, u 101, u 102, u 103, u 104, u 105, u 106, u 107, u 108, u 109, u 110, u 111, u 112, u 113, u 114, u 115, u 116, u 117, u 118, u 119, u 120, u 121, u 122, u 123, u 124, u 125, u 126, u 127, u 128, u 129, u 130, u 131, u 132, u 133, u 134, u 135, u 136, u 137, u 138, u 139, u 140, u 141, u 142, u 143, u 144, u 145, u 146, u 147, u 148, u 149, u 150, u 151, u 152, u 153, u 154, u 155, u 156, u 157, u 158, u 159, u 160, u 161, u 162, u 163, u 164, u 165, u 166, u 167, u 168, u 169, u 170, u 171, u 172, u 173, u 174, u 175, u 176, u 177, u 178, u 179, u 180, u 181, u 182, u 183, u 184, u 185, u 186, u 187, u 188, u 189, u 190, u 191, u 192, u 193, u 194, u 195, u 196, u 197, u 198, u 199, u 200, u 201, u 202, u 203, u 204, u 205, u 206, u 207, u 208, u 209, u 210, u 211, u 212, u 213, u 214, u 215, u 216, u 217, u 218, u 219, u 220, u 221, u 222, u 223, u 224, u 225, u 226, u 227, u 228, u 229, u 230, u 231, u 232, u 233, u 234], defers := [] }
def ScanJ (E : Env) (C : Cfg) (src : List UInt8) (l : List Item) (x : Sx) (n : Nat) (a : Act) (w : World) : Prop :=
  ∃ (l1 : List Item) (x1 : Sx) (k0 : Nat), a = scanFrame E (.int .i32 (chOf l1)) (fun i => a.tmps.getD i undef) ∧ l1.length = n ∧ Sl E src w l1 x1 ∧ (x1.e = x.e + k0 ∧ x1.mode = x.mode ∧ x1.white = x.white ∧ x1.tok = none) ∧
    scanGo C src l = ⟨(scanGo C src l1).tok, (scanGo C src l1).at_, (scanGo C src l1).l, k0 + (scanGo C src l1).k⟩
theorem scan_again {C : Cfg} {src : List UInt8} {l l1 l2 l3 : List Item} {k0 k1 n : Nat} {t : Int} (h1 : more (isWh C.white) l1 = l2) (h2 : oneAt C src l2 = ⟨t, l3, k1, true⟩) (hn : l1.length = n)
    (hg : scanGo C src l = ⟨(scanGo C src l1).tok, (scanGo C src l1).at_, (scanGo C src l1).l, k0 + (scanGo C src l1).k⟩) :
    l3.length < n ∧ scanGo C src l = ⟨(scanGo C src l3).tok, (scanGo C src l3).at_, (scanGo C src l3).l, k0 + k1 + (scanGo C src l3).k⟩ := by
  subst h1
  have h3 : (oneAt C src (more (isWh C.white) l1)).redo = true := by rw [h2]
  have h4 := (oneAt_redo h3).1
  have h5 := more_le (isWh C.white) l1
  rw [h2] at h4
  simp only at h4
  refine ⟨by omega, ?_⟩
  rw [hg, scanGo_redo h3, h2]
  simp only [Nat.add_assoc]
set_option maxRecDepth 100000 in
set_option maxHeartbeats 8000000 in
theorem scan_sl (E : Env) (C : Cfg) (src : List UInt8) (w : World) (l : List Item) (x : Sx) (h : Ready E src w l x) (hx : x.mode = C.mode ∧ x.white = C.white) (hw : 0 ≤ C.white ∧ C.white < 18446744073709551616) (gl : Glob E) (hI : IdOk E C.I) (hlen : Fits src) :
    Calls Tryd.prog 45 #[.pointer (some ⟨E.b, 0, none⟩)] w fun e w' => e = .returned (.int .i32 (scanGo C src l).tok) ∧
      St E src w' (scanGo C src l).l { e := x.e + (scanGo C src l).k, ch := chOf (scanGo C src l).l, mode := x.mode, white := x.white, offs := offOf src (scanGo C src l).at_, ln := tokLn src (scanGo C src l).at_, co := tokCo src (scanGo C src l).at_, tok := some (offOf src (scanGo C src l).at_) } := by
  have H := Lib.hid h
  clear h
  go_enter Tryd.func45, Tryd.ntmps45
  go_wp2_with (fail)
  refine wp_scope_redo 0 (ScanJ E C src l x) rfl ?pass ?first
  case first => as_aux_lemma =>
    intro hp
    have HP := Lib.hid hp
    clear hp
    go_wp2_with (first
      | (go_at_call 56; refine (peek_sl E src _ _ _ H.out gl hlen).mono ?_; clear H; rintro e w' ⟨rfl, h'⟩; obtain ⟨t, c1⟩ := h'.c_tokPos; have c2 := h'.c_ln; have hf := h'.frozen'; have H := Lib.hid ((h'.set_none).set_ln 0); clear h'))
    refine wp_label ?_
    refine ‹∀ a w, _ → _› _ _ ?_
    exact HP.out l.length _ _ ⟨l, _, 0, rfl, rfl, H.out, ⟨by simp, rfl, rfl, rfl⟩, by simp⟩
  case pass => as_aux_lemma =>
    intro n a0 w0 hJ
    obtain ⟨l1, x1, k0, ha, hn, hS, hx1, hg⟩ := hJ
    generalize (fun i => a0.tmps.getD i undef) = u at ha
    subst ha
    unfold scanFrame
    have hwm : x1.mode = C.mode ∧ x1.white = C.white ∧ x1.tok = none := ⟨hx1.2.1.trans hx.1, hx1.2.2.1.trans hx.2, hx1.2.2.2⟩
    have HG := Lib.hid (And.intro hx1 hg)
    have S := Lib.hid hS
    have HM := Lib.hid hwm
    clear hx1 hg hS hwm H hx
    go_wp2_with (fail)
    go_loopg [3] l1.length (fun k ch wr => ∃ l2 : List Item, l2.length = k ∧ ch = .int .i32 (chOf l2) ∧ Sl E src wr l2 x1 ∧ more (isWh C.white) l2 = more (isWh C.white) l1)
    case atStart => exact ⟨l1, rfl, rfl, S.out, rfl⟩
    case round =>
      obtain ⟨l2, hk, rfl, hs, hm⟩ := hrel
      have c1 := hs.c_white
      have hf := hs.frozen'
      have hr := hs.range
      have S := Lib.hid hs
      have HM2 := Lib.hid (And.intro hk hm)
      clear hs hk hm
      go_wp2_with (first
        | (go_at_call 67; refine (next_sl E src _ _ _ S.out gl hlen).mono ?_; clear S; rintro e w' ⟨rfl, h'⟩; have S := Lib.hid h'; clear h'))
      · have h5 : isWh C.white (chOf l2) = true := by
          rw [← isWh_test hw hr, ← HM.out.2.1]; with_reducible assumption
        have h6 := more_step (isWh_end _) h5
        have hk := HM2.out
        go_roundg l2.tail.length
        case measure => omega
        case rel => exact ⟨l2.tail, rfl, rfl, S.out, by rw [← h6.1]; exact hk.2⟩
      · have h5 : isWh C.white (chOf l2) = false := by
          rw [← isWh_test hw hr, ← HM.out.2.1]; with_reducible assumption
        have hstop : more (isWh C.white) l1 = l2 := by rw [← HM2.out.2, more_stop h5]
        have HST := Lib.hid (And.intro hstop hr)
        obtain ⟨pre, r, hR, hd, hX⟩ := S.out
        clear S c1 hf hr hstop h5 HM2
        have hbd := hd.bounds hlen
        have hpl := tokPlace hd
        have q1 : wrap64 (r.srcPos - r.lcl) = r.srcPos - r.lcl := by unfold wrap64; omega
        have q2 : wrap64 (r.off + (r.srcPos - r.lcl)) = r.off + (r.srcPos - r.lcl) := by unfold wrap64; omega
        have HBD := Lib.hid hbd
        have HPL := Lib.hid hpl
        have HD := Lib.hid (And.intro hd hX)
        clear hbd hpl hd hX
        refine (reset_spec E r _ hR).mono ?_
        rintro e w1 ⟨rfl, hR1⟩
        have H1 := Lib.hid hR1
        clear hR hR1
        go_upto_region 7 with (fail)
        refine wp_region_tail 10 (by kernel_rfl) (by kernel_rfl) ?_
        intro wx e1 e2 e3 e4
        have hx := Raw.like H1.out wx e1 e2 e3 e4
        clear H1 e1 e2 e3 e4
        have c1 : wx.cell? ⟨E.b, 1026, none⟩ = some (.int .i64 r.srcPos) := hx.c_srcPos
        have c2 : wx.cell? ⟨E.b, 1032, none⟩ = some (.int .i64 r.lcl) := hx.c_lcl
        have c3 : wx.cell? ⟨E.b, 1036, none⟩ = some (.int .i64 r.tokPos) := hx.c_tokPos
        have hf := hx.frozen
        have H1 := Lib.hid (hx.set_tokPos (r.srcPos - r.lcl))
        clear hx
        simp only [List.take_succ_cons, List.take_zero, List.drop_succ_cons, List.drop_zero]
        repeat (go_big_quiet_step (fail))
        refine wpQuiet_nil ?_
        go_upto_region 8 with (fail)
        refine wp_region_tail 10 (by kernel_rfl) (by kernel_rfl) ?_
        intro wy e1 e2 e3 e4
        have hx := Raw.like H1.out wy e1 e2 e3 e4
        clear H1 e1 e2 e3 e4 c1 c2 c3 hf
        have c1 : wy.cell? ⟨E.b, 1028, none⟩ = some (.int .i64 r.off) := hx.c_off
        have c2 : wy.cell? ⟨E.b, 1036, none⟩ = some (.int .i64 (r.srcPos - r.lcl)) := hx.c_tokPos
        have c3 : wy.cell? ⟨E.b, 1045, none⟩ = some (.int .i64 r.offs) := hx.c_offs
        have c4 : wy.cell? ⟨E.b, 1030, none⟩ = some (.int .i64 r.col) := hx.c_col
        have c5 : wy.cell? ⟨E.b, 1029, none⟩ = some (.int .i64 r.line) := hx.c_line
        have c6 : wy.cell? ⟨E.b, 1031, none⟩ = some (.int .i64 r.lll) := hx.c_lll
        have c7 : wy.cell? ⟨E.b, 1046, none⟩ = some (.int .i64 r.ln) := hx.c_ln
        have c8 : wy.cell? ⟨E.b, 1047, none⟩ = some (.int .i64 r.co) := hx.c_co
        have hf := hx.frozen
        have H1 := Lib.hid (hx.set_offs (r.off + (r.srcPos - r.lcl)))
        clear hx
        simp only [List.take_succ_cons, List.take_zero, List.drop_succ_cons, List.drop_zero]
        repeat (go_big_quiet_step (fail))
        refine wpQuiet_nil ?_
        go_upto_if 58 with (fail)
        go_cut [] (fun wr => Sl E src wr l2 { x1 with offs := offOf src l2, ln := tokLn src l2, co := tokCo src l2, tok := some (offOf src l2) })
        case first =>
          have hpl := HPL.out
          have hbd := HBD.out
          rcases hpl with ⟨p1, p2, p3⟩ | ⟨p1, p2, p3⟩
          · have HP := Lib.hid (And.intro p2 p3)
            clear p2 p3
            go_wp2_with (fail)
            go_meet
            have h7 := (H1.out.set_ln r.line).set_co r.col
            rw [hbd.2.2.2.2.2.2.2] at h7
            exact Sl.begun (r := r) h7 HD.out.1 HD.out.2 hlen rfl HP.out.1 HP.out.2
          · have q3 : wrap64 (r.line - 1) = r.line - 1 := by unfold wrap64; omega
            have HP := Lib.hid (And.intro p2 p3)
            clear p2 p3
            go_wp2_with (fail)
            go_meet
            have h7 := (H1.out.set_ln (r.line - 1)).set_co r.lll
            rw [hbd.2.2.2.2.2.2.2] at h7
            exact Sl.begun (r := r) h7 HD.out.1 HD.out.2 hlen rfl HP.out.1 HP.out.2
        case rest =>
          have hS := hcut
          clear H1 HPL HBD HD q1 q2 c1 c2 c3 c4 c5 c6 c7 c8 hf
          obtain ⟨o, ho⟩ : ∃ o, oneAt C src l2 = o := ⟨_, rfl⟩
          have HO := Lib.hid ho
          have hr := HST.out.2
          have MC : Hid (some (Value.int .u64 x1.mode) = some (.int .u64 C.mode)) := Lib.hid (by rw [HM.out.1])
          have hm := (hS.c_mode).trans MC.out
          obtain ⟨t, ct⟩ := hS.c_tokPos
          have hf := hS.frozen'
          have S := Lib.hid hS
          clear hS ho hcut
          go_upto_block 2 with (fail)
          go_cut [3, 4] (fun ch tok wr => ch = .int .i32 (chOf o.l) ∧ tok = .int .i32 o.tok ∧ o.redo = false ∧
            Sl E src wr o.l (Sx.errs { x1 with offs := offOf src l2, ln := tokLn src l2, co := tokCo src l2, tok := some (offOf src l2) } o.k))
          case first => as_aux_lemma => -- switch
            go_wp2_with (first
              | (go_at_call 69; refine (ident_sl hI S.out _ _ hr ⟨by decide, by decide⟩).mono ?_; clear S hm hf ct; rintro e w' ⟨rfl, h'⟩; have hm := (h'.c_mode).trans MC.out; obtain ⟨t, ct⟩ := h'.c_tokPos; have hf := h'.frozen'; have S := Lib.hid h'; clear h')
              | (go_at_call 70; refine (scanIdentifier_sl E C.I src _ _ _ S.out gl hI hlen).mono ?_; clear S hm hf ct; rintro e w' ⟨rfl, h'⟩; have hm := (h'.c_mode).trans MC.out; obtain ⟨t, ct⟩ := h'.c_tokPos; have hf := h'.frozen'; have S := Lib.hid h'; clear h')
              | (go_at_call 71; refine (isDecimal_spec _ _).mono ?_; rintro e w' ⟨rfl, rfl⟩)
              | (go_at_call 67; refine (next_sl E src _ _ _ S.out gl hlen).mono ?_; clear S hm hf ct; rintro e w' ⟨rfl, h'⟩; have hm := (h'.c_mode).trans MC.out; obtain ⟨t, ct⟩ := h'.c_tokPos; have hf := h'.frozen'; have S := Lib.hid h'; clear h')
              | (go_at_call 72; refine (scanNumber_m E src _ _ _ (offOf src l2) _ C.mode S.out HM.out.1 rfl gl hlen).mono ?_; clear S hm hf ct; rintro e w' ⟨rfl, h'⟩; have hm := (h'.c_mode).trans MC.out; obtain ⟨t, ct⟩ := h'.c_tokPos; have hf := h'.frozen'; have S := Lib.hid h'; clear h')
              | (go_at_call 73; refine (scanString_sl E src _ _ _ _ S.out gl hlen).mono ?_; clear S hm hf ct; rintro e w' ⟨rfl, h', -⟩; have hm := (h'.c_mode).trans MC.out; obtain ⟨t, ct⟩ := h'.c_tokPos; have hf := h'.frozen'; have S := Lib.hid h'; clear h')
              | (go_at_call 74; refine (scanChar_sl E src _ _ _ S.out gl hlen).mono ?_; clear S hm hf ct; rintro e w' ⟨rfl, h'⟩; have hm := (h'.c_mode).trans MC.out; obtain ⟨t, ct⟩ := h'.c_tokPos; have hf := h'.frozen'; have S := Lib.hid h'; clear h')
              | (go_at_call 76; refine (scanRawString_sl E src _ _ _ S.out gl hlen).mono ?_; clear S hm hf ct; rintro e w' ⟨rfl, h'⟩; have hm := (h'.c_mode).trans MC.out; obtain ⟨t, ct⟩ := h'.c_tokPos; have hf := h'.frozen'; have S := Lib.hid h'; clear h'))
            · as_aux_lemma =>
              go_meet
              have ho := q_id1 HO.out (by with_reducible assumption) (by with_reducible assumption)
              clear HO
              subst ho
              exact ⟨rfl, rfl, rfl, by rw [Sx.errs_zero]; exact S.out⟩
            · as_aux_lemma =>
              go_meet
              have ho := q_id0 HO.out (by with_reducible assumption) (by with_reducible assumption)
              clear HO
              subst ho
              exact ⟨rfl, rfl, rfl, by rw [Sx.errs_zero]; exact S.out⟩
            · as_aux_lemma =>
              go_meet
              have ho := q_num1 HO.out (by with_reducible assumption) (by with_reducible assumption) (by with_reducible assumption)
              clear HO
              subst ho
              exact ⟨rfl, rfl, rfl, S.out⟩
            · as_aux_lemma =>
              go_meet
              have ho := q_num0 HO.out (by with_reducible assumption) (by with_reducible assumption) (by with_reducible assumption)
              clear HO
              subst ho
              exact ⟨rfl, rfl, rfl, by rw [Sx.errs_zero]; exact S.out⟩
            · as_aux_lemma =>
              go_meet
              have ho := q_eof HO.out (by with_reducible assumption) (by with_reducible assumption) (by with_reducible assumption)
              clear HO
              subst ho
              exact ⟨rfl, rfl, rfl, by rw [Sx.errs_zero]; exact S.out⟩
            · as_aux_lemma =>
              go_meet
              have ho := q_str1 HO.out (by with_reducible assumption) (by with_reducible assumption) (by with_reducible assumption) (by with_reducible assumption)
              clear HO
              subst ho
              exact ⟨rfl, rfl, rfl, S.out⟩
            · as_aux_lemma =>
              go_meet
              have ho := q_str0 HO.out (by with_reducible assumption) (by with_reducible assumption) (by with_reducible assumption) (by with_reducible assumption)
              clear HO
              subst ho
              exact ⟨rfl, rfl, rfl, by rw [Sx.errs_zero]; exact S.out⟩
            · as_aux_lemma =>
              go_meet
              have ho := q_chr1 HO.out (by with_reducible assumption) (by with_reducible assumption) (by with_reducible assumption) (by with_reducible assumption)
              clear HO
              subst ho
              exact ⟨rfl, rfl, rfl, S.out⟩
            · as_aux_lemma =>
              go_meet
              have ho := q_chr0 HO.out (by with_reducible assumption) (by with_reducible assumption) (by with_reducible assumption) (by with_reducible assumption)
              clear HO
              subst ho
              exact ⟨rfl, rfl, rfl, by rw [Sx.errs_zero]; exact S.out⟩
            · as_aux_lemma =>
              go_meet
              have ho := q_dot1 HO.out (by with_reducible assumption) (by with_reducible assumption) (by with_reducible assumption) (by with_reducible assumption) (by with_reducible assumption)
              clear HO
              subst ho
              exact ⟨rfl, rfl, rfl, S.out⟩
            · as_aux_lemma =>
              go_meet
              have ho := q_dot0 HO.out (by with_reducible assumption) (by with_reducible assumption) (by with_reducible assumption) (by with_reducible assumption)
              clear HO
              subst ho
              exact ⟨rfl, rfl, rfl, by rw [Sx.errs_zero]; exact S.out⟩
            · as_aux_lemma =>
              go_meet
              have ho := q_dotn HO.out (by with_reducible assumption) (by with_reducible assumption) (by with_reducible assumption) (by with_reducible assumption)
              clear HO
              subst ho
              exact ⟨rfl, rfl, rfl, by rw [Sx.errs_zero]; exact S.out⟩
            · as_aux_lemma =>
              have h47 : chOf l2.tail = 47 := by with_reducible assumption
              refine (scanComment_c E src _ _ _ _ S.out.set_none h47 gl hlen).mono ?_
              clear S hm hf ct
              rintro e w' ⟨rfl, h'⟩
              have S := Lib.hid h'
              clear h'
              go_wp2_with (fail)
              refine wp_goto ?_
              have ho := q_com47r HO.out (by with_reducible assumption) (by with_reducible assumption) (by with_reducible assumption) (by with_reducible assumption) (by with_reducible assumption) (by with_reducible assumption)
              have hoo := HO.out
              clear HO
              subst ho
              have hsm := scan_again HST.out.1 hoo hn HG.out.2
              have hx1 := HG.out.1
              show 0 = 0 ∧ ∃ m, m < n ∧ ScanJ E C src l x m _ _
              exact ⟨rfl, _, hsm.1, _, _, _, rfl, rfl, S.out, ⟨by unfold Sx.errs; simp only [hx1.1, Int.natCast_add, Int.add_assoc], hx1.2.1, hx1.2.2.1, rfl⟩, hsm.2⟩
            · as_aux_lemma =>
              have h47 : chOf l2.tail = 47 := by with_reducible assumption
              refine (scanComment_c E src _ _ _ _ S.out h47 gl hlen).mono ?_
              clear S hm hf ct
              rintro e w' ⟨rfl, h'⟩
              have S := Lib.hid h'
              clear h'
              go_wp2_with (fail)
              go_meet
              have ho := q_com47 HO.out (by with_reducible assumption) (by with_reducible assumption) (by with_reducible assumption) (by with_reducible assumption) (by with_reducible assumption) (by with_reducible assumption)
              clear HO
              subst ho
              exact ⟨rfl, rfl, rfl, S.out⟩
            · as_aux_lemma =>
              go_meet
              have ho := q_com0 HO.out (by with_reducible assumption) (by with_reducible assumption) (by with_reducible assumption) (by with_reducible assumption)
              clear HO
              subst ho
              exact ⟨by show Value.int .i32 47 = Value.int .i32 (chOf l2.tail); rw [show chOf l2.tail = 47 by with_reducible assumption], rfl, rfl, by rw [Sx.errs_zero]; exact S.out⟩
            · as_aux_lemma =>
              have h47 : chOf l2.tail = 42 := by with_reducible assumption
              refine (scanComment_c E src _ _ _ _ S.out.set_none h47 gl hlen).mono ?_
              clear S hm hf ct
              rintro e w' ⟨rfl, h'⟩
              have S := Lib.hid h'
              clear h'
              go_wp2_with (fail)
              refine wp_goto ?_
              have ho := q_com42r HO.out (by with_reducible assumption) (by with_reducible assumption) (by with_reducible assumption) (by with_reducible assumption) (by with_reducible assumption) (by with_reducible assumption)
              have hoo := HO.out
              clear HO
              subst ho
              have hsm := scan_again HST.out.1 hoo hn HG.out.2
              have hx1 := HG.out.1
              show 0 = 0 ∧ ∃ m, m < n ∧ ScanJ E C src l x m _ _
              exact ⟨rfl, _, hsm.1, _, _, _, rfl, rfl, S.out, ⟨by unfold Sx.errs; simp only [hx1.1, Int.natCast_add, Int.add_assoc], hx1.2.1, hx1.2.2.1, rfl⟩, hsm.2⟩
            · as_aux_lemma =>
              have h47 : chOf l2.tail = 42 := by with_reducible assumption
              refine (scanComment_c E src _ _ _ _ S.out h47 gl hlen).mono ?_
              clear S hm hf ct
              rintro e w' ⟨rfl, h'⟩
              have S := Lib.hid h'
              clear h'
              go_wp2_with (fail)
              go_meet
              have ho := q_com42 HO.out (by with_reducible assumption) (by with_reducible assumption) (by with_reducible assumption) (by with_reducible assumption) (by with_reducible assumption) (by with_reducible assumption)
              clear HO
              subst ho
              exact ⟨rfl, rfl, rfl, S.out⟩
            · as_aux_lemma =>
              go_meet
              have ho := q_com0 HO.out (by with_reducible assumption) (by with_reducible assumption) (by with_reducible assumption) (by with_reducible assumption)
              clear HO
              subst ho
              exact ⟨by show Value.int .i32 42 = Value.int .i32 (chOf l2.tail); rw [show chOf l2.tail = 42 by with_reducible assumption], rfl, rfl, by rw [Sx.errs_zero]; exact S.out⟩
            · as_aux_lemma =>
              go_meet
              have ho := q_comn HO.out (by with_reducible assumption) (by with_reducible assumption) (by with_reducible assumption) (by with_reducible assumption) (by with_reducible assumption)
              clear HO
              subst ho
              exact ⟨rfl, rfl, rfl, by rw [Sx.errs_zero]; exact S.out⟩
            · as_aux_lemma =>
              go_meet
              have ho := q_raw1 HO.out (by with_reducible assumption) (by with_reducible assumption) (by with_reducible assumption) (by with_reducible assumption)
              clear HO
              subst ho
              exact ⟨rfl, rfl, rfl, S.out⟩
            · as_aux_lemma =>
              go_meet
              have ho := q_raw0 HO.out (by with_reducible assumption) (by with_reducible assumption) (by with_reducible assumption) (by with_reducible assumption)
              clear HO
              subst ho
              exact ⟨rfl, rfl, rfl, by rw [Sx.errs_zero]; exact S.out⟩
            · as_aux_lemma =>
              go_meet
              have ho := q_def HO.out (by with_reducible assumption) (by with_reducible assumption) (by with_reducible assumption) (by with_reducible assumption) (by with_reducible assumption) (by with_reducible assumption) (by with_reducible assumption) (by with_reducible assumption)
              clear HO
              subst ho
              exact ⟨rfl, rfl, rfl, by rw [Sx.errs_zero]; exact S.out⟩
          case rest => as_aux_lemma => -- switch
            obtain ⟨rfl, rfl, hre, hS⟩ := hcut
            clear S hm hf ct
            have S := Lib.hid hS
            have HRE := Lib.hid hre
            clear hS hre
            go_upto_region 54 with (fail)
            refine wp_region_tail 10 (by kernel_rfl) (by kernel_rfl) ?_
            intro wx e1 e2 e3 e4
            have hx := S.out.like wx e1 e2 e3 e4
            clear S e1 e2 e3 e4
            have hf := hx.frozen'
            have c0 := hx.c_ch
            obtain ⟨a, b, t, c1, c2, c3, hb, hst⟩ := hx.end_facts
            have hwr : wrap64 (a - b) = a - b := by unfold wrap64; omega
            have S := Lib.hid (hst.set_ch (chOf o.l))
            clear hx hst
            simp only [List.take_succ_cons, List.take_zero, List.drop_succ_cons, List.drop_zero]
            repeat (go_big_quiet_step (fail))
            refine wpQuiet_nil ?_
            go_wp2_with (fail)
            simp only [Exit.jump]
            go_ret
            have hstop := scanGo_stop (C := C) (src := src) (l := l1) (by rw [HST.out.1, HO.out]; exact HRE.out)
            rw [HST.out.1, HO.out] at hstop
            have hg := HG.out.2
            rw [hstop] at hg
            have hx1 := HG.out.1
            rw [hg]
            have hX : ({ Sx.errs { x1 with offs := offOf src l2, ln := tokLn src l2, co := tokCo src l2, tok := some (offOf src l2) } o.k with ch := chOf o.l } : Sx) =
                { e := x.e + ((k0 + o.k : Nat) : Int), ch := chOf o.l, mode := x.mode, white := x.white, offs := offOf src l2, ln := tokLn src l2, co := tokCo src l2, tok := some (offOf src l2) } := by
              unfold Sx.errs
              simp only [hx1.1, hx1.2.1, hx1.2.2.1, Int.natCast_add, Int.add_assoc]
            exact ⟨rfl, cast (congrArg (St E src _ o.l) hX) S.out⟩
end Go.Proofs.YtmfihkgbfoapaaaDoor
