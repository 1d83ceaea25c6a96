/- Own texts D0 D1 of this claim, cut to what the claim uses. -/
import Derived.Test.YtmfihkgbfoapaaaDoorZC3
import Derived.Laws.BitsLemmas
namespace Go.Proofs.YtmfihkgbfoapaaaDoor
open Go Go.RowKit Go.Lib
def lexErrs (l : List Item) : Nat := (l.map lexErr).sum
theorem lexErrs_append (a b : List Item) : lexErrs (a ++ b) = lexErrs a + lexErrs b := by simp [lexErrs]
theorem lexErrs_take1 (l : List Item) : lexErrs (l.take 1) = lexHead l := by cases l <;> simp [lexErrs, lexHead]
def Sl (E : Env) (src : List UInt8) (w : World) (l : List Item) (x : Sx) : Prop :=
  ∃ pre r, Raw E w r ∧ Rd src pre l r ∧ Rx src r { x with e := x.e + (lexErrs (pre ++ l.take 1) : Nat) }
def Sl0 (E : Env) (src : List UInt8) (w : World) (x : Sx) : Prop := ∃ r, Raw E w r ∧ Rd0 src r ∧ Rx src r x
def St (E : Env) (src : List UInt8) (w : World) (l : List Item) (x : Sx) : Prop :=
  ∃ pre r, Raw E w r ∧ Rd src pre l r ∧ Rx src r { x with e := x.e + (lexErrs (pre ++ l.take 1) : Nat) } ∧ r.tokEnd = r.srcPos - r.lcl
theorem St.sl {E : Env} {src : List UInt8} {w : World} {l : List Item} {x : Sx} (h : St E src w l x) : Sl E src w l x := by
  obtain ⟨pre, r, h1, h2, h3, _⟩ := h; exact ⟨pre, r, h1, h2, h3⟩
def Keep (E : Env) (w w' : World) : Prop := Fr { E with w0 := w } w'
def Env.at (E : Env) (w : World) : Env := { E with w0 := w }
theorem Raw.rebase {E : Env} {w : World} {r : Regs} (h : Raw E w r) : Raw (E.at w) w r :=
  ⟨h.buf, h.blen, h.rd, h.cnt, h.cap, h.BR, h.BC, h.szs, Fr.refl (E.at w)⟩
theorem Fr.trans' {E : Env} {w w' : World} (h : Fr E w) (k : Fr (E.at w) w') : Fr E w' :=
  ⟨h.1.trans k.1, fun i o h0 h1 h2 h3 h4 => k.2 i o (h.2 i o h0 h1 h2 h3 h4) h1 h2 h3 h4⟩
theorem Raw.unbase {E : Env} {w w' : World} {r : Regs} (h : Raw (E.at w) w' r) (f : Fr E w) : Raw E w' r :=
  ⟨h.buf, h.blen, h.rd, h.cnt, h.cap, h.BR, h.BC, h.szs, f.trans' h.fr⟩
theorem Raw.glob {E : Env} {w : World} {r : Regs} (h : Raw E w r) (g : Glob E) : Glob (E.at w) := ⟨h.utf8 g, h.eof g, g.B⟩
theorem Sl.frame {E : Env} {src : List UInt8} {w : World} {l : List Item} {x : Sx} (h : Sl E src w l x) : Fr E w := by obtain ⟨_, _, h, _⟩ := h; exact h.fr
theorem Sl.rebase {E : Env} {src : List UInt8} {w : World} {l : List Item} {x : Sx} (h : Sl E src w l x) : Sl (E.at w) src w l x := by
  obtain ⟨pre, r, h, h1, h2⟩ := h; exact ⟨pre, r, h.rebase, h1, h2⟩
theorem Sl.unbase {E : Env} {src : List UInt8} {w w' : World} {l : List Item} {x : Sx} (h : Sl (E.at w) src w' l x) (f : Fr E w) : Sl E src w' l x := by
  obtain ⟨pre, r, h, h1, h2⟩ := h; exact ⟨pre, r, h.unbase f, h1, h2⟩
theorem St.unbase {E : Env} {src : List UInt8} {w w' : World} {l : List Item} {x : Sx} (h : St (E.at w) src w' l x) (f : Fr E w) : St E src w' l x := by
  obtain ⟨pre, r, h, h1, h2⟩ := h; exact ⟨pre, r, h.unbase f, h1, h2⟩
theorem Sl.glob {E : Env} {src : List UInt8} {w : World} {l : List Item} {x : Sx} (h : Sl E src w l x) (g : Glob E) : Glob (E.at w) := by
  obtain ⟨pre, r, h, h1, h2⟩ := h; exact h.glob g
theorem Sl.keep {E : Env} {src : List UInt8} {w w' : World} {l : List Item} {x : Sx} (h : Sl (E.at w) src w' l x) : Keep E w w' := h.frame
theorem Sl.old {E : Env} {src : List UInt8} {w w1 : World} {l : List Item} {x : Sx} (h : Sl E src w l x) (hb : Below w.heap.size w w1) : Sl E src w1 l x := by
  obtain ⟨pre, r, h, h1, h2⟩ := h; exact ⟨pre, r, h.old hb, h1, h2⟩
theorem Sl.like {E : Env} {src : List UInt8} {w : World} {l : List Item} {x : Sx} (h : Sl E src w l x) (w1 : World) (e1 : w1.heap = w.heap) (e2 : w1.tape = w.tape) (e3 : w1.os = w.os) (e4 : w1.output = w.output) : Sl E src w1 l x := by
  obtain ⟨pre, r, h, h1, h2⟩ := h; exact ⟨pre, r, h.like w1 e1 e2 e3 e4, h1, h2⟩
theorem Sl.drew {E : Env} {src : List UInt8} {w : World} {l : List Item} {x : Sx} (h : Sl E src w l x) : Sl E src w.drew l x := h.like _ rfl rfl rfl rfl
theorem Sl.drewN {E : Env} {src : List UInt8} {w : World} {l : List Item} {x : Sx} (h : Sl E src w l x) (n : Nat) : Sl E src (w.drewN n) l x := h.like _ rfl rfl rfl rfl
def Fits (src : List UInt8) : Prop := src.length ≤ 70368744177664
theorem next_sl (E : Env) (src : List UInt8) (w : World) (l : List Item) (x : Sx) (h : Sl E src w l x) (gl : Glob E) (hlen : Fits src) :
    Calls Tryd.prog 67 #[.pointer (some ⟨E.b, 0, none⟩)] w fun e w' => e = .returned (.int .i32 (chOf l.tail)) ∧ Sl E src w' l.tail x := by
  obtain ⟨pre, r, hR, hd, hx⟩ := h
  refine (next_spec E src w pre l _ ⟨r, hR, hd, hx⟩ gl hlen).mono ?_
  rintro e w' ⟨he, r', hR', hd', hx'⟩
  refine ⟨he, _, r', hR', hd', ?_⟩
  rw [lexErrs_append (pre ++ l.take 1), lexErrs_take1 l.tail]
  simpa only [Int.natCast_add, Int.add_assoc] using hx'
end Go.Proofs.YtmfihkgbfoapaaaDoor
namespace Go.Proofs.YtmfihkgbfoapaaaDoor
open Go Go.RowKit Go.Lib Go.BigFrame
def isDec (c : Int) : Bool := decide (48 ≤ c) && decide (c ≤ 57)
def lowerOf (c : Int) : Int := bits .or .i32 32 c
def isHexa (c : Int) : Bool := isDec c || (decide (97 ≤ lowerOf c) && decide (lowerOf c ≤ 102))
def digVal (c : Int) : Int := if isDec c = true then c - 48 else if 97 ≤ lowerOf c ∧ lowerOf c ≤ 102 then lowerOf c - 87 else 16
set_option maxHeartbeats 400000 in
theorem isDecimal_spec (w : World) (c : Int) : Calls Tryd.prog 71 #[.int .i32 c] w fun e w' => e = .returned (.bool (isDec c)) ∧ w' = w := by
  go_enter Tryd.func71, Tryd.ntmps71
  go_wp2_with (fail)
  all_goals go_ret
  · exact ⟨by unfold isDec; simp [*], rfl⟩
  · exact ⟨by unfold isDec; rw [decide_eq_false (by omega)]; rfl, rfl⟩
set_option maxHeartbeats 400000 in
theorem lower_spec (w : World) (c : Int) : Calls Tryd.prog 93 #[.int .i32 c] w fun e w' => e = .returned (.int .i32 (lowerOf c)) ∧ w' = w := by
  go_enter Tryd.func93, Tryd.ntmps93
  go_wp2_with (fail)
  all_goals go_ret
  exact ⟨rfl, rfl⟩
set_option maxHeartbeats 400000 in
theorem isHex_spec (w : World) (c : Int) : Calls Tryd.prog 108 #[.int .i32 c] w fun e w' => e = .returned (.bool (isHexa c)) ∧ w' = w := by
  go_enter Tryd.func108, Tryd.ntmps108
  go_wp2_with (go_at_call 93; refine (lower_spec _ _).mono ?_; rintro e w' ⟨rfl, rfl⟩)
  all_goals go_ret
  all_goals refine ⟨?_, rfl⟩
  all_goals refine congrArg (fun b => Ending.returned (.bool b)) ?_
  all_goals unfold isHexa isDec
  all_goals apply Bool.eq_iff_iff.2
  all_goals simp only [Bool.or_eq_true, Bool.and_eq_true, decide_eq_true_eq, true_iff, Bool.false_eq_true, false_iff]
  all_goals omega
set_option maxHeartbeats 400000 in
theorem digitVal_spec (w : World) (c : Int) (hc : -1 ≤ c ∧ c ≤ 1114111) : Calls Tryd.prog 113 #[.int .i32 c] w fun e w' => e = .returned (.int .i64 (digVal c)) ∧ w' = w := by
  go_enter Tryd.func113, Tryd.ntmps113
  go_wp2_with (go_at_call 93; refine (lower_spec _ _).mono ?_; rintro e w' ⟨rfl, rfl⟩)
  all_goals go_ret
  all_goals refine ⟨?_, rfl⟩
  all_goals refine congrArg (fun b => Ending.returned (.int .i64 b)) ?_
  all_goals unfold digVal isDec
  all_goals simp only [Bool.and_eq_true, decide_eq_true_eq]
  all_goals repeat' split
  all_goals omega
def litOf (p : Int) : ByteArray := if p = 120 then ⟨#[104, 101, 120, 97, 100, 101, 99, 105, 109, 97, 108, 32, 108, 105, 116, 101, 114, 97, 108]⟩
  else if p = 111 ∨ p = 48 then ⟨#[111, 99, 116, 97, 108, 32, 108, 105, 116, 101, 114, 97, 108]⟩
  else if p = 98 then ⟨#[98, 105, 110, 97, 114, 121, 32, 108, 105, 116, 101, 114, 97, 108]⟩
  else ⟨#[100, 101, 99, 105, 109, 97, 108, 32, 108, 105, 116, 101, 114, 97, 108]⟩
set_option maxHeartbeats 400000 in
theorem litname_spec (w : World) (c : Int) : Calls Tryd.prog 95 #[.int .i32 c] w fun e w' => e = .returned (.string (litOf c)) ∧ w' = w := by
  go_enter Tryd.func95, Tryd.ntmps95
  go_wp2_with (fail)
  all_goals go_ret
  all_goals refine ⟨?_, rfl⟩
  all_goals refine congrArg (fun b => Ending.returned (.string b)) ?_
  all_goals unfold litOf
  all_goals simp only [beq_iff_eq, beq_eq_false_iff_ne, ne_eq] at *
  all_goals first | (rw [if_pos (by omega)]; done) | (rw [if_neg (by omega), if_pos (by omega)]; done) | (rw [if_neg (by omega), if_neg (by omega), if_pos (by omega)]; done) | (rw [if_neg (by omega), if_neg (by omega), if_neg (by omega)]; done)
end Go.Proofs.YtmfihkgbfoapaaaDoor
