/- The scanner's state, said of the characters that are still to come: errors counted, the frame carried on. -/
import Derived.Test.YtmfihkgbfoapaaaDoorC3
namespace Go.Proofs.YtmfihkgbfoapaaaDoor
open Go Go.RowKit Go.Lib

/-- The errors that characters are by themselves. -/
def lexErrs (l : List Item) : Nat := (l.map lexErr).sum
theorem lexErrs_append (a b : List Item) : lexErrs (a ++ b) = lexErrs a + lexErrs b := by simp [lexErrs]
theorem lexErrs_take1 (l : List Item) : lexErrs (l.take 1) = lexHead l := by cases l <;> simp [lexErrs, lexHead]

/-- The scanner where 'l' begins with the character that is looked at; x.e: the errors but for those that characters are by themselves. -/
def Sl (E : Env) (src : List UInt8) (w : World) (l : List Item) (x : Sx) : Prop :=
  ∃ pre r, Raw E w r ∧ Rd src pre l r ∧ Rx src r { x with e := x.e + (lexErrs (pre ++ l.take 1) : Nat) }
/-- Ahead of the first character. -/
def Sl0 (E : Env) (src : List UInt8) (w : World) (x : Sx) : Prop := ∃ r, Raw E w r ∧ Rd0 src r ∧ Rx src r x
/-- The token's end is set at the character that is looked at. -/
def St (E : Env) (src : List UInt8) (w : World) (l : List Item) (x : Sx) : Prop :=
  ∃ pre r, Raw E w r ∧ Rd src pre l r ∧ Rx src r { x with e := x.e + (lexErrs (pre ++ l.take 1) : Nat) } ∧ r.tokEnd = r.srcPos - r.lcl
theorem St.sl {E : Env} {src : List UInt8} {w : World} {l : List Item} {x : Sx} (h : St E src w l x) : Sl E src w l x := by
  obtain ⟨pre, r, h1, h2, h3, _⟩ := h; exact ⟨pre, r, h1, h2, h3⟩

/-- What lay in a world and is none of the scanner's own blocks, and no row of bytes, lies in the other one; below B all does. -/
def Keep (E : Env) (w w' : World) : Prop := Fr { E with w0 := w } w'

def Env.at (E : Env) (w : World) : Env := { E with w0 := w }
theorem Raw.rebase {E : Env} {w : World} {r : Regs} (h : Raw E w r) : Raw (E.at w) w r :=
  ⟨h.buf, h.blen, h.rd, h.cnt, h.cap, h.BR, h.BC, h.szs, Fr.refl (E.at w)⟩
theorem Fr.trans' {E : Env} {w w' : World} (h : Fr E w) (k : Fr (E.at w) w') : Fr E w' :=
  ⟨h.1.trans k.1, fun i o h0 h1 h2 h3 h4 => k.2 i o (h.2 i o h0 h1 h2 h3 h4) h1 h2 h3 h4⟩
theorem Raw.unbase {E : Env} {w w' : World} {r : Regs} (h : Raw (E.at w) w' r) (f : Fr E w) : Raw E w' r :=
  ⟨h.buf, h.blen, h.rd, h.cnt, h.cap, h.BR, h.BC, h.szs, f.trans' h.fr⟩
theorem Raw.glob {E : Env} {w : World} {r : Regs} (h : Raw E w r) (g : Glob E) : Glob (E.at w) := ⟨h.utf8 g, h.eof g, g.B⟩
theorem Sl.frame {E : Env} {src : List UInt8} {w : World} {l : List Item} {x : Sx} (h : Sl E src w l x) : Fr E w := by obtain ⟨_, _, h, _⟩ := h; exact h.fr
theorem Sl.rebase {E : Env} {src : List UInt8} {w : World} {l : List Item} {x : Sx} (h : Sl E src w l x) : Sl (E.at w) src w l x := by
  obtain ⟨pre, r, h, h1, h2⟩ := h; exact ⟨pre, r, h.rebase, h1, h2⟩
theorem Sl.unbase {E : Env} {src : List UInt8} {w w' : World} {l : List Item} {x : Sx} (h : Sl (E.at w) src w' l x) (f : Fr E w) : Sl E src w' l x := by
  obtain ⟨pre, r, h, h1, h2⟩ := h; exact ⟨pre, r, h.unbase f, h1, h2⟩
theorem St.unbase {E : Env} {src : List UInt8} {w w' : World} {l : List Item} {x : Sx} (h : St (E.at w) src w' l x) (f : Fr E w) : St E src w' l x := by
  obtain ⟨pre, r, h, h1, h2⟩ := h; exact ⟨pre, r, h.unbase f, h1, h2⟩
theorem Sl.glob {E : Env} {src : List UInt8} {w : World} {l : List Item} {x : Sx} (h : Sl E src w l x) (g : Glob E) : Glob (E.at w) := by
  obtain ⟨pre, r, h, h1, h2⟩ := h; exact h.glob g
theorem Sl.keep {E : Env} {src : List UInt8} {w w' : World} {l : List Item} {x : Sx} (h : Sl (E.at w) src w' l x) : Keep E w w' := h.frame

/-- Behind what makes memory and leaves the old one alone. -/
theorem Sl.old {E : Env} {src : List UInt8} {w w1 : World} {l : List Item} {x : Sx} (h : Sl E src w l x) (hb : Below w.heap.size w w1) : Sl E src w1 l x := by
  obtain ⟨pre, r, h, h1, h2⟩ := h; exact ⟨pre, r, h.old hb, h1, h2⟩
theorem Sl.like {E : Env} {src : List UInt8} {w : World} {l : List Item} {x : Sx} (h : Sl E src w l x) (w1 : World) (e1 : w1.heap = w.heap) (e2 : w1.tape = w.tape) (e3 : w1.os = w.os) (e4 : w1.output = w.output) : Sl E src w1 l x := by
  obtain ⟨pre, r, h, h1, h2⟩ := h; exact ⟨pre, r, h.like w1 e1 e2 e3 e4, h1, h2⟩
theorem Sl.drew {E : Env} {src : List UInt8} {w : World} {l : List Item} {x : Sx} (h : Sl E src w l x) : Sl E src w.drew l x := h.like _ rfl rfl rfl rfl
theorem Sl.drewN {E : Env} {src : List UInt8} {w : World} {l : List Item} {x : Sx} (h : Sl E src w l x) (n : Nat) : Sl E src (w.drewN n) l x := h.like _ rfl rfl rfl rfl

def Fits (src : List UInt8) : Prop := src.length ≤ 70368744177664

/-- next. -/
theorem next_sl (E : Env) (src : List UInt8) (w : World) (l : List Item) (x : Sx) (h : Sl E src w l x) (gl : Glob E) (hlen : Fits src) :
    Calls Tryd.prog 67 #[.pointer (some ⟨E.b, 0, none⟩)] w fun e w' => e = .returned (.int .i32 (chOf l.tail)) ∧ Sl E src w' l.tail x := by
  obtain ⟨pre, r, hR, hd, hx⟩ := h
  refine (next_spec E src w pre l _ ⟨r, hR, hd, hx⟩ gl hlen).mono ?_
  rintro e w' ⟨he, r', hR', hd', hx'⟩
  refine ⟨he, _, r', hR', hd', ?_⟩
  rw [lexErrs_append (pre ++ l.take 1), lexErrs_take1 l.tail]
  simpa only [Int.natCast_add, Int.add_assoc] using hx'

end Go.Proofs.YtmfihkgbfoapaaaDoor
