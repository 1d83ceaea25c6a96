/- A number as it is read: plain functions of the characters that are left. -/
import Derived.Test.YtmfihkgbfoapaaaDoorD6
namespace Go.Proofs.YtmfihkgbfoapaaaDoor
open Go Go.RowKit Go.Lib

/-- A bit of the mode. -/
def hasBit (m b : Int) : Bool := bits .and .u64 m b != 0

/-- A number as it is read: what is left, base, prefix, whether there were digits and '_', the first digit that the base does not have, the kind, whether there was a point, the errors. -/
structure Num where
  l : List Item
  b : Int
  pr : Int
  d : Bool
  u : Bool
  inv : Int
  tok : Int
  dot : Bool
  k : Nat

def Num.pre (n : Num) : Num :=
  if chOf n.l = 48 then
    if lowerOf (chOf n.l.tail) = 120 then { n with l := n.l.tail.tail, b := 16, pr := 120 }
    else if lowerOf (chOf n.l.tail) = 111 then { n with l := n.l.tail.tail, b := 8, pr := 111 }
    else if lowerOf (chOf n.l.tail) = 98 then { n with l := n.l.tail.tail, b := 2, pr := 98 }
    else { n with l := n.l.tail, b := 8, pr := 48, d := true }
  else n
def Num.dig (n : Num) : Num := { n with l := (dg n.b n.l n.inv).1, inv := (dg n.b n.l n.inv).2.1, d := n.d || (dg n.b n.l n.inv).2.2.1, u := n.u || (dg n.b n.l n.inv).2.2.2 }
def Num.point (fl : Bool) (n : Num) : Num := if chOf n.l = 46 ∧ fl = true then { n with l := n.l.tail, dot := true } else n
def Num.whole (fl : Bool) (n : Num) : Num := if n.dot = true then n else (Num.pre { n with tok := -3 }).dig.point fl
def Num.frac (n : Num) : Num := if n.dot = true then Num.dig { n with tok := -4, k := n.k + (if n.pr = 111 ∨ n.pr = 98 then 1 else 0) } else n
def Num.none (n : Num) : Num := if n.d = true then n else { n with k := n.k + 1 }
def Num.sign (n : Num) : Num := if chOf n.l = 43 ∨ chOf n.l = 45 then { n with l := n.l.tail } else n
def Num.expDig (n : Num) : Num := { n with l := (dg 10 n.l 0).1, d := n.d || (dg 10 n.l 0).2.2.1, u := n.u || (dg 10 n.l 0).2.2.2, k := n.k + (if (dg 10 n.l 0).2.2.1 = true then 0 else 1) }
def Num.exp (fl : Bool) (n : Num) : Num :=
  if (lowerOf (chOf n.l) = 101 ∨ lowerOf (chOf n.l) = 112) ∧ fl = true then
    (Num.sign { n with l := n.l.tail, tok := -4, k := n.k + (if (lowerOf (chOf n.l) = 101 ∧ n.pr ≠ 0 ∧ n.pr ≠ 48) ∨ (lowerOf (chOf n.l) = 112 ∧ n.pr ≠ 120) then 1 else 0) }).expDig
  else if n.pr = 120 ∧ n.tok = -4 then { n with k := n.k + 1 }
  else n
def Num.bad (n : Num) : Num := if n.tok = -3 ∧ n.inv ≠ 0 then { n with k := n.k + 1 } else n
def Num.sep (src : List UInt8) (st : Nat) (n : Num) : Num := if n.u = true ∧ sepBad (txt src st n.l) = true then { n with k := n.k + 1 } else n
def numRun (src : List UInt8) (st : Nat) (fl dot : Bool) (l : List Item) : Num :=
  (((((Num.whole fl ⟨l, 10, 0, false, false, 0, 0, dot, 0⟩).frac).none).exp fl).bad).sep src st

end Go.Proofs.YtmfihkgbfoapaaaDoor
