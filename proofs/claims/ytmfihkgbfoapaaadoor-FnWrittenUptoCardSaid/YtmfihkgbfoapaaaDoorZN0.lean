/- Own texts N0 E0 of this claim, cut to what the claim uses. -/
import Derived.Test.YtmfihkgbfoapaaaDoorZD5
namespace Go.Proofs.YtmfihkgbfoapaaaDoor
open Go Go.RowKit Go.Lib
def hasBit (m b : Int) : Bool := bits .and .u64 m b != 0
structure Num where
  l : List Item
  b : Int
  pr : Int
  d : Bool
  u : Bool
  inv : Int
  tok : Int
  dot : Bool
  k : Nat
def Num.pre (n : Num) : Num :=
  if chOf n.l = 48 then
    if lowerOf (chOf n.l.tail) = 120 then { n with l := n.l.tail.tail, b := 16, pr := 120 }
    else if lowerOf (chOf n.l.tail) = 111 then { n with l := n.l.tail.tail, b := 8, pr := 111 }
    else if lowerOf (chOf n.l.tail) = 98 then { n with l := n.l.tail.tail, b := 2, pr := 98 }
    else { n with l := n.l.tail, b := 8, pr := 48, d := true }
  else n
def Num.dig (n : Num) : Num := { n with l := (dg n.b n.l n.inv).1, inv := (dg n.b n.l n.inv).2.1, d := n.d || (dg n.b n.l n.inv).2.2.1, u := n.u || (dg n.b n.l n.inv).2.2.2 }
def Num.point (fl : Bool) (n : Num) : Num := if chOf n.l = 46 ∧ fl = true then { n with l := n.l.tail, dot := true } else n
def Num.whole (fl : Bool) (n : Num) : Num := if n.dot = true then n else (Num.pre { n with tok := -3 }).dig.point fl
def Num.frac (n : Num) : Num := if n.dot = true then Num.dig { n with tok := -4, k := n.k + (if n.pr = 111 ∨ n.pr = 98 then 1 else 0) } else n
def Num.none (n : Num) : Num := if n.d = true then n else { n with k := n.k + 1 }
def Num.sign (n : Num) : Num := if chOf n.l = 43 ∨ chOf n.l = 45 then { n with l := n.l.tail } else n
def Num.expDig (n : Num) : Num := { n with l := (dg 10 n.l 0).1, d := n.d || (dg 10 n.l 0).2.2.1, u := n.u || (dg 10 n.l 0).2.2.2, k := n.k + (if (dg 10 n.l 0).2.2.1 = true then 0 else 1) }
def Num.exp (fl : Bool) (n : Num) : Num :=
  if (lowerOf (chOf n.l) = 101 ∨ lowerOf (chOf n.l) = 112) ∧ fl = true then
    (Num.sign { n with l := n.l.tail, tok := -4, k := n.k + (if (lowerOf (chOf n.l) = 101 ∧ n.pr ≠ 0 ∧ n.pr ≠ 48) ∨ (lowerOf (chOf n.l) = 112 ∧ n.pr ≠ 120) then 1 else 0) }).expDig
  else if n.pr = 120 ∧ n.tok = -4 then { n with k := n.k + 1 }
  else n
def Num.bad (n : Num) : Num := if n.tok = -3 ∧ n.inv ≠ 0 then { n with k := n.k + 1 } else n
def Num.sep (src : List UInt8) (st : Nat) (n : Num) : Num := if n.u = true ∧ sepBad (txt src st n.l) = true then { n with k := n.k + 1 } else n
def numRun (src : List UInt8) (st : Nat) (fl dot : Bool) (l : List Item) : Num :=
  (((((Num.whole fl ⟨l, 10, 0, false, false, 0, 0, dot, 0⟩).frac).none).exp fl).bad).sep src st
end Go.Proofs.YtmfihkgbfoapaaaDoor
namespace Go.Proofs.YtmfihkgbfoapaaaDoor
open Go Go.RowKit Go.Lib
structure Cfg where
  mode : Int
  white : Int
  I : Idr
def isWh (white c : Int) : Bool := decide (0 ≤ c) && white.toNat.testBit c.toNat
theorem isWh_end (white : Int) : isWh white (-1) = false := rfl
structure One where
  tok : Int
  l : List Item
  k : Nat
  redo : Bool
def One.num (N : Num) : One := ⟨N.tok, N.l, N.k, false⟩
def One.self (l : List Item) : One := ⟨chOf l, l.tail, 0, false⟩
def oneId (C : Cfg) (l : List Item) : One := if hasBit C.mode 4 = true then ⟨-2, more C.I.p1 l.tail, 0, false⟩ else One.self l
def oneNum (C : Cfg) (src : List UInt8) (l : List Item) : One := if hasBit C.mode 24 = true then One.num (numRun src (offOf src l) (hasBit C.mode 16) false l) else One.self l
def oneStr (C : Cfg) (l : List Item) : One := if hasBit C.mode 64 = true then ⟨-6, (strRun 34 l.tail).1.tail, (strRun 34 l.tail).2.2, false⟩ else One.self l
def oneChr (C : Cfg) (l : List Item) : One := if hasBit C.mode 32 = true then ⟨-5, (strRun 39 l.tail).1.tail, (strRun 39 l.tail).2.2 + chrErr (strRun 39 l.tail).2.1, false⟩ else One.self l
def oneDot (C : Cfg) (src : List UInt8) (l : List Item) : One := if isDec (chOf l.tail) = true ∧ hasBit C.mode 16 = true then One.num (numRun src (offOf src l) (hasBit C.mode 16) true l.tail) else One.self l
def oneCom (C : Cfg) (l : List Item) : One :=
  if (chOf l.tail = 47 ∨ chOf l.tail = 42) ∧ hasBit C.mode 256 = true then ⟨-8, (comment l.tail).1, (comment l.tail).2, hasBit C.mode 512⟩ else One.self l
def oneRaw (C : Cfg) (l : List Item) : One := if hasBit C.mode 128 = true then ⟨-7, (rawRun l.tail).tail, rawErr (rawRun l.tail), false⟩ else One.self l
def oneAt (C : Cfg) (src : List UInt8) (l : List Item) : One :=
  if C.I.p0 (chOf l) = true then oneId C l
  else if isDec (chOf l) = true then oneNum C src l
  else if chOf l = -1 then ⟨-1, l, 0, false⟩
  else if chOf l = 34 then oneStr C l
  else if chOf l = 39 then oneChr C l
  else if chOf l = 46 then oneDot C src l
  else if chOf l = 47 then oneCom C l
  else if chOf l = 96 then oneRaw C l
  else One.self l
structure Got where
  tok : Int
  at_ : List Item
  l : List Item
  k : Nat
def scanGo (C : Cfg) (src : List UInt8) (l : List Item) : Got :=
  if _h : (oneAt C src (more (isWh C.white) l)).redo = true ∧ (oneAt C src (more (isWh C.white) l)).l.length < l.length then
    let g := scanGo C src (oneAt C src (more (isWh C.white) l)).l
    ⟨g.tok, g.at_, g.l, (oneAt C src (more (isWh C.white) l)).k + g.k⟩
  else ⟨(oneAt C src (more (isWh C.white) l)).tok, more (isWh C.white) l, (oneAt C src (more (isWh C.white) l)).l, (oneAt C src (more (isWh C.white) l)).k⟩
termination_by l.length
decreasing_by exact _h.2
theorem more_le (p : Int → Bool) (l : List Item) : (more p l).length ≤ l.length := by
  unfold more; exact (List.dropWhile_sublist _).length_le
theorem lineRun_le (l : List Item) : (lineRun l).length ≤ l.length := (List.dropWhile_sublist _).length_le
theorem comRun_le : ∀ l : List Item, (comRun l).1.length ≤ l.length
  | [] => by unfold comRun; simp
  | c :: l => by
    have := comRun_le l
    unfold comRun
    split
    · simp only [List.length_tail, List.length_cons]; omega
    · simp only [List.length_cons]; omega
theorem comment_le (l : List Item) : (comment l).1.length ≤ l.tail.length := by
  unfold comment
  split
  · exact lineRun_le _
  · exact comRun_le _
theorem One.self_redo (l : List Item) : (One.self l).redo = false := rfl
theorem oneAt_redo {C : Cfg} {src : List UInt8} {l : List Item} (h : (oneAt C src l).redo = true) : (oneAt C src l).l.length < l.length ∧ oneAt C src l = oneCom C l ∧ (chOf l.tail = 47 ∨ chOf l.tail = 42) ∧ hasBit C.mode 256 = true ∧ hasBit C.mode 512 = true ∧ chOf l = 47 := by
  have key : oneAt C src l = oneCom C l ∧ chOf l = 47 := by
    unfold oneAt oneId oneNum oneStr oneChr oneDot oneRaw One.num at h ⊢
    repeat' split at h
    all_goals first
      | (rw [One.self_redo] at h; cases h)
      | (cases h; done)
      | skip
    all_goals simp_all
  rw [key.1] at h ⊢
  unfold oneCom at h ⊢
  split at h
  · rename_i h1
    rw [if_pos h1]
    have hne : l ≠ [] := ne_nil_of_ch (by rw [key.2]; decide)
    have h2 := tail_lt hne
    have h3 := comment_le l.tail
    simp only [List.length_tail] at h2 h3 ⊢
    exact ⟨by omega, trivial, h1.1, h1.2, h, key.2⟩
  · rw [One.self_redo] at h; cases h
theorem scanGo_redo {C : Cfg} {src : List UInt8} {l : List Item} (h : (oneAt C src (more (isWh C.white) l)).redo = true) :
    scanGo C src l = ⟨(scanGo C src (oneAt C src (more (isWh C.white) l)).l).tok, (scanGo C src (oneAt C src (more (isWh C.white) l)).l).at_, (scanGo C src (oneAt C src (more (isWh C.white) l)).l).l, (oneAt C src (more (isWh C.white) l)).k + (scanGo C src (oneAt C src (more (isWh C.white) l)).l).k⟩ := by
  rw [scanGo, dif_pos ⟨h, Nat.lt_of_lt_of_le (oneAt_redo h).1 (more_le _ _)⟩]
theorem scanGo_stop {C : Cfg} {src : List UInt8} {l : List Item} (h : (oneAt C src (more (isWh C.white) l)).redo = false) :
    scanGo C src l = ⟨(oneAt C src (more (isWh C.white) l)).tok, more (isWh C.white) l, (oneAt C src (more (isWh C.white) l)).l, (oneAt C src (more (isWh C.white) l)).k⟩ := by
  rw [scanGo, dif_neg (fun h1 => by rw [h] at h1; cases h1.1)]
def behind (src : List UInt8) (l : List Item) : List Item := (items src).take ((items src).length - l.length)
theorem behind_pre {src : List UInt8} {pre l : List Item} (h : items src = pre ++ l) : behind src l = pre := by
  unfold behind; rw [h]; simp
def lineAt (src : List UInt8) (l : List Item) : Nat := (posOf (behind src l)).1
def colAt (src : List UInt8) (l : List Item) : Nat := (posOf (behind src l)).2.1 + 1
def startL (src : List UInt8) : List Item := if chOf (items src) = 65279 then (items src).tail else items src
end Go.Proofs.YtmfihkgbfoapaaaDoor
