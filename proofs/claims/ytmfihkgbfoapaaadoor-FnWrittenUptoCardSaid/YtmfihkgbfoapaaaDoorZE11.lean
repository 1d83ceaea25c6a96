/- Own texts E11 E12 of this claim, cut to what the claim uses. -/
import Derived.Test.YtmfihkgbfoapaaaDoorZE10
import Derived.Test.YtmfihkgbfoapaaaDoorZK2
import Derived.Lib.SmallJoins
import Derived.OwnWalk
namespace Go.Proofs.YtmfihkgbfoapaaaDoor
open Go Go.RowKit Go.Lib Go.BigFrame Go.Proofs.YtmfihkgbfoapaaaDoorW.PrintWords
theorem Vars.mono {B B' : Nat} {w : World} (h : Vars B w) (hB : B ≤ B') : Vars B' w :=
  ⟨h.utf8, h.eof, Nat.le_trans h.ge hB, ⟨fun w' hb => h.uni.props w' (hb.mono hB), fun w' hb => h.uni.letter w' (hb.mono hB), fun w' hb => h.uni.digit w' (hb.mono hB)⟩⟩
end Go.Proofs.YtmfihkgbfoapaaaDoor
namespace Go.Proofs.YtmfihkgbfoapaaaDoor
open Go Go.RowKit Go.Lib Go.BigFrame Go.Proofs.YtmfihkgbfoapaaaDoorW.PrintWords
end Go.Proofs.YtmfihkgbfoapaaaDoor
namespace Go.Proofs.YtmfihkgbfoapaaaDoor
open Go Go.RowKit Go.Lib Go.BigFrame Go.Proofs.YtmfihkgbfoapaaaDoorW.PrintWords
theorem toks_len (C : Cfg) (src : List UInt8) (l : List Item) : 0 < (toks C src l).length ∧ (toks C src l).length ≤ l.length + 1 := by
  induction hn : l.length using Nat.strongRecOn generalizing l with
  | _ n ih =>
    subst hn
    rcases scanGo_lt C src l with h | h
    · rw [toks_end h.1]; simp
    · rw [toks_step h.1 h.2]
      have := ih _ h.2 _ rfl
      simp only [List.length_cons]
      omega
theorem SrcAt.up {B B' : Nat} {w w1 : World} {a : Option Addr} {k : Nat} {src : List UInt8} (h : SrcAt B w a k src) (hb : Below B w w1) (hB : B ≤ B') : SrcAt B' w1 a k src := by
  obtain ⟨h1, h2, h3⟩ := h.of (w' := w1) fun k hk => hb.block k hk
  refine ⟨h1, h2, fun h0 => ?_⟩
  obtain ⟨g, o, ha, hg, hc⟩ := h3 h0
  exact ⟨g, o, ha, by omega, hc⟩
theorem SzAt.nil (B : Nat) (w : World) : SzAt B w none [] := ⟨by decide, fun h => absurd h (by decide)⟩
end Go.Proofs.YtmfihkgbfoapaaaDoor
