/- laws.FnJoined walked (function 7). -/
import Derived.Test.YtmfihkgbfoapaaaDoorZQ2
import Derived.Test.YtmfihkgbfoapaaaDoorZM5
import Derived.Test.YtmfihkgbfoapaaaDoorZW2
import Derived.Test.YtmfihkgbfoapaaaDoorZQ1
namespace Go.Proofs.YtmfihkgbfoapaaaDoor
set_option linter.unusedVariables false
set_option linter.unusedSimpArgs false
open Go Go.RowKit Go.Lib Go.BigFrame Go.Proofs.YtmfihkgbfoapaaaDoorW.PrintWords Go.Proofs.YtmfihkgbfoapaaaDoorW.PrintLast

theorem dfl_fit : FitOk dfl := ⟨dfl_ok, fun _ => rfl, by decide, by decide⟩
theorem dfl_clean : IdClean dfl.cfg.I := by
  show IdClean (if dfl.d = false ∧ dfl.cu = true then idCustom dfl.f1 dfl.f2 else idGo)
  rw [if_neg (by intro h; cases h.1)]
  exact idGo_clean
theorem dfl_wh : 0 ≤ spWhite dfl ∧ spWhite dfl ≤ 8589934590 := ⟨by decide, by decide⟩
theorem dfl_p1 : dfl.cfg.I.p1 10 = false := by kernel_rfl
theorem dfl_nl : isWh dfl.cfg.white 10 = true := by kernel_rfl
theorem spec_dfl (w0 w : World) (hb : Below w0.heap.size w0 w) (a : Option Addr) (k L : Nat) (src : List UInt8) (hL : src.length = L) (hs : SrcAt w0.heap.size w0 a k src) (hl10 : src.length ≤ 10000000000) (hv : Vars w0.heap.size w0) :
    Calls Tryd.prog 22 #[.slice a L k, .agg #[.bool true, .int .i64 0, .int .u64 0, .bool false, .string ⟨#[]⟩, .string ⟨#[]⟩]] w (SpecTok w src dfl.cfg) := by
  subst hL
  exact spec_tokens w a k src (hs.up hb hb.size) hl10 dfl dfl_fit dfl_wh dfl_clean ((hv.move hb).mono hb.size)
theorem toks_dfl (w0 w : World) (hb : Below w0.heap.size w0 w) (a : Option Addr) (k L : Nat) (src : List UInt8) (hL : src.length = L) (hs : SrcAt w0.heap.size w0 a k src) (hl10 : src.length ≤ 10000000000) (hv : Vars w0.heap.size w0) :
    Calls Tryd.prog 24 #[.slice a L k, .slice none 0 0, .agg #[.bool true, .int .i64 0, .int .u64 0, .bool false, .string ⟨#[]⟩, .string ⟨#[]⟩]] w (TokPost w dfl.cfg src) := tokens_atm w a k L src hL dfl dfl_ok (hs.up hb hb.size) hl10 ((hv.move hb).mono hb.size)
theorem set_at {w : World} {q : Nat} (h : w.heap[q]? = some (.cells #[.bool true, .int .i64 0, .int .u64 0, .bool false, .string ⟨#[]⟩, .string ⟨#[]⟩] 25 (0, 0))) :
    w.cell? ⟨q, 0, none⟩ = some (.bool true) ∧ w.cell? ⟨q, 1, none⟩ = some (.int .i64 0) ∧ w.cell? ⟨q, 2, none⟩ = some (.int .u64 0) ∧ w.cell? ⟨q, 3, none⟩ = some (.bool false) ∧ w.cell? ⟨q, 4, none⟩ = some (.string ⟨#[]⟩) ∧ w.cell? ⟨q, 5, none⟩ = some (.string ⟨#[]⟩) := set_loads h
theorem join_ints (a b : List UInt8) : ints (joined a b) = ints a ++ ints [10] ++ ints b := by unfold joined; rw [← ints_append, ← ints_append]; simp
/-- The row of the joined text's tokens. -/
def JRow (NJ : Nat) (LJ : List K.S37) (w : World) (v : Value) : Prop := ∃ A c, v = .slice A NJ c ∧ NJ ≤ c ∧ Kd.C K.k37 w A NJ LJ
theorem JRow.keep {NJ : Nat} {LJ : List K.S37} {w w' : World} {v : Value} (h : JRow NJ LJ w v) (hb : Below w.heap.size w w') : JRow NJ LJ w' v := by
  obtain ⟨A, c, h1, h2, h3⟩ := h
  exact ⟨A, c, h1, h2, Kd.C_below h3 hb⟩
theorem jt_keep {NJ : Nat} {LJ : List K.S37} {w w' : World} {u : Value} (h : ∃ v, u = .tuple #[v, .int .i64 0, .int .i64 0] ∧ JRow NJ LJ w v) (hb : Below w.heap.size w w') : ∃ v, u = .tuple #[v, .int .i64 0, .int .i64 0] ∧ JRow NJ LJ w' v := by
  obtain ⟨v, h1, h2⟩ := h
  exact ⟨v, h1, h2.keep hb⟩
theorem nl_C {w : World} {g : Nat} (h : w.heap[g]? = some (.cells #[.int .u8 10] 5 (0, 0))) : Kd.C (Kd.int .u8) w (some ⟨g, 0, none⟩) 1 (ints [10]) := by
  refine Kd.C_of_reads (readsInt_of.1 ⟨rfl, by decide, fun _ => ⟨_, rfl, fun j hj => ?_⟩⟩)
  obtain rfl : j = 0 := by omega
  exact (cell_of_heap h 0).trans rfl
def NlAt (n1 : Nat) (w : World) (L : Nat → Bool) (u24 u26 u27 : Value) : Prop := ∃ g, u27 = .slice (some ⟨g, 0, none⟩) 1 1 ∧ n1 ≤ g ∧ w.heap[g]? = some (.cells #[.int .u8 10] 5 (0, 0)) ∧ (L 0 = true → L 2 = false → u24.ownBlock ≠ some g) ∧ (L 2 = true → u26.ownBlock ≠ some g)
theorem nl_keep {n1 : Nat} {w w' : World} {L : Nat → Bool} {u24 u26 u27 : Value} (h : NlAt n1 w L u24 u26 u27) (hb : Below w.heap.size w w') : NlAt n1 w' L u24 u26 u27 := by
  obtain ⟨g, h1, h2, h3, h4, h5⟩ := h
  exact ⟨g, h1, h2, (hb.block g (lt_of_heap h3)).trans h3, h4, h5⟩
theorem nl_first {n1 : Nat} {w w' : World} {L : Nat → Bool} {u24 u26 u27 : Value} (h : NlAt n1 w L u24 u26 u27) (hb : Below w.heap.size w w') : NlAt n1 w' (upd L 0) (.slice (some ⟨w.heap.size, 0, none⟩) 0 0) u26 u27 := by
  obtain ⟨g, h1, h2, h3, h4, h5⟩ := h
  have := lt_of_heap h3
  exact ⟨g, h1, h2, (hb.block g (lt_of_heap h3)).trans h3, (fun _ _ e => by injection e with e; have : w.heap.size = g := e; omega), h5⟩
theorem nl_app {n1 : Nat} {w w' : World} {L : Nat → Bool} {u24 u26 u27 v1 : Value} (h : NlAt n1 w L u24 u26 u27) (h0 : L 0 = true) (h2' : L 2 = false) (hg : w.grownBy w' u24.ownBlock) (hat : v1.ownBlock = u24.ownBlock ∨ ∃ b, v1.ownBlock = some b ∧ w.heap.size ≤ b) : NlAt n1 w' (upd L 2) u24 v1 u27 := by
  obtain ⟨g, h1, h2, h3, h4, h5⟩ := h
  have hne := h4 h0 h2'
  have hlt := lt_of_heap h3
  refine ⟨g, h1, h2, (hg.block g hlt (fun e => hne e.symm)).trans h3, (fun _ h => absurd (show (true : Bool) = false from h) (by decide)), fun _ e => ?_⟩
  rcases hat with e1 | ⟨b, e1, hbb⟩
  · exact hne (e1.symm.trans e)
  · rw [e1] at e; injection e with e; omega
/-- Where a token may lie. -/
def Near (t : K.S37) : Prop := (0 ≤ t.f2.f0 ∧ t.f2.f0 ≤ 10000000000) ∧ (0 ≤ t.f2.f1 ∧ t.f2.f1 ≤ 10000000001) ∧ (0 ≤ t.f3.f0 ∧ t.f3.f0 ≤ 10000000000) ∧ (0 ≤ t.f3.f1 ∧ t.f3.f1 ≤ 10000000001)
theorem lineAt_le {src : List UInt8} (h : src.length ≤ 10000000000) (l : List Item) : lineAt src l ≤ 10000000001 := by
  have h1 := (posOf_le (behind src l)).1
  have h2 := items_le src
  have h3 : (behind src l).length ≤ (items src).length := by unfold behind; exact List.length_take_le' _ _
  unfold lineAt; omega
theorem near_tok {src : List UInt8} (h : src.length ≤ 10000000000) (g : Got) : Near (tokOf src g) := by
  have h1 : offOf src g.at_ ≤ src.length := Nat.sub_le _ _
  have h2 : offOf src g.l ≤ src.length := Nat.sub_le _ _
  have h3 := lineAt_le h g.at_
  have h4 := lineAt_le h g.l
  have h5 : tokLn src g.at_ ≤ 10000000001 := by unfold tokLn; split <;> omega
  refine ⟨⟨?_, ?_⟩, ⟨?_, ?_⟩, ⟨?_, ?_⟩, ?_, ?_⟩ <;> (unfold tokOf; simp only; omega)
theorem near_rd {C : Cfg} {src : List UInt8} (h : src.length ≤ 10000000000) {l : List Item} {LB : List K.S37} (hl : (toks C src l).map (tokOf src) = LB) (i : Nat) (hi : i < LB.length) : Near (K.rd_T37 LB (i : Int)) := by
  subst hl
  rw [List.length_map] at hi
  rw [rd_map _ _ _ hi]
  exact near_tok h _
theorem gs234 {w : World} {q : Nat} {t : TypeId} {a0 a1 a2 a3 a4 a5 a6 a7 : Value} (h : w.heap[q]? = some (.cells #[a0, a1, a2, a3, a4, a5, a6, a7] t (0, 0))) (b2 b3 b4 : Value) {W : World}
    (hW : ((w.setCell ⟨q, 2, none⟩ b2).setCell ⟨q, 3, none⟩ b3).setCell ⟨q, 4, none⟩ b4 = W) : W.heap[q]? = some (.cells #[a0, a1, b2, b3, b4, a5, a6, a7] t (0, 0)) ∧ (∀ k, ¬ k = q → W.heap[k]? = w.heap[k]?) ∧ Below q w W := by
  subst hW
  have h2 := Go.Lib.heap_setCell_same (i := 2) h b2
  have h3 := Go.Lib.heap_setCell_same (i := 3) h2 b3
  have h4 := Go.Lib.heap_setCell_same (i := 4) h3 b4
  refine ⟨h4, fun k hk => ?_, ?_⟩
  · iterate 3 rw [Below.heap_setCell _ _ _ _ (by exact hk)]
  · exact (((Below.refl q w).setCell (p := ⟨q, 2, none⟩) (Nat.le_refl q) _).setCell (p := ⟨q, 3, none⟩) (Nat.le_refl q) _).setCell (p := ⟨q, 4, none⟩) (Nat.le_refl q) _
theorem gs567 {w : World} {q : Nat} {t : TypeId} {a0 a1 a2 a3 a4 a5 a6 a7 : Value} (h : w.heap[q]? = some (.cells #[a0, a1, a2, a3, a4, a5, a6, a7] t (0, 0))) (b2 b3 b4 : Value) {W : World}
    (hW : ((w.setCell ⟨q, 5, none⟩ b2).setCell ⟨q, 6, none⟩ b3).setCell ⟨q, 7, none⟩ b4 = W) : W.heap[q]? = some (.cells #[a0, a1, a2, a3, a4, b2, b3, b4] t (0, 0)) ∧ (∀ k, ¬ k = q → W.heap[k]? = w.heap[k]?) ∧ Below q w W := by
  subst hW
  have h2 := Go.Lib.heap_setCell_same (i := 5) h b2
  have h3 := Go.Lib.heap_setCell_same (i := 6) h2 b3
  have h4 := Go.Lib.heap_setCell_same (i := 7) h3 b4
  refine ⟨h4, fun k hk => ?_, ?_⟩
  · iterate 3 rw [Below.heap_setCell _ _ _ _ (by exact hk)]
  · exact (((Below.refl q w).setCell (p := ⟨q, 5, none⟩) (Nat.le_refl q) _).setCell (p := ⟨q, 6, none⟩) (Nat.le_refl q) _).setCell (p := ⟨q, 7, none⟩) (Nat.le_refl q) _
theorem other8 {w : World} {q : Nat} (b0 b1 b2 b3 b4 b5 b6 b7 : Value) {W : World}
    (hW : (((((((w.setCell ⟨q, 0, none⟩ b0).setCell ⟨q, 1, none⟩ b1).setCell ⟨q, 2, none⟩ b2).setCell ⟨q, 3, none⟩ b3).setCell ⟨q, 4, none⟩ b4).setCell ⟨q, 5, none⟩ b5).setCell ⟨q, 6, none⟩ b6).setCell ⟨q, 7, none⟩ b7 = W) : ∀ k, ¬ k = q → W.heap[k]? = w.heap[k]? := by
  subst hW
  intro k hk
  iterate 8 rw [Below.heap_setCell _ _ _ _ (by exact hk)]
attribute [local go_sem high] K.eqA37
/-- What the region holds while it runs, by what is done. -/
structure JoinSt (q : Nat) (w5 : World) (a : Option Addr) (k L : Nat) (src : List UInt8) (a2 : Option Addr) (k2 L2 : Nat) (src2 : List UInt8) (NJ : Nat) (LJ : List K.S37) (D : Nat → Bool) (u16 u17 u18 u65 u66 u67 u68 u69 u70 u71 u72 u73 u74 u75 u76 u77 : Value) (w : World) : Prop where
  below : Below w5.heap.size w5 w
  o42 : D 4 = true → D 2 = true
  o43 : D 4 = true → D 3 = true
  o64 : D 6 = true → D 4 = true
  l8 : D 8 = true → D 6 = true
  l9 : D 9 = true → D 6 = true
  l10 : D 10 = true → D 6 = true
  l13 : D 13 = true → D 6 = true
  f67 : D 1 = true → u67 = .slice a L k
  f71 : D 5 = true → u71 = .slice a2 L2 k2
  f73 : D 7 = true → u73 = .agg #[.bool true, .int .i64 0, .int .u64 0, .bool false, .string ⟨#[]⟩, .string ⟨#[]⟩]
  row0 : D 0 = true → D 2 = false → Kd.R (Kd.int .u8) 5 w w5.heap.size (fun _ => True) u66 []
  row2 : D 2 = true → D 4 = false → Kd.R (Kd.int .u8) 5 w w5.heap.size (fun _ => True) u68 (ints src)
  row4 : D 4 = true → D 6 = false → Kd.R (Kd.int .u8) 5 w w5.heap.size (fun _ => True) u70 (ints src ++ ints [10])
  row6 : D 6 = true → Kd.R (Kd.int .u8) 5 w w5.heap.size (fun _ => True) u72 (ints src ++ ints [10] ++ ints src2)
  nl : D 3 = true → D 4 = false → NlAt w5.heap.size w D u66 u68 u69
  f74 : D 8 = true → ∃ v, u74 = .tuple #[v, .int .i64 0, .int .i64 0] ∧ JRow NJ LJ w v
  f65 : D 9 = true → ∃ v, u65 = .tuple #[v, .int .i64 0, .int .i64 0] ∧ JRow NJ LJ w v
  f75 : D 10 = true → JRow NJ LJ w u75
  f76 : D 11 = true → u76 = .int .i64 0
  g16 : D 13 = true → JRow NJ LJ w u16
  g17 : D 14 = true → u17 = .int .i64 0
def JoinInv (q : Nat) (w5 : World) (a : Option Addr) (k L : Nat) (src : List UInt8) (a2 : Option Addr) (k2 L2 : Nat) (src2 : List UInt8) (NJ : Nat) (LJ : List K.S37) (A : Option Addr) (c NA : Nat) (A2 : Option Addr) (cc2 NB : Nat) (A3 : Option Addr) (ca3 : Nat) (EA : Int) (A4 : Option Addr) (ca4 : Nat) (EB : Int) (D : Nat → Bool) (act : Act) (w : World) : Prop :=
  ∃ u16 u17 u18 u65 u66 u67 u68 u69 u70 u71 u72 u73 u74 u75 u76 u77 : Value, act = { tmps := #[.slice a L k, .slice a2 L2 k2, undef, undef, .bool false, .pointer (some ⟨q, 0, none⟩), .slice A NA c, .bool true, .slice A2 NB cc2, .bool true, .slice A3 NA ca3, .int .i64 EA, .int .i64 EA, .slice A4 NB ca4, .int .i64 EB, .int .i64 EB, u16, u17, u18, undef, undef, undef, undef, .slice a L k, .int .i64 (L : Nat), .bool false, .bool false, .slice a2 L2 k2, .int .i64 (L2 : Nat), .bool false, .bool false, .agg #[.bool true, .int .i64 0, .int .u64 0, .bool false, .string ⟨#[]⟩, .string ⟨#[]⟩], .tuple #[.slice A NA c, .bool true], .slice a L k, .agg #[.bool true, .int .i64 0, .int .u64 0, .bool false, .string ⟨#[]⟩, .string ⟨#[]⟩], .tuple #[.slice A NA c, .bool true], .slice A NA c, .bool true, .tuple #[.slice A2 NB cc2, .bool true], .slice a2 L2 k2, .agg #[.bool true, .int .i64 0, .int .u64 0, .bool false, .string ⟨#[]⟩, .string ⟨#[]⟩], .tuple #[.slice A2 NB cc2, .bool true], .slice A2 NB cc2, .bool true, .bool true, .bool false, .bool false, .bool true, .bool false, .bool false, undef, .tuple #[.slice A3 NA ca3, .int .i64 EA, .int .i64 EA], .slice a L k, .agg #[.bool true, .int .i64 0, .int .u64 0, .bool false, .string ⟨#[]⟩, .string ⟨#[]⟩], .tuple #[.slice A3 NA ca3, .int .i64 EA, .int .i64 EA], .slice A3 NA ca3, .int .i64 EA, .int .i64 EA, .tuple #[.slice A4 NB ca4, .int .i64 EB, .int .i64 EB], .slice a2 L2 k2, .agg #[.bool true, .int .i64 0, .int .u64 0, .bool false, .string ⟨#[]⟩, .string ⟨#[]⟩], .tuple #[.slice A4 NB ca4, .int .i64 EB, .int .i64 EB], .slice A4 NB ca4, .int .i64 EB, .int .i64 EB, u65, u66, u67, u68, u69, u70, u71, u72, u73, u74, u75, u76, u77, undef, undef, undef, undef, undef, undef, undef, undef, undef, undef, undef, undef, undef, undef, undef, undef, undef, undef, undef, undef, undef, undef, undef, undef, undef, undef, undef, undef, undef, undef, undef, undef, undef, undef, undef, undef, undef, undef, undef, undef, undef, undef, undef, undef, undef, undef, undef, undef, undef, undef, undef, undef, undef, undef, undef, undef, undef, undef, undef, undef, undef, undef, undef, undef, undef, undef, undef, undef, undef, undef, undef, undef, undef, undef, undef, undef, undef, undef, undef, undef, undef, undef, undef, undef, undef, undef, undef, undef, undef, undef, undef, undef, undef, undef, undef, undef, undef, undef, undef, undef, undef, undef, undef, undef, undef, undef, undef, undef], defers := [] } ∧ JoinSt q w5 a k L src a2 k2 L2 src2 NJ LJ D u16 u17 u18 u65 u66 u67 u68 u69 u70 u71 u72 u73 u74 u75 u76 u77 w
set_option maxRecDepth 100000 in
set_option maxHeartbeats 3200000 in
theorem fnjoined (w : World) (a : Option Addr) (k : Nat) (src : List UInt8) (a2 : Option Addr) (k2 : Nat) (src2 : List UInt8) (hs : SrcAt w.heap.size w a k src) (hs2 : SrcAt w.heap.size w a2 k2 src2) (hv : Vars w.heap.size w) :
    Calls Tryd.prog 7 #[.slice a src.length k, .slice a2 src2.length k2] w fun e w' => e = .returned (.bool true) ∧ Below w.heap.size w w' := by
  by_cases hbig : (2147483647 : Int) < src.length
  · clear hs hv hs2
    go_enter Tryd.func7, Tryd.ntmps7
    go_wp2_with (fail)
    go_ret
    exact ⟨rfl, Below.refl _ _⟩
  by_cases hbig2 : (2147483647 : Int) < src2.length
  · clear hs hv hs2
    go_enter Tryd.func7, Tryd.ntmps7
    go_wp2_with (fail)
    go_ret
    exact ⟨rfl, Below.refl _ _⟩
  obtain ⟨L, hL⟩ : ∃ x, src.length = x := ⟨_, rfl⟩
  obtain ⟨L2, hL2⟩ : ∃ x, src2.length = x := ⟨_, rfl⟩
  have HH := Lib.hid (And.intro hs (And.intro hs2 (And.intro hv (And.intro hL (And.intro hL2 (And.intro (show src.length ≤ 10000000000 by omega) (show src2.length ≤ 10000000000 by omega)))))))
  rw [hL] at hbig ⊢
  rw [hL2] at hbig2 ⊢
  have hLb : L ≤ 2147483647 := by omega
  have hLb2 : L2 ≤ 2147483647 := by omega
  clear hs hs2 hv hL hL2
  go_enter Tryd.func7, Tryd.ntmps7
  go_upto_region 4 with (fail)
  obtain ⟨w1, hw1⟩ : ∃ W, w.alloc (Obj.cells #[.bool true, .int .i64 0, .int .u64 0, .bool false, .string ⟨#[]⟩, .string ⟨#[]⟩] 25) = W := ⟨_, rfl⟩
  have hB1 : Below w.heap.size w w1 := by rw [← hw1]; exact (Below.refl _ w).alloc (Nat.le_refl _) _
  have hn1 : w1.heap[w.heap.size]? = some (Obj.cells #[.bool true, .int .i64 0, .int .u64 0, .bool false, .string ⟨#[]⟩, .string ⟨#[]⟩] 25 (0, 0)) := by rw [← hw1]; exact heap_alloc_new _ _
  rw [hw1]
  obtain ⟨q, hq⟩ : ∃ x, w.heap.size = x := ⟨_, rfl⟩
  rw [hq] at hn1 ⊢
  obtain ⟨c0, c1, c2, c3, c4, c5⟩ := set_at hn1
  have HQ := Lib.hid hq
  have HB1 := Lib.hid (And.intro hB1 hn1)
  clear hw1 hB1 hn1 hq
  go_upto_region 5 with (go_at_call 22; refine (spec_dfl w w1 HB1.out.1 a k L src HH.out.2.2.2.1 HH.out.1 HH.out.2.2.2.2.2.1 HH.out.2.2.1).mono ?_; rintro e w2 (⟨rfl, hb2⟩ | ⟨hsu, her, A, c, rfl, hc, hC, hb2⟩); all_goals (have hn2 := (hb2.block _ (lt_of_heap HB1.out.2)).trans HB1.out.2; clear c0 c1 c2 c3 c4 c5; obtain ⟨c0, c1, c2, c3, c4, c5⟩ := set_at hn2; have HB2 := Lib.hid (And.intro (HB1.out.1.trans (hb2.mono HB1.out.1.size)) hn2); clear hb2 hn2))
  · go_upto_region 6 with (go_at_call 22; refine (spec_dfl w w2 HB2.out.1 a2 k2 L2 src2 HH.out.2.2.2.2.1 HH.out.2.1 HH.out.2.2.2.2.2.2 HH.out.2.2.1).mono ?_; rintro e w3 (⟨rfl, hb3⟩ | ⟨-, -, A2, cc2, rfl, -, -, hb3⟩); all_goals (have HB3 := Lib.hid (HB2.out.1.trans (hb3.mono HB2.out.1.size)); clear hb3 c0 c1 c2 c3 c4 c5))
    · go_wp2_with (go_at_call 23; refine (works_at w _ HB3.out HH.out.2.2.1).mono ?_; rintro e w5 ⟨rfl, hb5⟩; have HB5 := Lib.hid (HB3.out.trans (hb5.mono HB3.out.size)); clear hb5)
      go_ret
      exact ⟨rfl, HB5.out⟩
    · go_wp2_with (go_at_call 23; refine (works_at w _ HB3.out HH.out.2.2.1).mono ?_; rintro e w5 ⟨rfl, hb5⟩; have HB5 := Lib.hid (HB3.out.trans (hb5.mono HB3.out.size)); clear hb5)
      go_ret
      exact ⟨rfl, HB5.out⟩
  · obtain ⟨NA, hNA⟩ : ∃ x, (toks dfl.cfg src (items src)).length = x := ⟨_, rfl⟩
    rw [List.length_map, hNA] at hc hC
    rw [hNA]
    have HA := Lib.hid (And.intro hsu (And.intro her (And.intro hNA (And.intro hc hC))))
    clear hsu her hNA hc hC
    go_upto_region 6 with (go_at_call 22; refine (spec_dfl w w2 HB2.out.1 a2 k2 L2 src2 HH.out.2.2.2.2.1 HH.out.2.1 HH.out.2.2.2.2.2.2 HH.out.2.2.1).mono ?_; rintro e w3 (⟨rfl, hb3⟩ | ⟨hsu, her, A2, cc2, rfl, -, -, hb3⟩); all_goals (have hn3 := (hb3.block _ (lt_of_heap HB2.out.2)).trans HB2.out.2; clear c0 c1 c2 c3 c4 c5; obtain ⟨c0, c1, c2, c3, c4, c5⟩ := set_at hn3; have HB3 := Lib.hid (And.intro (HB2.out.1.trans (hb3.mono HB2.out.1.size)) (And.intro hn3 (Kd.C_below HA.out.2.2.2.2 hb3))); clear hb3 hn3))
    · clear c0 c1 c2 c3 c4 c5
      go_wp2_with (go_at_call 23; refine (works_at w _ HB3.out.1 HH.out.2.2.1).mono ?_; rintro e w5 ⟨rfl, hb5⟩; have HB5 := Lib.hid (HB3.out.1.trans (hb5.mono HB3.out.1.size)); clear hb5)
      go_ret
      exact ⟨rfl, HB5.out⟩
    · have HBS := Lib.hid (And.intro hsu her)
      obtain ⟨NB, hNB⟩ : ∃ x, (toks dfl.cfg src2 (items src2)).length = x := ⟨_, rfl⟩
      rw [hNB]
      have HNB := Lib.hid hNB
      clear hsu her hNB
      obtain ⟨LA, hLA⟩ : ∃ x, (toks dfl.cfg src (startL src)).map (tokOf src) = x := ⟨_, rfl⟩
      obtain ⟨LB, hLB⟩ : ∃ x, (toks dfl.cfg src2 (startL src2)).map (tokOf src2) = x := ⟨_, rfl⟩
      have hla : LA.length = NA := by rw [← hLA, List.length_map, (sure_all2 HA.out.1).2]; exact HA.out.2.2.1
      have hlb : LB.length = NB := by rw [← hLB, List.length_map, (sure_all2 HBS.out.1).2]; exact HNB.out
      obtain ⟨EA, hEA⟩ : ∃ x : Int, ((errNum dfl.cfg src : Nat) : Int) = x := ⟨_, rfl⟩
      obtain ⟨EB, hEB⟩ : ∃ x : Int, ((errNum dfl.cfg src2 : Nat) : Int) = x := ⟨_, rfl⟩
      have HLL := Lib.hid (And.intro hLA (And.intro hla (And.intro hLB (And.intro hlb (And.intro hEA hEB)))))
      clear hLA hla hLB hlb hEA hEB
      go_upto_region 10 with (first
        | (go_at_call 24; refine (toks_dfl w w4 HB4.out.1 a2 k2 L2 src2 HH.out.2.2.2.2.1 HH.out.2.1 HH.out.2.2.2.2.2.2 HH.out.2.2.1).mono ?_; unfold TokPost; rw [HLL.out.2.2.1, HLL.out.2.2.2.1, HLL.out.2.2.2.2.2]; rintro e w5 ⟨A4, ca4, rfl, hc4, hC4, hb5⟩; have hn5 := (hb5.block _ (lt_of_heap HB4.out.2.1)).trans HB4.out.2.1; have HB5 := Lib.hid (And.intro (HB4.out.1.trans (hb5.mono HB4.out.1.size)) (And.intro hn5 (And.intro (Kd.C_below HB4.out.2.2.1 hb5) (And.intro hC4 (And.intro hc4 HB4.out.2.2.2))))); clear hb5 hn5 hC4 hc4 c0 c1 c2 c3 c4 c5)
        | (go_at_call 24; refine (toks_dfl w w3 HB3.out.1 a k L src HH.out.2.2.2.1 HH.out.1 HH.out.2.2.2.2.2.1 HH.out.2.2.1).mono ?_; unfold TokPost; rw [HLL.out.1, HLL.out.2.1, HLL.out.2.2.2.2.1]; rintro e w4 ⟨A3, ca3, rfl, hc3, hC3, hb4⟩; have hn4 := (hb4.block _ (lt_of_heap HB3.out.2.1)).trans HB3.out.2.1; clear c0 c1 c2 c3 c4 c5; obtain ⟨c0, c1, c2, c3, c4, c5⟩ := set_at hn4; have HB4 := Lib.hid (And.intro (HB3.out.1.trans (hb4.mono HB3.out.1.size)) (And.intro hn4 (And.intro hC3 hc3))); clear hb4 hn4 hC3 hc3))
      have hjl := join_law dfl_p1 dfl_nl HA.out.1 HBS.out.1 HA.out.2.1
      have hje := join_err dfl_p1 dfl_nl HA.out.1 HBS.out.1 HA.out.2.1 HBS.out.2
      have hsj := (sure_all2 (sure_join HA.out.1 HBS.out.1)).2
      rw [← hsj, ← (sure_all2 HA.out.1).2, ← (sure_all2 HBS.out.1).2, HLL.out.1, HLL.out.2.2.1] at hjl
      obtain ⟨LJ, hLJ⟩ : ∃ x, (toks dfl.cfg (joined src src2) (startL (joined src src2))).map (tokOf (joined src src2)) = x := ⟨_, rfl⟩
      rw [hLJ] at hjl
      obtain ⟨NJ, hNJ⟩ : ∃ x, LJ.length = x := ⟨_, rfl⟩
      have HJ := Lib.hid (And.intro hLJ (And.intro hNJ (And.intro hje hjl)))
      clear hLJ hNJ hje hjl hsj
      go_cut [16, 17, 18] (fun v16 v17 v18 wr => JRow NJ LJ wr v16 ∧ v17 = .int .i64 0 ∧ Below w5.heap.size w5 wr)
      case first =>
        refine wp_region_inv (JoinInv q w5 a k L src a2 k2 L2 src2 NJ LJ A c NA A2 cc2 NB A3 ca3 EA A4 ca4 EB) (by kernel_rfl) (by kernel_rfl) ?_ ?_ ?_
        · exact ⟨_, _, _, _, _, _, _, _, _, _, _, _, _, _, _, _, rfl, ⟨(Below.refl _ _).drew, fun h => (Bool.false_ne_true h).elim, fun h => (Bool.false_ne_true h).elim, fun h => (Bool.false_ne_true h).elim, fun h => (Bool.false_ne_true h).elim, fun h => (Bool.false_ne_true h).elim, fun h => (Bool.false_ne_true h).elim, fun h => (Bool.false_ne_true h).elim, fun h => (Bool.false_ne_true h).elim, fun h => (Bool.false_ne_true h).elim, fun h => (Bool.false_ne_true h).elim, fun h => (Bool.false_ne_true h).elim, fun h => (Bool.false_ne_true h).elim, fun h => (Bool.false_ne_true h).elim, fun h => (Bool.false_ne_true h).elim, fun h => (Bool.false_ne_true h).elim, fun h => (Bool.false_ne_true h).elim, fun h => (Bool.false_ne_true h).elim, fun h => (Bool.false_ne_true h).elim, fun h => (Bool.false_ne_true h).elim, fun h => (Bool.false_ne_true h).elim, fun h => (Bool.false_ne_true h).elim⟩⟩
        · intro D act wx i o hI ho hL hp
          obtain ⟨u16, u17, u18, u65, u66, u67, u68, u69, u70, u71, u72, u73, u74, u75, u76, u77, rfl, hS⟩ := hI
          have HS := Lib.hid hS
          clear hS
          have hi : i < 16 := by
            rcases Nat.lt_or_ge i 16 with h | h
            · exact h
            · rw [List.getElem?_eq_none (by simpa using h)] at ho; cases ho
          match i, hi, ho, hL, hp with
          | 0, _, ho, hL, hp =>
            injection ho with ho; subst ho
            go_wp2_with (fail)
            have hb : Below wx.heap.size wx (wx.alloc (Obj.cells #[] 5)) := (Below.refl _ _).alloc (Nat.le_refl _) _
            have hq := heap_alloc_new wx (Obj.cells #[] 5)
            exact ⟨_, _, _, _, _, _, _, _, _, _, _, _, _, _, _, _, rfl, ⟨(HS.out.below.trans (hb.mono HS.out.below.size)), (HS.out.o42), (HS.out.o43), (HS.out.o64), (HS.out.l8), (HS.out.l9), (HS.out.l10), (HS.out.l13), (HS.out.f67), (HS.out.f71), (HS.out.f73), (fun _ _ => row_nil HS.out.below.size hq), (fun h1 h2 => Kd.R_below (HS.out.row2 h1 h2) hb), (fun h1 h2 => Kd.R_below (HS.out.row4 h1 h2) hb), (fun h1 => Kd.R_below (HS.out.row6 h1) hb), (fun h1 h2 => nl_first (HS.out.nl h1 h2) hb), (fun h => jt_keep (HS.out.f74 h) hb), (fun h => jt_keep (HS.out.f65 h) hb), (fun h => (HS.out.f75 h).keep hb), (HS.out.f76), (fun h => (HS.out.g16 h).keep hb), (HS.out.g17)⟩⟩
          | 1, _, ho, hL, hp =>
            injection ho with ho; subst ho
            go_wp2_with (fail)
            exact ⟨_, _, _, _, _, _, _, _, _, _, _, _, _, _, _, _, rfl, ⟨(HS.out.below), (HS.out.o42), (HS.out.o43), (HS.out.o64), (HS.out.l8), (HS.out.l9), (HS.out.l10), (HS.out.l13), (fun _ => rfl), (HS.out.f71), (HS.out.f73), (HS.out.row0), (HS.out.row2), (HS.out.row4), (HS.out.row6), (HS.out.nl), (HS.out.f74), (HS.out.f65), (HS.out.f75), (HS.out.f76), (HS.out.g16), (HS.out.g17)⟩⟩
          | 5, _, ho, hL, hp =>
            injection ho with ho; subst ho
            go_wp2_with (fail)
            exact ⟨_, _, _, _, _, _, _, _, _, _, _, _, _, _, _, _, rfl, ⟨(HS.out.below), (HS.out.o42), (HS.out.o43), (HS.out.o64), (HS.out.l8), (HS.out.l9), (HS.out.l10), (HS.out.l13), (HS.out.f67), (fun _ => rfl), (HS.out.f73), (HS.out.row0), (HS.out.row2), (HS.out.row4), (HS.out.row6), (HS.out.nl), (HS.out.f74), (HS.out.f65), (HS.out.f75), (HS.out.f76), (HS.out.g16), (HS.out.g17)⟩⟩
          | 2, _, ho, hL, hp =>
            injection ho with ho; subst ho
            have e25 := HS.out.f67 (hp 1 (by decide))
            subst e25
            have HR := Lib.hid (HS.out.row0 (hp 0 (by decide)) hL)
            have hsc := src_C (HH.out.1.up (HB5.out.1.trans (HS.out.below.mono HB5.out.1.size)) (Nat.le_refl _))
            rw [HH.out.2.2.2.1] at hsc
            have HC := Lib.hid hsc
            clear hsc
            go_wp2_with (first | ((with_reducible refine gate_builtin (b := .append) (xs := #[.tmp 66, .tmp 67]) rfl ?_); at_builtin; refine Kd.R_append_row (Value.int .u8) (0 : Int) (h1 := fun _ => rfl) (w0 := w5) w5.heap.size rfl (.tmp 66) (.tmp 67) 22 5 (.int .u8 0) 1 rfl Tryd.underlying22 inf5 rfl (by decide) u66 [] (ints src) a L k (fun _ => True) rfl rfl (fun _ _ => trivial) HR.out HC.out HS.out.below HS.out.below.size (by rw [List.length_nil]; omega) ?_; intro v1 wy hr hb hg hat))
            exact ⟨_, _, _, _, _, _, _, _, _, _, _, _, _, _, _, _, rfl, ⟨(hb), (fun h => rfl), (HS.out.o43), (HS.out.o64), (HS.out.l8), (HS.out.l9), (HS.out.l10), (HS.out.l13), (HS.out.f67), (HS.out.f71), (HS.out.f73), (fun _ h => absurd (show (true : Bool) = false from h) (by decide)), (fun _ _ => hr), (fun h1 _ => absurd (HS.out.o42 h1) (by rw [hL]; decide)), (fun h1 => absurd (HS.out.o42 (HS.out.o64 h1)) (by rw [hL]; decide)), (fun h1 h2 => nl_app (HS.out.nl h1 h2) (hp 0 (by decide)) hL hg hat), (fun h => absurd (HS.out.o42 (HS.out.o64 (HS.out.l8 h))) (by rw [hL]; decide)), (fun h => absurd (HS.out.o42 (HS.out.o64 (HS.out.l9 h))) (by rw [hL]; decide)), (fun h => absurd (HS.out.o42 (HS.out.o64 (HS.out.l10 h))) (by rw [hL]; decide)), (HS.out.f76), (fun h => absurd (HS.out.o42 (HS.out.o64 (HS.out.l13 h))) (by rw [hL]; decide)), (HS.out.g17)⟩⟩
          | 3, _, ho, hL, hp =>
            injection ho with ho; subst ho
            have h4 : D 4 = false := by cases hx : D 4 with | false => rfl | true => exact absurd (HS.out.o43 hx) (by rw [hL]; decide)
            go_wp2_with (fail)
            have hb : Below wx.heap.size wx (wx.alloc (Obj.cells #[.int .u8 10] 5)) := (Below.refl _ _).alloc (Nat.le_refl _) _
            have hq := heap_alloc_new wx (Obj.cells #[.int .u8 10] 5)
            exact ⟨_, _, _, _, _, _, _, _, _, _, _, _, _, _, _, _, rfl, ⟨(HS.out.below.trans (hb.mono HS.out.below.size)), (HS.out.o42), (fun h => rfl), (HS.out.o64), (HS.out.l8), (HS.out.l9), (HS.out.l10), (HS.out.l13), (HS.out.f67), (HS.out.f71), (HS.out.f73), (fun h1 h2 => Kd.R_below (HS.out.row0 h1 h2) hb), (fun h1 h2 => Kd.R_below (HS.out.row2 h1 h2) hb), (fun h1 h2 => Kd.R_below (HS.out.row4 h1 h2) hb), (fun h1 => Kd.R_below (HS.out.row6 h1) hb), (fun _ _ => ⟨_, rfl, HS.out.below.size, hq, (fun h1 h2 => row_new (HS.out.row0 h1 h2)), fun h1 => row_new (HS.out.row2 h1 h4)⟩), (fun h => jt_keep (HS.out.f74 h) hb), (fun h => jt_keep (HS.out.f65 h) hb), (fun h => (HS.out.f75 h).keep hb), (HS.out.f76), (fun h => (HS.out.g16 h).keep hb), (HS.out.g17)⟩⟩
          | 4, _, ho, hL, hp =>
            injection ho with ho; subst ho
            obtain ⟨g, e27, hg1, hg2, -, hg3⟩ := HS.out.nl (hp 3 (by decide)) hL
            subst e27
            have HR := Lib.hid (HS.out.row2 (hp 2 (by decide)) hL)
            have HC := Lib.hid (nl_C hg2)
            go_wp2_with (first | ((with_reducible refine gate_builtin (b := .append) (xs := #[.tmp 68, .tmp 69]) rfl ?_); at_builtin; refine Kd.R_append_row (Value.int .u8) (0 : Int) (h1 := fun _ => rfl) (w0 := w5) w5.heap.size rfl (.tmp 68) (.tmp 69) 22 5 (.int .u8 0) 1 rfl Tryd.underlying22 inf5 rfl (by decide) u68 (ints src) (ints [10]) (some ⟨g, 0, none⟩) 1 1 (fun _ => True) rfl rfl (fun _ _ => trivial) HR.out HC.out HS.out.below HS.out.below.size (by rw [ints_length]; have := HH.out.2.2.2.1; omega) ?_; intro v1 wy hr hb hg hat))
            exact ⟨_, _, _, _, _, _, _, _, _, _, _, _, _, _, _, _, rfl, ⟨(hb), (fun _ => hp 2 (by decide)), (fun _ => hp 3 (by decide)), (fun h => rfl), (HS.out.l8), (HS.out.l9), (HS.out.l10), (HS.out.l13), (HS.out.f67), (HS.out.f71), (HS.out.f73), (fun _ h => absurd (hp 2 (by decide)) (by rw [show D 2 = false from h]; decide)), (fun _ h => absurd (show (true : Bool) = false from h) (by decide)), (fun _ _ => hr), (fun h1 => absurd (HS.out.o64 h1) (by rw [hL]; decide)), (fun _ h => absurd (show (true : Bool) = false from h) (by decide)), (fun h => absurd (HS.out.o64 (HS.out.l8 h)) (by rw [hL]; decide)), (fun h => absurd (HS.out.o64 (HS.out.l9 h)) (by rw [hL]; decide)), (fun h => absurd (HS.out.o64 (HS.out.l10 h)) (by rw [hL]; decide)), (HS.out.f76), (fun h => absurd (HS.out.o64 (HS.out.l13 h)) (by rw [hL]; decide)), (HS.out.g17)⟩⟩
          | 6, _, ho, hL, hp =>
            injection ho with ho; subst ho
            have e29 := HS.out.f71 (hp 5 (by decide))
            subst e29
            have HR := Lib.hid (HS.out.row4 (hp 4 (by decide)) hL)
            have hsc := src_C (HH.out.2.1.up (HB5.out.1.trans (HS.out.below.mono HB5.out.1.size)) (Nat.le_refl _))
            rw [HH.out.2.2.2.2.1] at hsc
            have HC := Lib.hid hsc
            clear hsc
            go_wp2_with (first | ((with_reducible refine gate_builtin (b := .append) (xs := #[.tmp 70, .tmp 71]) rfl ?_); at_builtin; refine Kd.R_append_row (Value.int .u8) (0 : Int) (h1 := fun _ => rfl) (w0 := w5) w5.heap.size rfl (.tmp 70) (.tmp 71) 22 5 (.int .u8 0) 1 rfl Tryd.underlying22 inf5 rfl (by decide) u70 (ints src ++ ints [10]) (ints src2) a2 L2 k2 (fun _ => True) rfl rfl (fun _ _ => trivial) HR.out HC.out HS.out.below HS.out.below.size (by rw [List.length_append, ints_length, ints_length]; have := HH.out.2.2.2.1; simp; omega) ?_; intro v1 wy hr hb hg hat))
            exact ⟨_, _, _, _, _, _, _, _, _, _, _, _, _, _, _, _, rfl, ⟨(hb), (HS.out.o42), (HS.out.o43), (fun _ => hp 4 (by decide)), (fun _ => rfl), (fun _ => rfl), (fun _ => rfl), (fun _ => rfl), (HS.out.f67), (HS.out.f71), (HS.out.f73), (fun _ h => absurd (HS.out.o42 (hp 4 (by decide))) (by rw [show D 2 = false from h]; decide)), (fun _ h => absurd (hp 4 (by decide)) (by rw [show D 4 = false from h]; decide)), (fun _ h => absurd (show (true : Bool) = false from h) (by decide)), (fun _ => hr), (fun _ h => absurd (hp 4 (by decide)) (by rw [show D 4 = false from h]; decide)), (fun h => absurd (HS.out.l8 h) (by rw [hL]; decide)), (fun h => absurd (HS.out.l9 h) (by rw [hL]; decide)), (fun h => absurd (HS.out.l10 h) (by rw [hL]; decide)), (HS.out.f76), (fun h => absurd (HS.out.l13 h) (by rw [hL]; decide)), (HS.out.g17)⟩⟩
          | 7, _, ho, hL, hp =>
            injection ho with ho; subst ho
            obtain ⟨c0, c1, c2, c3, c4, c5⟩ := set_at ((HS.out.below.block _ (lt_of_heap HB5.out.2.1)).trans HB5.out.2.1)
            go_wp2_with (fail)
            exact ⟨_, _, _, _, _, _, _, _, _, _, _, _, _, _, _, _, rfl, ⟨(HS.out.below), (HS.out.o42), (HS.out.o43), (HS.out.o64), (HS.out.l8), (HS.out.l9), (HS.out.l10), (HS.out.l13), (HS.out.f67), (HS.out.f71), (fun _ => rfl), (HS.out.row0), (HS.out.row2), (HS.out.row4), (HS.out.row6), (HS.out.nl), (HS.out.f74), (HS.out.f65), (HS.out.f75), (HS.out.f76), (HS.out.g16), (HS.out.g17)⟩⟩
          | 8, _, ho, hL, hp =>
            injection ho with ho; subst ho
            have e32 := HS.out.f73 (hp 7 (by decide))
            subst e32
            obtain ⟨AX, cx, e30, hsrc⟩ := R_src (txt := joined src src2) (by rw [join_ints]; exact HS.out.row6 (hp 6 (by decide)))
            subst e30
            obtain ⟨MJ, hMJ⟩ : ∃ x, (joined src src2).length = x := ⟨_, rfl⟩
            rw [hMJ]
            have htk := tokens_atm wx AX cx MJ (joined src src2) hMJ dfl dfl_ok hsrc (by have h1 := HH.out.2.2.2.1; have h2 := HH.out.2.2.2.2.1; unfold joined; simp only [List.length_append, List.length_cons]; omega) ((HH.out.2.2.1.move (HB5.out.1.trans (HS.out.below.mono HB5.out.1.size))).mono (Nat.le_trans HB5.out.1.size HS.out.below.size))
            unfold TokPost at htk
            rw [HJ.out.1, HJ.out.2.1, HJ.out.2.2.1] at htk
            have HTK := Lib.hid htk
            have hr6 := HS.out.row6 (hp 6 (by decide))
            rw [hMJ] at hr6
            clear htk hsrc hMJ
            go_wp2_with (go_at_call 24; refine HTK.out.mono ?_; rintro e wy ⟨AY, cy, rfl, hcy, hCy, hb⟩)
            exact ⟨_, _, _, _, _, _, _, _, _, _, _, _, _, _, _, _, rfl, ⟨(HS.out.below.trans (hb.mono HS.out.below.size)), (HS.out.o42), (HS.out.o43), (HS.out.o64), (fun _ => hp 6 (by decide)), (HS.out.l9), (HS.out.l10), (HS.out.l13), (HS.out.f67), (HS.out.f71), (HS.out.f73), (fun h1 h2 => Kd.R_below (HS.out.row0 h1 h2) hb), (fun h1 h2 => Kd.R_below (HS.out.row2 h1 h2) hb), (fun h1 h2 => Kd.R_below (HS.out.row4 h1 h2) hb), (fun _ => Kd.R_below hr6 hb), (fun h1 h2 => nl_keep (HS.out.nl h1 h2) hb), (fun _ => ⟨_, rfl, AY, cy, rfl, hcy, hCy⟩), (fun h => jt_keep (HS.out.f65 h) hb), (fun h => (HS.out.f75 h).keep hb), (HS.out.f76), (fun h => (HS.out.g16 h).keep hb), (HS.out.g17)⟩⟩
          | 9, _, ho, hL, hp =>
            injection ho with ho; subst ho
            obtain ⟨v, e33, hv⟩ := HS.out.f74 (hp 8 (by decide))
            subst e33
            go_wp2_with (fail)
            exact ⟨_, _, _, _, _, _, _, _, _, _, _, _, _, _, _, _, rfl, ⟨(HS.out.below), (HS.out.o42), (HS.out.o43), (HS.out.o64), (HS.out.l8), (fun _ => HS.out.l8 (hp 8 (by decide))), (HS.out.l10), (HS.out.l13), (HS.out.f67), (HS.out.f71), (HS.out.f73), (HS.out.row0), (HS.out.row2), (HS.out.row4), (HS.out.row6), (HS.out.nl), (HS.out.f74), (fun _ => ⟨v, rfl, hv⟩), (HS.out.f75), (HS.out.f76), (HS.out.g16), (HS.out.g17)⟩⟩
          | 10, _, ho, hL, hp =>
            injection ho with ho; subst ho
            obtain ⟨v, e23, hv⟩ := HS.out.f65 (hp 9 (by decide))
            subst e23
            go_wp2_with (fail)
            exact ⟨_, _, _, _, _, _, _, _, _, _, _, _, _, _, _, _, rfl, ⟨(HS.out.below), (HS.out.o42), (HS.out.o43), (HS.out.o64), (HS.out.l8), (HS.out.l9), (fun _ => HS.out.l9 (hp 9 (by decide))), (HS.out.l13), (HS.out.f67), (HS.out.f71), (HS.out.f73), (HS.out.row0), (HS.out.row2), (HS.out.row4), (HS.out.row6), (HS.out.nl), (HS.out.f74), (HS.out.f65), (fun _ => hv), (HS.out.f76), (HS.out.g16), (HS.out.g17)⟩⟩
          | 11, _, ho, hL, hp =>
            injection ho with ho; subst ho
            obtain ⟨v, e23, hv⟩ := HS.out.f65 (hp 9 (by decide))
            subst e23
            go_wp2_with (fail)
            exact ⟨_, _, _, _, _, _, _, _, _, _, _, _, _, _, _, _, rfl, ⟨(HS.out.below), (HS.out.o42), (HS.out.o43), (HS.out.o64), (HS.out.l8), (HS.out.l9), (HS.out.l10), (HS.out.l13), (HS.out.f67), (HS.out.f71), (HS.out.f73), (HS.out.row0), (HS.out.row2), (HS.out.row4), (HS.out.row6), (HS.out.nl), (HS.out.f74), (HS.out.f65), (HS.out.f75), (fun _ => rfl), (HS.out.g16), (HS.out.g17)⟩⟩
          | 12, _, ho, hL, hp =>
            injection ho with ho; subst ho
            obtain ⟨v, e23, hv⟩ := HS.out.f65 (hp 9 (by decide))
            subst e23
            go_wp2_with (fail)
            exact ⟨_, _, _, _, _, _, _, _, _, _, _, _, _, _, _, _, rfl, ⟨(HS.out.below), (HS.out.o42), (HS.out.o43), (HS.out.o64), (HS.out.l8), (HS.out.l9), (HS.out.l10), (HS.out.l13), (HS.out.f67), (HS.out.f71), (HS.out.f73), (HS.out.row0), (HS.out.row2), (HS.out.row4), (HS.out.row6), (HS.out.nl), (HS.out.f74), (HS.out.f65), (HS.out.f75), (HS.out.f76), (HS.out.g16), (HS.out.g17)⟩⟩
          | 13, _, ho, hL, hp =>
            injection ho with ho; subst ho
            go_wp2_with (fail)
            exact ⟨_, _, _, _, _, _, _, _, _, _, _, _, _, _, _, _, rfl, ⟨(HS.out.below), (HS.out.o42), (HS.out.o43), (HS.out.o64), (HS.out.l8), (HS.out.l9), (HS.out.l10), (fun _ => HS.out.l10 (hp 10 (by decide))), (HS.out.f67), (HS.out.f71), (HS.out.f73), (HS.out.row0), (HS.out.row2), (HS.out.row4), (HS.out.row6), (HS.out.nl), (HS.out.f74), (HS.out.f65), (HS.out.f75), (HS.out.f76), (fun _ => HS.out.f75 (hp 10 (by decide))), (HS.out.g17)⟩⟩
          | 14, _, ho, hL, hp =>
            injection ho with ho; subst ho
            have e35 := HS.out.f76 (hp 11 (by decide))
            subst e35
            go_wp2_with (fail)
            exact ⟨_, _, _, _, _, _, _, _, _, _, _, _, _, _, _, _, rfl, ⟨(HS.out.below), (HS.out.o42), (HS.out.o43), (HS.out.o64), (HS.out.l8), (HS.out.l9), (HS.out.l10), (HS.out.l13), (HS.out.f67), (HS.out.f71), (HS.out.f73), (HS.out.row0), (HS.out.row2), (HS.out.row4), (HS.out.row6), (HS.out.nl), (HS.out.f74), (HS.out.f65), (HS.out.f75), (HS.out.f76), (HS.out.g16), (fun _ => rfl)⟩⟩
          | 15, _, ho, hL, hp =>
            injection ho with ho; subst ho
            go_wp2_with (fail)
            exact ⟨_, _, _, _, _, _, _, _, _, _, _, _, _, _, _, _, rfl, ⟨(HS.out.below), (HS.out.o42), (HS.out.o43), (HS.out.o64), (HS.out.l8), (HS.out.l9), (HS.out.l10), (HS.out.l13), (HS.out.f67), (HS.out.f71), (HS.out.f73), (HS.out.row0), (HS.out.row2), (HS.out.row4), (HS.out.row6), (HS.out.nl), (HS.out.f74), (HS.out.f65), (HS.out.f75), (HS.out.f76), (HS.out.g16), (HS.out.g17)⟩⟩
          | i + 16, hi, _, _, _ => exact absurd hi (by omega)
        · intro D act wx hI hall
          obtain ⟨u16, u17, u18, u65, u66, u67, u68, u69, u70, u71, u72, u73, u74, u75, u76, u77, rfl, hS⟩ := hI
          have h8 := hS.g17 (hall 14 (by decide))
          subst h8
          have HS := Lib.hid (And.intro hS.below (hS.g16 (hall 13 (by decide))))
          clear hS hall
          go_wp2_with (fail)
          go_meet
          exact ⟨HS.out.2, rfl, HS.out.1⟩
      case rest =>
        obtain ⟨⟨AJ, cj, rfl, hcj, hCJ⟩, rfl, hb⟩ := hcut
        have hjk := HJ.out.2.2.2
        have hNA0 : 0 < NA := by have := hjk.pa; rw [HLL.out.2.1] at this; exact this
        have hNB0 : 0 < NB := by have := hjk.pb; rw [HLL.out.2.2.2.1] at this; exact this
        have hNJ : NJ + 1 = NA + NB := by have := hjk.len; rw [HJ.out.2.1, HLL.out.2.1, HLL.out.2.2.2.1] at this; exact this
        have hNAb : NA ≤ 10000000001 := by
          have h1 := toks_len dfl.cfg src (items src)
          have h2 := items_le src
          have h3 := HA.out.2.2.1
          have h4 := HH.out.2.2.2.2.2.1
          omega
        have hNBb : NB ≤ 10000000001 := by
          have h1 := toks_len dfl.cfg src2 (items src2)
          have h2 := items_le src2
          have h3 := HNB.out
          have h4 := HH.out.2.2.2.2.2.2
          omega
        have hNJb : NJ ≤ 20000000002 := by omega
        have HC := Lib.hid (And.intro (Kd.C_below HB5.out.2.2.1 hb) (And.intro (Kd.C_below HB5.out.2.2.2.1 hb) (And.intro hCJ (HB5.out.1.trans (hb.mono HB5.out.1.size)))))
        have HJK := Lib.hid hjk
        have HNJ := Lib.hid hNJ
        have hx1 : ((NA : Int) == 0) = false := beq_eq_false_iff_ne.2 (by omega)
        have hx2 : ((NB : Int) == 0) = false := beq_eq_false_iff_ne.2 (by omega)
        have hx3 : ((NJ : Int) != (NA : Int) - 1 + NB) = false := by rw [bne_eq_false_iff_eq]; omega
        clear hb hCJ hjk hNJ
        go_upto_region 13 with (fail)
        obtain ⟨ga3, oa3, rfl⟩ := row_spot HC.out.1 hNA0
        obtain ⟨NA1, hNA1⟩ : ∃ x, NA - 1 = x := ⟨_, rfl⟩
        have hNA2 : NA1 < NA := by omega
        obtain ⟨⟨l0, l1, ⟨l2, l3, l4⟩, ⟨l5, l6, l7⟩⟩, hlt⟩ : ∃ T, K.rd_T37 LA (NA1 : Int) = T := ⟨_, rfl⟩
        have hla := HJK.out.last
        rw [HLL.out.2.1, hNA1, hlt] at hla
        obtain ⟨hl5, hl6⟩ := hla
        simp only at hl5 hl6
        obtain ⟨-, -, -, -, -, y5, y6, y7⟩ := row_reads HC.out.1 NA1 hNA2 hlt
        rw [← hNA1] at y5 y6 y7
        have HLS := Lib.hid (And.intro hl5 (And.intro hl6 (And.intro hNA1 hNA2)))
        clear hlt hl5 hl6 hNA1 hNA2
        go_upto_region 14 with (fail)
        obtain ⟨wE, hwE⟩ : ∃ W, wc.alloc (Obj.cells #[.int .i64 l5, .int .i64 l6, .int .i64 l7] 35) = W := ⟨_, rfl⟩
        have hbE : Below wc.heap.size wc wE := by rw [← hwE]; exact (Below.refl _ wc).alloc (Nat.le_refl _) _
        have hqE : wE.heap[wc.heap.size]? = some (Obj.cells #[.int .i64 l5, .int .i64 l6, .int .i64 l7] 35 (0, 0)) := by rw [← hwE]; exact heap_alloc_new _ _
        rw [hwE]
        obtain ⟨ge, hge⟩ : ∃ x, wc.heap.size = x := ⟨_, rfl⟩
        have HE := Lib.hid (And.intro (Kd.C_below HC.out.1 hbE) (And.intro (Kd.C_below HC.out.2.1 hbE) (And.intro (Kd.C_below HC.out.2.2.1 hbE) (And.intro (HC.out.2.2.2.trans (hbE.mono HC.out.2.2.2.size)) (show wE.heap[ge]? = some (Obj.cells #[.int .i64 l5, .int .i64 l6, .int .i64 l7] 35 (0, 0)) from by rw [← hge]; exact hqE)))))
        rw [hge]
        clear hwE hbE hqE hge y5 y6 y7
        have hl5 : (l5 : Int) = (L : Nat) := by rw [HLS.out.1, HH.out.2.2.2.1]
        have hl6 : 0 ≤ l6 ∧ l6 ≤ 10000000001 := by
          have h1 := HLS.out.2.1
          have h2 := lineAt_le HH.out.2.2.2.2.2.1 []
          omega
        have hl5b : 0 ≤ l5 ∧ l5 ≤ 10000000000 := by rw [hl5]; omega
        have HL5 := Lib.hid hl5
        clear hl5
        go_wp2_with (fail)
        go_loopg [117] NJ (fun kk t wr => ∃ (i : Nat), i + kk = NJ ∧ t = .int .i64 (i : Nat) ∧ Below wE.heap.size wE wr)
        case atStart => exact ⟨0, by omega, rfl, Below.refl _ _⟩
        case round =>
          obtain ⟨i, hi, rfl, hb⟩ := hrel
          by_cases hlt : i < NJ
          · obtain ⟨⟨t0, t1, ⟨t2, t3, t4⟩, ⟨t5, t6, t7⟩⟩, hT⟩ : ∃ T, K.rd_T37 LJ (i : Int) = T := ⟨_, rfl⟩
            obtain ⟨gj, oj, rfl⟩ := row_spot HE.out.2.2.1 (by omega)
            obtain ⟨x0, x1, x2, x3, x4, x5, x6, x7⟩ := row_reads (Kd.C_below HE.out.2.2.1 hb) i hlt hT
            have HI := Lib.hid (And.intro hi (And.intro hb (And.intro hT hlt)))
            have hij : (i : Int) ≤ 20000000002 := by omega
            clear hi hb hT
            go_upto_region 17 with (first | ((with_reducible refine gate_dst (N := 21) rfl ?_); refine box_event ?hg (N := 21) ?hd (cs := #[.int .i64 0, .string (⟨#[]⟩ : ByteArray), .int .i64 0, .int .i64 0, .int .i64 0, .int .i64 0, .int .i64 0, .int .i64 0]) (t := 37) ?hr ?_; (case hd => rfl); (case hg => rfl); (case hr => first | (go_simp; done) | (go_simp; rfl)); intro ga hg gaw hbox hbb; clear x0 x1 x2 x3 x4 x5 x6 x7; have HBXga := Lib.hid (And.intro hg (And.intro hbox hbb)); have fb := frozen_of_heap hbox; have z0 := cell_of_heap (j := 0) hbox; have z1 := cell_of_heap (j := 1) hbox; have z2 := cell_of_heap (j := 2) hbox; have z3 := cell_of_heap (j := 3) hbox; have z4 := cell_of_heap (j := 4) hbox; have z5 := cell_of_heap (j := 5) hbox; have z6 := cell_of_heap (j := 6) hbox; have z7 := cell_of_heap (j := 7) hbox; simp at z0 z1 z2 z3 z4 z5 z6 z7; clear hg hbox hbb))
            obtain ⟨wq1, hwq⟩ : ∃ W, ((((((((gaw.setCell ⟨ga, 0, none⟩ (.int .i64 t0)).setCell ⟨ga, 1, none⟩ (.string t1)).setCell ⟨ga, 2, none⟩ (.int .i64 t2)).setCell ⟨ga, 3, none⟩ (.int .i64 t3)).setCell ⟨ga, 4, none⟩ (.int .i64 t4)).setCell ⟨ga, 5, none⟩ (.int .i64 t5)).setCell ⟨ga, 6, none⟩ (.int .i64 t6)).setCell ⟨ga, 7, none⟩ (.int .i64 t7)) = W := ⟨_, rfl⟩
            rw [hwq]
            obtain ⟨ka, b5, s5⟩ := box8 HBXga.out.2.1 _ _ _ _ _ _ _ _ hwq
            have hbq : Below wr.heap.size wr wq1 := HBXga.out.2.2.trans (b5.mono (by rw [HBXga.out.1]; exact Nat.le_refl _))
            have hB5 : Below wE.heap.size wE wq1 := HI.out.2.1.trans (hbq.mono HI.out.2.1.size)
            have HQ1 := Lib.hid (And.intro ka hB5)
            clear hwq fb z0 z1 z2 z3 z4 z5 z6 z7 ka b5 s5 hbq hB5
            go_upto_region 18 with (fail)
            obtain ⟨wq2, hwq⟩ : ∃ W, wq1.alloc (Obj.cells #[.int .i64 0, .string ⟨#[]⟩, .int .i64 0, .int .i64 0, .int .i64 0, .int .i64 0, .int .i64 0, .int .i64 0] 37) = W := ⟨_, rfl⟩
            have hbq : Below wq1.heap.size wq1 wq2 := by rw [← hwq]; exact (Below.refl _ wq1).alloc (Nat.le_refl _) _
            have kb : wq2.heap[wq1.heap.size]? = some (Obj.cells #[.int .i64 0, .string ⟨#[]⟩, .int .i64 0, .int .i64 0, .int .i64 0, .int .i64 0, .int .i64 0, .int .i64 0] 37 (0, 0)) := by rw [← hwq]; exact heap_alloc_new _ _
            rw [hwq]
            obtain ⟨gb, hgb⟩ : ∃ x, wq1.heap.size = x := ⟨_, rfl⟩
            have ka := (hbq.block _ (lt_of_heap HQ1.out.1)).trans HQ1.out.1
            have hnab : ¬ ga = gb := by have h1 := lt_of_heap HQ1.out.1; omega
            have hB5 : Below wE.heap.size wE wq2 := HQ1.out.2.trans (hbq.mono HQ1.out.2.size)
            have hgE : wE.heap.size ≤ gb := by rw [← hgb]; exact HQ1.out.2.size
            rw [hgb] at kb ⊢
            have HQ2 := Lib.hid (And.intro ka (And.intro kb (And.intro hB5 hgE)))
            have hnge : ¬ ge = gb := by have h1 := lt_of_heap HE.out.2.2.2.2; omega
            clear hwq hbq kb hgb ka hB5 hgE
            by_cases hleft : i + 1 < NA
            · have hTA := HJK.out.left i (by rw [HLL.out.2.1]; exact hleft)
              rw [HI.out.2.2.1] at hTA
              obtain ⟨y0, y1, y2, y3, y4, y5, y6, y7⟩ := row_reads (Kd.C_below HE.out.1 HQ2.out.2.2.1) i (by omega) hTA.symm
              have z0 := cell_of_heap (j := 0) HQ2.out.2.1
              have z1 := cell_of_heap (j := 1) HQ2.out.2.1
              have z2 := cell_of_heap (j := 2) HQ2.out.2.1
              have z3 := cell_of_heap (j := 3) HQ2.out.2.1
              have z4 := cell_of_heap (j := 4) HQ2.out.2.1
              have z5 := cell_of_heap (j := 5) HQ2.out.2.1
              have z6 := cell_of_heap (j := 6) HQ2.out.2.1
              have z7 := cell_of_heap (j := 7) HQ2.out.2.1
              have fb := frozen_of_heap HQ2.out.2.1
              simp at z0 z1 z2 z3 z4 z5 z6 z7
              have hcl : decide ((i : Int) < (NA : Int) - 1) = true := decide_eq_true (by omega)
              have hcn : decide (i < NA - 1) = true := decide_eq_true (by omega)
              have hiA : i < NA := by omega
              clear hTA
              go_upto_region 23 with (fail)
              obtain ⟨W, hwq⟩ : ∃ X, ((((((((wq2.setCell ⟨gb, 0, none⟩ (.int .i64 t0)).setCell ⟨gb, 1, none⟩ (.string t1)).setCell ⟨gb, 2, none⟩ (.int .i64 t2)).setCell ⟨gb, 3, none⟩ (.int .i64 t3)).setCell ⟨gb, 4, none⟩ (.int .i64 t4)).setCell ⟨gb, 5, none⟩ (.int .i64 t5)).setCell ⟨gb, 6, none⟩ (.int .i64 t6)).setCell ⟨gb, 7, none⟩ (.int .i64 t7)) = X := ⟨_, rfl⟩
              rw [hwq]
              have o8 := other8 _ _ _ _ _ _ _ _ hwq
              obtain ⟨kb, bW, -⟩ := box8 HQ2.out.2.1 _ _ _ _ _ _ _ _ hwq
              have HW := Lib.hid (And.intro ((o8 ga hnab).trans HQ2.out.1) (And.intro kb (HQ2.out.2.2.1.trans (bW.mono HQ2.out.2.2.2))))
              clear hwq o8 kb bW fb z0 z1 z2 z3 z4 z5 z6 z7 y0 y1 y2 y3 y4 y5 y6 y7
              by_cases ht : t0 = -1
              · subst ht
                have ua0 := cell_of_heap (j := 0) HW.out.1
                have ua2 := cell_of_heap (j := 2) HW.out.1
                have ua3 := cell_of_heap (j := 3) HW.out.1
                have ua4 := cell_of_heap (j := 4) HW.out.1
                have ub2 := cell_of_heap (j := 2) HW.out.2.1
                have ub3 := cell_of_heap (j := 3) HW.out.2.1
                have ub4 := cell_of_heap (j := 4) HW.out.2.1
                have fb := frozen_of_heap HW.out.2.1
                simp at ua0 ua2 ua3 ua4 ub2 ub3 ub4
                go_upto_region 25 with (fail)
                obtain ⟨wF, hwF⟩ : ∃ X, (((W.setCell ⟨gb, 2, none⟩ (.int .i64 t2)).setCell ⟨gb, 3, none⟩ (.int .i64 t3)).setCell ⟨gb, 4, none⟩ (.int .i64 t4)) = X := ⟨_, rfl⟩
                rw [hwF]
                obtain ⟨kF, oF, bF⟩ := gs234 HW.out.2.1 (.int .i64 t2) (.int .i64 t3) (.int .i64 t4) hwF
                have kA := (oF ga hnab).trans HW.out.1
                have HBF := Lib.hid (HW.out.2.2.trans (bF.mono HQ2.out.2.2.2))
                clear hwF ua0 ua2 ua3 ua4 ub2 ub3 ub4 fb oF bF
                have ua0 := cell_of_heap (j := 0) kA
                have ub0 := cell_of_heap (j := 0) kF
                have ua1 := cell_of_heap (j := 1) kA
                have ub1 := cell_of_heap (j := 1) kF
                have ua2 := cell_of_heap (j := 2) kA
                have ub2 := cell_of_heap (j := 2) kF
                have ua3 := cell_of_heap (j := 3) kA
                have ub3 := cell_of_heap (j := 3) kF
                have ua4 := cell_of_heap (j := 4) kA
                have ub4 := cell_of_heap (j := 4) kF
                have ua5 := cell_of_heap (j := 5) kA
                have ub5 := cell_of_heap (j := 5) kF
                have ua6 := cell_of_heap (j := 6) kA
                have ub6 := cell_of_heap (j := 6) kF
                have ua7 := cell_of_heap (j := 7) kA
                have ub7 := cell_of_heap (j := 7) kF
                simp at ua0 ub0 ua1 ub1 ua2 ub2 ua3 ub3 ua4 ub4 ua5 ub5 ua6 ub6 ua7 ub7
                clear kA kF
                go_wp2_with (fail)
                go_roundg (NJ - (i + 1))
                case measure => have h1 := HI.out.1; have h2 := HI.out.2.2.2; omega
                case rel => exact ⟨i + 1, Nat.add_sub_of_le HI.out.2.2.2, by go_num, HBF.out⟩
              · have htb : (t0 == -1) = false := beq_eq_false_iff_ne.2 ht
                have kA := HW.out.1
                have kF := HW.out.2.1
                have HBF := Lib.hid HW.out.2.2
                have ua0 := cell_of_heap (j := 0) kA
                have ub0 := cell_of_heap (j := 0) kF
                have ua1 := cell_of_heap (j := 1) kA
                have ub1 := cell_of_heap (j := 1) kF
                have ua2 := cell_of_heap (j := 2) kA
                have ub2 := cell_of_heap (j := 2) kF
                have ua3 := cell_of_heap (j := 3) kA
                have ub3 := cell_of_heap (j := 3) kF
                have ua4 := cell_of_heap (j := 4) kA
                have ub4 := cell_of_heap (j := 4) kF
                have ua5 := cell_of_heap (j := 5) kA
                have ub5 := cell_of_heap (j := 5) kF
                have ua6 := cell_of_heap (j := 6) kA
                have ub6 := cell_of_heap (j := 6) kF
                have ua7 := cell_of_heap (j := 7) kA
                have ub7 := cell_of_heap (j := 7) kF
                simp at ua0 ub0 ua1 ub1 ua2 ub2 ua3 ub3 ua4 ub4 ua5 ub5 ua6 ub6 ua7 ub7
                clear kA kF
                go_wp2_with (fail)
                go_roundg (NJ - (i + 1))
                case measure => have h1 := HI.out.1; have h2 := HI.out.2.2.2; omega
                case rel => exact ⟨i + 1, Nat.add_sub_of_le HI.out.2.2.2, by go_num, HBF.out⟩
            · obtain ⟨j, hj⟩ : ∃ x, i + 1 - NA = x := ⟨_, rfl⟩
              have hjB : j < NB := by have := HNJ.out; omega
              have hsh := HJK.out.right j (by rw [HLL.out.2.2.2.1]; exact hjB)
              rw [HLL.out.2.1, show NA - 1 + j = i by omega, HI.out.2.2.1] at hsh
              obtain ⟨⟨q0, q1, ⟨s2, s3, s4⟩, ⟨s5, s6, s7⟩⟩, hS⟩ : ∃ T, K.rd_T37 LB (j : Int) = T := ⟨_, rfl⟩
              have hnr := near_rd HH.out.2.2.2.2.2.2 HLL.out.2.2.1 j (by rw [HLL.out.2.2.2.1]; exact hjB)
              rw [hS] at hsh hnr
              obtain ⟨h0, h1, h3, h2⟩ := hsh
              obtain ⟨n2, n3, n5, n6⟩ := hnr
              simp only at h0 h1 h3 h2 n2 n3 n5 n6
              subst h0 h1
              injection h3 with h35 h36 h37
              have hl6e : l6 = (lineAt src [] : Nat) := HLS.out.2.1
              rw [HH.out.2.2.2.1, ← HL5.out] at h35 h2
              rw [← hl6e] at h36 h2
              obtain ⟨gB, oB, hAB⟩ := row_spot HE.out.2.1 (by omega)
              subst hAB
              obtain ⟨y0, y1, y2, y3, y4, y5, y6, y7⟩ := row_reads (Kd.C_below HE.out.2.1 HQ2.out.2.2.1) j hjB hS
              have z0 := cell_of_heap (j := 0) HQ2.out.2.1
              have z1 := cell_of_heap (j := 1) HQ2.out.2.1
              have z2 := cell_of_heap (j := 2) HQ2.out.2.1
              have z3 := cell_of_heap (j := 3) HQ2.out.2.1
              have z4 := cell_of_heap (j := 4) HQ2.out.2.1
              have z5 := cell_of_heap (j := 5) HQ2.out.2.1
              have z6 := cell_of_heap (j := 6) HQ2.out.2.1
              have z7 := cell_of_heap (j := 7) HQ2.out.2.1
              have fb := frozen_of_heap HQ2.out.2.1
              simp at z0 z1 z2 z3 z4 z5 z6 z7
              have hcl : decide ((i : Int) < (NA : Int) - 1) = false := decide_eq_false (by omega)
              have hcn : decide (i < NA - 1) = false := decide_eq_false (by omega)
              have hji : (i : Int) - (NA : Int) + 1 = (j : Nat) := by omega
              have HSH := Lib.hid (And.intro h35 (And.intro h36 (And.intro h37 h2)))
              clear h2 h35 h36 h37 hS hl6e
              go_upto_region 21 with (fail)
              obtain ⟨wR1, hwq⟩ : ∃ X, ((((((((wq2.setCell ⟨gb, 0, none⟩ (.int .i64 t0)).setCell ⟨gb, 1, none⟩ (.string t1)).setCell ⟨gb, 2, none⟩ (.int .i64 s2)).setCell ⟨gb, 3, none⟩ (.int .i64 s3)).setCell ⟨gb, 4, none⟩ (.int .i64 s4)).setCell ⟨gb, 5, none⟩ (.int .i64 s5)).setCell ⟨gb, 6, none⟩ (.int .i64 s6)).setCell ⟨gb, 7, none⟩ (.int .i64 s7)) = X := ⟨_, rfl⟩
              rw [hwq]
              have o8 := other8 _ _ _ _ _ _ _ _ hwq
              obtain ⟨kb, bW, -⟩ := box8 HQ2.out.2.1 _ _ _ _ _ _ _ _ hwq
              have hke := (o8 ge hnge).trans ((HQ2.out.2.2.1.block ge (lt_of_heap HE.out.2.2.2.2)).trans HE.out.2.2.2.2)
              have HR1 := Lib.hid (And.intro ((o8 ga hnab).trans HQ2.out.1) (And.intro kb (And.intro (HQ2.out.2.2.1.trans (bW.mono HQ2.out.2.2.2)) hke)))
              clear hwq o8 kb bW hke fb z0 z1 z2 z3 z4 z5 z6 z7 y0 y1 y2 y3 y4 y5 y6 y7
              have z2 := cell_of_heap (j := 2) HR1.out.2.1
              have z3 := cell_of_heap (j := 3) HR1.out.2.1
              have z4 := cell_of_heap (j := 4) HR1.out.2.1
              have fb := frozen_of_heap HR1.out.2.1
              have y0 := cell_of_heap (j := 0) HR1.out.2.2.2
              have y1 := cell_of_heap (j := 1) HR1.out.2.2.2
              simp at z2 z3 z4 y0 y1
              go_upto_region 22 with (fail)
              obtain ⟨wR2, hwq⟩ : ∃ X, (((wR1.setCell ⟨gb, 2, none⟩ (.int .i64 (s2 + l5 + 1))).setCell ⟨gb, 3, none⟩ (.int .i64 (s3 + l6))).setCell ⟨gb, 4, none⟩ (.int .i64 s4)) = X := ⟨_, rfl⟩
              rw [hwq]
              obtain ⟨kb, o3, b3⟩ := gs234 HR1.out.2.1 (.int .i64 (s2 + l5 + 1)) (.int .i64 (s3 + l6)) (.int .i64 s4) hwq
              have HR2 := Lib.hid (And.intro ((o3 ga hnab).trans HR1.out.1) (And.intro kb (And.intro (HR1.out.2.2.1.trans (b3.mono HQ2.out.2.2.2)) ((o3 ge hnge).trans HR1.out.2.2.2))))
              clear hwq o3 kb b3 fb z2 z3 z4 y0 y1
              have z5 := cell_of_heap (j := 5) HR2.out.2.1
              have z6 := cell_of_heap (j := 6) HR2.out.2.1
              have z7 := cell_of_heap (j := 7) HR2.out.2.1
              have fb := frozen_of_heap HR2.out.2.1
              have y0 := cell_of_heap (j := 0) HR2.out.2.2.2
              have y1 := cell_of_heap (j := 1) HR2.out.2.2.2
              simp at z5 z6 z7 y0 y1
              go_upto_region 23 with (fail)
              obtain ⟨W, hwq⟩ : ∃ X, (((wR2.setCell ⟨gb, 5, none⟩ (.int .i64 (s5 + l5 + 1))).setCell ⟨gb, 6, none⟩ (.int .i64 (s6 + l6))).setCell ⟨gb, 7, none⟩ (.int .i64 s7)) = X := ⟨_, rfl⟩
              rw [hwq]
              obtain ⟨kb, o3, b3⟩ := gs567 HR2.out.2.1 (.int .i64 (s5 + l5 + 1)) (.int .i64 (s6 + l6)) (.int .i64 s7) hwq
              obtain ⟨h35, h36, h37, h2⟩ := HSH.out
              rw [← h35, ← h36, ← h37] at kb
              have HW := Lib.hid (And.intro ((o3 ga hnab).trans HR2.out.1) (And.intro kb (HR2.out.2.2.1.trans (b3.mono HQ2.out.2.2.2))))
              have H2 := Lib.hid h2
              clear hwq o3 kb b3 fb z5 z6 z7 y0 y1 h35 h36 h37 h2
              by_cases ht : t0 = -1
              · subst ht
                have ua0 := cell_of_heap (j := 0) HW.out.1
                have ua2 := cell_of_heap (j := 2) HW.out.1
                have ua3 := cell_of_heap (j := 3) HW.out.1
                have ua4 := cell_of_heap (j := 4) HW.out.1
                have ub2 := cell_of_heap (j := 2) HW.out.2.1
                have ub3 := cell_of_heap (j := 3) HW.out.2.1
                have ub4 := cell_of_heap (j := 4) HW.out.2.1
                have fb := frozen_of_heap HW.out.2.1
                simp at ua0 ua2 ua3 ua4 ub2 ub3 ub4
                go_upto_region 25 with (fail)
                obtain ⟨wF, hwF⟩ : ∃ X, (((W.setCell ⟨gb, 2, none⟩ (.int .i64 t2)).setCell ⟨gb, 3, none⟩ (.int .i64 t3)).setCell ⟨gb, 4, none⟩ (.int .i64 t4)) = X := ⟨_, rfl⟩
                rw [hwF]
                obtain ⟨kF, oF, bF⟩ := gs234 HW.out.2.1 (.int .i64 t2) (.int .i64 t3) (.int .i64 t4) hwF
                have kA := (oF ga hnab).trans HW.out.1
                have HBF := Lib.hid (HW.out.2.2.trans (bF.mono HQ2.out.2.2.2))
                clear hwF ua0 ua2 ua3 ua4 ub2 ub3 ub4 fb oF bF
                have ua0 := cell_of_heap (j := 0) kA
                have ub0 := cell_of_heap (j := 0) kF
                have ua1 := cell_of_heap (j := 1) kA
                have ub1 := cell_of_heap (j := 1) kF
                have ua2 := cell_of_heap (j := 2) kA
                have ub2 := cell_of_heap (j := 2) kF
                have ua3 := cell_of_heap (j := 3) kA
                have ub3 := cell_of_heap (j := 3) kF
                have ua4 := cell_of_heap (j := 4) kA
                have ub4 := cell_of_heap (j := 4) kF
                have ua5 := cell_of_heap (j := 5) kA
                have ub5 := cell_of_heap (j := 5) kF
                have ua6 := cell_of_heap (j := 6) kA
                have ub6 := cell_of_heap (j := 6) kF
                have ua7 := cell_of_heap (j := 7) kA
                have ub7 := cell_of_heap (j := 7) kF
                simp at ua0 ub0 ua1 ub1 ua2 ub2 ua3 ub3 ua4 ub4 ua5 ub5 ua6 ub6 ua7 ub7
                clear kA kF
                go_wp2_with (fail)
                go_roundg (NJ - (i + 1))
                case measure => have h1 := HI.out.1; have h2 := HI.out.2.2.2; omega
                case rel => exact ⟨i + 1, Nat.add_sub_of_le HI.out.2.2.2, by go_num, HBF.out⟩
              · have htb : (t0 == -1) = false := beq_eq_false_iff_ne.2 ht
                have h6 := H2.out.resolve_left ht
                injection h6 with h62 h63 h64
                have HWW : RowKit.Hid (_ ∧ W.heap[gb]? = some (Obj.cells #[.int .i64 t0, .string t1, .int .i64 t2, .int .i64 t3, .int .i64 t4, .int .i64 t5, .int .i64 t6, .int .i64 t7] 37 (0, 0)) ∧ _) := Lib.hid (by rw [h62, h63, h64]; exact HW.out)
                clear h62 h63 h64
                clear HW
                have HW := HWW
                have kA := HW.out.1
                have kF := HW.out.2.1
                have HBF := Lib.hid HW.out.2.2
                have ua0 := cell_of_heap (j := 0) kA
                have ub0 := cell_of_heap (j := 0) kF
                have ua1 := cell_of_heap (j := 1) kA
                have ub1 := cell_of_heap (j := 1) kF
                have ua2 := cell_of_heap (j := 2) kA
                have ub2 := cell_of_heap (j := 2) kF
                have ua3 := cell_of_heap (j := 3) kA
                have ub3 := cell_of_heap (j := 3) kF
                have ua4 := cell_of_heap (j := 4) kA
                have ub4 := cell_of_heap (j := 4) kF
                have ua5 := cell_of_heap (j := 5) kA
                have ub5 := cell_of_heap (j := 5) kF
                have ua6 := cell_of_heap (j := 6) kA
                have ub6 := cell_of_heap (j := 6) kF
                have ua7 := cell_of_heap (j := 7) kA
                have ub7 := cell_of_heap (j := 7) kF
                simp at ua0 ub0 ua1 ub1 ua2 ub2 ua3 ub3 ua4 ub4 ua5 ub5 ua6 ub6 ua7 ub7
                clear kA kF
                go_wp2_with (fail)
                go_roundg (NJ - (i + 1))
                case measure => have h1 := HI.out.1; have h2 := HI.out.2.2.2; omega
                case rel => exact ⟨i + 1, Nat.add_sub_of_le HI.out.2.2.2, by go_num, HBF.out⟩
          · have HW := Lib.hid (HE.out.2.2.2.1.trans (hb.mono HE.out.2.2.2.1.size))
            clear hb
            go_wp2_with (fail)
            go_ret
            exact ⟨rfl, HW.out⟩
end Go.Proofs.YtmfihkgbfoapaaaDoor
