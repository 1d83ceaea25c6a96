/- Own texts E11 E12 of this claim, cut to what the claim uses. -/
import Derived.Test.YtmfihkgbfoapaaaDoorZK6
import Derived.Test.YtmfihkgbfoapaaaDoorZE10
import Derived.Test.YtmfihkgbfoapaaaDoorZK2
import Derived.Lib.SmallJoins
import Derived.OwnWalk
namespace Go.Proofs.YtmfihkgbfoapaaaDoor
open Go Go.RowKit Go.Lib Go.BigFrame Go.Proofs.YtmfihkgbfoapaaaDoorW.PrintWords
def cfg0 : Cfg := ⟨1012, 4294977024, idGo⟩
def abI : List Item := [⟨97, [97]⟩, ⟨98, [98]⟩]
theorem items_ab : items [97, 98] = abI := by kernel_rfl
theorem start_ab : startL [97, 98] = abI := by unfold startL; rw [items_ab]; rfl
theorem white_ab : isWh cfg0.white 97 = false := by kernel_rfl
theorem let_a : isLetterU 97 = true := by kernel_rfl
theorem let_b : isLetterU 98 = true := by kernel_rfl
theorem bit_ab : hasBit cfg0.mode 4 = true := by kernel_rfl
theorem one_ab : oneAt cfg0 [97, 98] abI = ⟨-2, [], 0, false⟩ := by
  unfold oneAt oneId
  rw [if_pos (show cfg0.I.p0 (chOf abI) = true by show (((97 : Int) == 95) || isLetterU 97) = true; rw [let_a]; rfl), if_pos bit_ab]
  have : more cfg0.I.p1 abI.tail = [] := by
    unfold more abI
    rw [List.tail_cons, List.dropWhile_cons_of_pos, List.dropWhile_nil]
    show (((98 : Int) == 95) || isLetterU 98 || isDigitU 98) = true
    rw [let_b]; rfl
  rw [this]
theorem scan_ab : scanGo cfg0 [97, 98] abI = ⟨-2, abI, [], 0⟩ := by
  have hm : more (isWh cfg0.white) abI = abI := more_stop (p := isWh cfg0.white) (l := abI) white_ab
  rw [scanGo_stop (by rw [hm, one_ab]), hm, one_ab]
theorem scan_end (C : Cfg) (src : List UInt8) : scanGo C src [] = ⟨-1, [], [], 0⟩ := by
  have h1 : more (isWh C.white) [] = [] := rfl
  have h2 : oneAt C src [] = ⟨-1, [], 0, false⟩ := by
    unfold oneAt
    rw [chOf_nil, if_neg (by rw [C.I.e0]; decide), if_neg (by decide), if_pos rfl]
  rw [scanGo_stop (by rw [h1, h2]), h1, h2]
def tokA : K.S37 := ⟨-2, ⟨#[97, 98]⟩, ⟨0, 1, 1⟩, ⟨2, 1, 3⟩⟩
def tokE : K.S37 := ⟨-1, ⟨#[]⟩, ⟨2, 1, 3⟩, ⟨2, 1, 3⟩⟩
def tokW : K.S37 := ⟨-1, ⟨#[]⟩, ⟨0, 0, 0⟩, ⟨2, 1, 3⟩⟩
theorem toks_ab : toks cfg0 [97, 98] (startL [97, 98]) = [⟨-2, abI, [], 0⟩, ⟨-1, [], [], 0⟩] := by
  rw [start_ab, toks_step (by rw [scan_ab]; decide) (by rw [scan_ab]; decide), scan_ab]
  show _ :: toks cfg0 [97, 98] [] = _
  rw [toks_end (by rw [scan_end]), scan_end]
theorem tokOf_a : tokOf [97, 98] ⟨-2, abI, [], 0⟩ = tokA := by
  unfold tokOf tokA lineAt colAt tokLn tokCo lineAt colAt behind
  rw [items_ab]
  rfl
theorem tokOf_e : tokOf [97, 98] ⟨-1, [], [], 0⟩ = tokE := by
  unfold tokOf tokE lineAt colAt tokLn tokCo lineAt colAt behind
  rw [items_ab]
  rfl
theorem lex_ab : lexErrs (items [97, 98]) = 0 := by rw [items_ab]; rfl
theorem mode0 : K.impl_mode.f 20 0 = some 0 := by kernel_rfl
theorem same_ab : K.laws_same.f 20 [tokA, tokE] [tokA, tokW] = some true := by kernel_rfl
theorem Vars.mono {B B' : Nat} {w : World} (h : Vars B w) (hB : B ≤ B') : Vars B' w :=
  ⟨h.utf8, h.eof, Nat.le_trans h.ge hB, ⟨fun w' hb => h.uni.props w' (hb.mono hB), fun w' hb => h.uni.letter w' (hb.mono hB), fun w' hb => h.uni.digit w' (hb.mono hB)⟩⟩
theorem add_at0 (g n : Nat) : (⟨g, 0, none⟩ : Addr).add n = ⟨g, n, none⟩ := by unfold Addr.add; split <;> simp_all
theorem C_two {w : World} {g : Nat} {x y : K.S37} {fr : Nat × Nat} (h : w.heap[g]? = some (Obj.cells #[.int .i64 x.f0, .string x.f1, .int .i64 x.f2.f0, .int .i64 x.f2.f1, .int .i64 x.f2.f2, .int .i64 x.f3.f0, .int .i64 x.f3.f1, .int .i64 x.f3.f2,
    .int .i64 y.f0, .string y.f1, .int .i64 y.f2.f0, .int .i64 y.f2.f1, .int .i64 y.f2.f2, .int .i64 y.f3.f0, .int .i64 y.f3.f1, .int .i64 y.f3.f2] 37 fr)) : Kd.C K.k37 w (some ⟨g, 0, none⟩) 2 [x, y] := by
  refine ⟨rfl, by decide, fun _ => ⟨_, rfl, fun j p hj => ?_⟩⟩
  match j, hj with
  | 0, hj =>
    injection hj with hj; subst hj
    refine ⟨_, ?_, K.k37_mk w x, fun i u hu => ?_⟩
    · rfl
    · rw [show K.k37.sz = 8 from rfl, add_at0, cell_of_heap h]
      match i, hu with
      | 0, hu => exact hu
      | 1, hu => exact hu
      | 2, hu => exact hu
      | 3, hu => exact hu
      | 4, hu => exact hu
      | 5, hu => exact hu
      | 6, hu => exact hu
      | 7, hu => exact hu
      | i + 8, hu => cases hu
  | 1, hj =>
    injection hj with hj; subst hj
    refine ⟨_, ?_, K.k37_mk w y, fun i u hu => ?_⟩
    · rfl
    · rw [show K.k37.sz = 8 from rfl, add_at0, cell_of_heap h]
      match i, hu with
      | 0, hu => exact hu
      | 1, hu => exact hu
      | 2, hu => exact hu
      | 3, hu => exact hu
      | 4, hu => exact hu
      | 5, hu => exact hu
      | 6, hu => exact hu
      | 7, hu => exact hu
      | i + 8, hu => cases hu
  | j + 2, hj => cases hj
theorem three_blocks (w : World) (o1 o2 o3 : Obj) {W : World} (hW : ((w.alloc o1).alloc o2).alloc o3 = W) :
    W.heap[w.heap.size]? = some o1 ∧ W.heap[w.heap.size + 1]? = some o2 ∧ W.heap[w.heap.size + 1 + 1]? = some o3 ∧ Below w.heap.size w W ∧ W.heap.size = w.heap.size + 1 + 1 + 1 := by
  subst hW
  have s1 : (w.alloc o1).heap.size = w.heap.size + 1 := World.size_alloc _ _
  have s2 : ((w.alloc o1).alloc o2).heap.size = w.heap.size + 1 + 1 := by rw [World.size_alloc, s1]
  have s3 : (((w.alloc o1).alloc o2).alloc o3).heap.size = w.heap.size + 1 + 1 + 1 := by rw [World.size_alloc, s2]
  refine ⟨?_, ?_, ?_, ?_, s3⟩
  · rw [Below.heap_alloc _ _ _ (by omega), Below.heap_alloc _ _ _ (by omega)]; exact heap_alloc_new w o1
  · rw [Below.heap_alloc _ _ _ (by omega), ← s1]; exact heap_alloc_new _ o2
  · rw [← s2]; exact heap_alloc_new _ o3
  · exact (((Below.refl _ w).alloc (Nat.le_refl _) _).alloc (by omega) _).alloc (by omega) _
set_option maxRecDepth 100000 in
set_option maxHeartbeats 1600000 in
theorem works_spec (w : World) (B : Nat) (hB : B ≤ w.heap.size) (hv : Vars B w) : Calls Tryd.prog 23 #[] w fun e w' => e = .returned (.bool true) ∧ Below w.heap.size w w' := by
  have hcv := Go.Joins.run_convert_bytes_const_at (P := Tryd.prog) ((w.alloc (Obj.cells #[Value.int IntKind.i64 0, Value.int IntKind.i64 1, Value.int IntKind.i64 1] 35)).alloc (Obj.cells #[Value.int IntKind.i64 2, Value.int IntKind.i64 1, Value.int IntKind.i64 3] 35)) 22 5 #[Value.int IntKind.u8 97, Value.int IntKind.u8 98] 2 2 (w.heap.size + 1 + 1) (by simp only [World.size_alloc]) Tryd.underlying22 Tryd.underlying5
  go_enter Tryd.func23, Tryd.ntmps23
  go_wp2_with (fail)
  obtain ⟨W, hW⟩ : ∃ W, ((w.alloc (Obj.cells #[Value.int IntKind.i64 0, Value.int IntKind.i64 1, Value.int IntKind.i64 1] 35)).alloc (Obj.cells #[Value.int IntKind.i64 2, Value.int IntKind.i64 1, Value.int IntKind.i64 3] 35)).alloc (Obj.cells #[Value.int IntKind.u8 97, Value.int IntKind.u8 98] 5 (2, 3)) = W := ⟨_, rfl⟩
  rw [hW]
  obtain ⟨t1, t2, t3, t4, t5⟩ := three_blocks _ _ _ _ hW
  clear hW
  have hvW : Vars W.heap.size W := (hv.move (t4.mono hB)).mono (by omega)
  have hs : SrcAt W.heap.size W (some ⟨w.heap.size + 1 + 1, 0, none⟩) 2 [97, 98] := ⟨by decide, by decide, fun _ => ⟨_, _, rfl, by omega, fun j hj => by
    rw [cell_of_heap t3]
    match j, hj with
    | 0, _ => rfl
    | 1, _ => rfl
    | j + 2, hj => exact absurd hj (by simp)⟩⟩
  have hz : SzAt W.heap.size W none [] := ⟨by decide, fun h => absurd h (by decide)⟩
  refine (tokens_run W (some ⟨w.heap.size + 1 + 1, 0, none⟩) none 2 0 [97, 98] [] true 0 0 false ⟨#[]⟩ ⟨#[]⟩ 20 0 mode0 cfg0 hs hz (by unfold Fits; decide) (by decide) hvW rfl rfl rfl ⟨by decide, by decide⟩).mono ?_
  rintro e w1 ⟨v, rfl, hR, hb1⟩
  rw [toks_ab] at hR
  rw [lex_ab, toks_ab, show wrap64 (((0 : Nat) : Int) + ((errsOf [⟨-2, abI, [], 0⟩, ⟨-1, [], [], 0⟩] : Nat) : Int)) = 0 from by kernel_rfl]
  simp only [List.map_cons, List.map_nil, tokOf_a, tokOf_e] at hR
  obtain ⟨A, c, rfl, hc, hC⟩ := Kd.R_reads hR
  obtain ⟨n, hn⟩ : ∃ n, w.heap.size = n := ⟨_, rfl⟩
  rw [hn] at t1 t2 t4 t5 ⊢
  have c1 : w1.heap[n]? = _ := (hb1.block _ (by omega)).trans t1
  have c2 : w1.heap[n + 1]? = _ := (hb1.block _ (by omega)).trans t2
  have hBB : Below n w w1 := t4.trans (hb1.mono (by omega))
  have d0 : w1.cell? ⟨n, 0, none⟩ = some (.int .i64 0) := (cell_of_heap c1 0).trans rfl
  have d1 : w1.cell? ⟨n, 1, none⟩ = some (.int .i64 1) := (cell_of_heap c1 1).trans rfl
  have d2 : w1.cell? ⟨n, 2, none⟩ = some (.int .i64 1) := (cell_of_heap c1 2).trans rfl
  have e0 : w1.cell? ⟨n + 1, 0, none⟩ = some (.int .i64 2) := (cell_of_heap c2 0).trans rfl
  have e1 : w1.cell? ⟨n + 1, 1, none⟩ = some (.int .i64 1) := (cell_of_heap c2 1).trans rfl
  have e2 : w1.cell? ⟨n + 1, 2, none⟩ = some (.int .i64 3) := (cell_of_heap c2 2).trans rfl
  have HC := Lib.hid (And.intro hc (And.intro hC hBB))
  have HN := Lib.hid hn
  clear hb1 hR t1 t2 t3 t4 t5 c1 c2 hBB hC hc hn hs hz hvW hcv hv hB
  simp only [List.length_cons, List.length_nil]
  go_wp2_with (fail)
  have h16 := heap_alloc_new w1 (Obj.cells #[Value.int IntKind.i64 (-2), Value.string { data := #[97, 98] }, Value.int IntKind.i64 0, Value.int IntKind.i64 1, Value.int IntKind.i64 1, Value.int IntKind.i64 2, Value.int IntKind.i64 1, Value.int IntKind.i64 3,
    Value.int IntKind.i64 (-1), Value.string { data := #[] }, Value.int IntKind.i64 0, Value.int IntKind.i64 0, Value.int IntKind.i64 0, Value.int IntKind.i64 2, Value.int IntKind.i64 1, Value.int IntKind.i64 3] 37)
  have hb16 : Below w1.heap.size w1 (w1.alloc (Obj.cells #[Value.int IntKind.i64 (-2), Value.string { data := #[97, 98] }, Value.int IntKind.i64 0, Value.int IntKind.i64 1, Value.int IntKind.i64 1, Value.int IntKind.i64 2, Value.int IntKind.i64 1, Value.int IntKind.i64 3,
    Value.int IntKind.i64 (-1), Value.string { data := #[] }, Value.int IntKind.i64 0, Value.int IntKind.i64 0, Value.int IntKind.i64 0, Value.int IntKind.i64 2, Value.int IntKind.i64 1, Value.int IntKind.i64 3] 37)) := (Below.refl _ w1).alloc (Nat.le_refl _) _
  have hC2 := C_two (x := tokA) (y := tokW) h16
  have hC1 := Kd.C_below HC.out.2.1 hb16
  have hsm := K.laws_same.yes 20 A c [tokA, tokE] (some ⟨w1.heap.size, 0, none⟩) 2 [tokA, tokW] _ hC1 HC.out.1 hC2 (by decide) same_ab
  refine hsm.mono ?_
  rintro e w2 ⟨rfl, hb2⟩
  have hfin : Below n w w2 := (HC.out.2.2.trans (hb16.mono (by have := HC.out.2.2.size; have := HN.out; omega))).trans (hb2.mono (by have := HC.out.2.2.size; have := hb16.size; have := HN.out; omega))
  have HF := Lib.hid hfin
  clear hfin hb2 hsm hC1 hC2 hb16 h16
  go_wp2_with (fail)
  go_ret
  exact ⟨rfl, by rw [HN.out]; exact HF.out⟩
end Go.Proofs.YtmfihkgbfoapaaaDoor
namespace Go.Proofs.YtmfihkgbfoapaaaDoor
open Go Go.RowKit Go.Lib Go.BigFrame Go.Proofs.YtmfihkgbfoapaaaDoorW.PrintWords
end Go.Proofs.YtmfihkgbfoapaaaDoor
namespace Go.Proofs.YtmfihkgbfoapaaaDoor
open Go Go.RowKit Go.Lib Go.BigFrame Go.Proofs.YtmfihkgbfoapaaaDoorW.PrintWords
theorem toks_len (C : Cfg) (src : List UInt8) (l : List Item) : 0 < (toks C src l).length ∧ (toks C src l).length ≤ l.length + 1 := by
  induction hn : l.length using Nat.strongRecOn generalizing l with
  | _ n ih =>
    subst hn
    rcases scanGo_lt C src l with h | h
    · rw [toks_end h.1]; simp
    · rw [toks_step h.1 h.2]
      have := ih _ h.2 _ rfl
      simp only [List.length_cons]
      omega
theorem SrcAt.up {B B' : Nat} {w w1 : World} {a : Option Addr} {k : Nat} {src : List UInt8} (h : SrcAt B w a k src) (hb : Below B w w1) (hB : B ≤ B') : SrcAt B' w1 a k src := by
  obtain ⟨h1, h2, h3⟩ := h.of (w' := w1) fun k hk => hb.block k hk
  refine ⟨h1, h2, fun h0 => ?_⟩
  obtain ⟨g, o, ha, hg, hc⟩ := h3 h0
  exact ⟨g, o, ha, by omega, hc⟩
theorem SzAt.nil (B : Nat) (w : World) : SzAt B w none [] := ⟨by decide, fun h => absurd h (by decide)⟩
end Go.Proofs.YtmfihkgbfoapaaaDoor
