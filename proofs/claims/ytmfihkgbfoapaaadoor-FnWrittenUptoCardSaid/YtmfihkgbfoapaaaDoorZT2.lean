/- laws.FnWritten, the narrowed form: the row and the card: whatever the arguments of bulk at most 1048576, the call returns true. Conditions: the row's own (the bulk; the listed variables of package unicode, utf8, io, bytes). -/
import Derived.Test.YtmfihkgbfoapaaaDoorZF5
import Derived.Test.YtmfihkgbfoapaaaDoorZU2
import Derived.Test.YtmfihkgbfoapaaaDoorRows
import Derived.Deep.Slices
import Derived.Test.YtmfihkgbfoapaaaDoorZF7
import Derived.Test.YtmfihkgbfoapaaaDoorZX1
import Derived.Test.YtmfihkgbfoapaaaDoorChecked
import Derived.Carry
import Derived.SevenTiedAt
import Derived.MakeChecks
import Derived.ProofKit
import Derived.LaidOnce
import Derived.LaidByTextLater
import Derived.Lay
import Derived.PinnedBridge
import Derived.Deep.DeepHandedRow
import Derived.Test.YtmfihkgbfoapaaaDoorTie
import Derived.Test.YtmfihkgbfoapaaaDoorCards
namespace Go.Proofs.YtmfihkgbfoapaaaDoor
set_option linter.unusedVariables false
open Go Go.RowKit Go.Lib Go.Shelf Go.ChangeShapes Go.WideShapes Go.ChangeAt Go.Deep Go.Proofs.YtmfihkgbfoapaaaDoorW.PrintWords
theorem bulk_one {H : Type} (d : DataW H) : 1 ≤ Rows.uptoBulk d := by
  cases d with
  | lit l => cases l <;> simp [Rows.uptoBulk]
  | nil => simp [Rows.uptoBulk]
  | ptr d => simp [Rows.uptoBulk]
  | slice elems spare => simp [Rows.uptoBulk]
  | agg parts => simp [Rows.uptoBulk]
  | iface t d => simp [Rows.uptoBulk]
  | map entries => simp [Rows.uptoBulk]
  | held h => simp [Rows.uptoBulk]
theorem bulk_len {H : Type} (l : List (DataW H)) : l.length ≤ Rows.uptoBulkAll l := by
  induction l with
  | nil => simp [Rows.uptoBulkAll]
  | cons x r ih => have := bulk_one x; simp only [Rows.uptoBulkAll, List.length_cons]; omega
theorem bulk_pieces {H : Type} : ∀ (ps : List PcV) (l : List (DataW H)), l.length = ps.length → (∀ i, i < ps.length → (ps.getD i pcV0).s.size + 1 ≤ Rows.uptoBulk (l.getD i .nil)) → pcSum ps ≤ Rows.uptoBulkAll l
  | [], _, _, _ => Nat.zero_le _
  | p :: ps, [], h, _ => by cases h
  | p :: ps, d :: l, h, hi => by
    have h0 := hi 0 (by rw [List.length_cons]; omega)
    have h1 := bulk_pieces ps l (by simpa using h) fun i hlt => hi (i + 1) (by rw [List.length_cons]; omega)
    unfold pcSum
    simp only [Rows.uptoBulkAll]
    have h2 : p.s.size + 1 ≤ Rows.uptoBulk d := h0
    omega
theorem bulk_agg {H : Type} (a b : DataW H) (s : List UInt8) : s.length + 1 ≤ Rows.uptoBulk (DataW.agg [a, b, .lit (.string s)]) := by
  simp only [Rows.uptoBulk, Rows.uptoBulkAll]
  omega
theorem wf_u64 {n : Int} (h : (Lit.int .u64 n).wf = true) : 0 ≤ n ∧ n < 18446744073709551616 := by
  obtain ⟨h1, h2⟩ := Bool.and_eq_true_iff.1 h
  have h1 := of_decide_eq_true h1
  have h2 := of_decide_eq_true h2
  have e1 : IntKind.u64.min = 0 := by kernel_rfl
  have e2 : IntKind.u64.max = 18446744073709551615 := by kernel_rfl
  omega
theorem wf_i64 {n : Int} (h : (Lit.int .i64 n).wf = true) : -9223372036854775808 ≤ n ∧ n ≤ 9223372036854775807 := by
  obtain ⟨h1, h2⟩ := Bool.and_eq_true_iff.1 h
  have h1 := of_decide_eq_true h1
  have h2 := of_decide_eq_true h2
  have e1 : IntKind.i64.min = -9223372036854775808 := by kernel_rfl
  have e2 : IntKind.i64.max = 9223372036854775807 := by kernel_rfl
  omega
theorem cells114 : Tryd.prog.cellsOf 114 = 3 := by kernel_rfl
set_option maxRecDepth 100000 in
theorem open_pieces {H : Type} {enc : TypeId × Value → H} {W : World} {base : Nat} {v1 : Value} {d1 : DataW H} {p1 : List MemPlace} (hval : Value.okWide Tryd.prog W .any base 54 v1) (h1 : DataW.Trod enc Tryd.prog W 0 (fun _ => true) true 54 v1 d1 p1) :
    ∃ a k ps, v1 = .slice a ps.length k ∧ PcAt W.heap.size W a ps ∧ (∀ p ∈ ps, 0 ≤ p.n ∧ p.n < 18446744073709551616) ∧ pcSum ps ≤ Rows.uptoBulk d1 := by
  obtain ⟨a1, len, cap, rfl⟩ := okWide_slice Tryd.underlying54 hval
  obtain ⟨fuel, hf⟩ := h1
  rcases open_slice Tryd.underlying54 hf with ⟨hcs, hx⟩ | ⟨a, len', cap', m, n, D, Pl, hcs, _, hl, hm, hmm, hx, hall⟩
  · simp [Value.cells] at hcs
    obtain ⟨rfl, rfl, rfl⟩ := hcs
    exact ⟨none, 0, [], rfl, fun h => absurd h (Nat.lt_irrefl 0), (fun p hp => by cases hp), Nat.zero_le _⟩
  · simp [Value.cells] at hcs
    obtain ⟨rfl, rfl, rfl⟩ := hcs
    simp only [if_true] at hmm
    have hv : ∀ i, i < len → ∃ q : PcV, W.cell? (a.add (i * 3)) = some (.int .i64 q.k) ∧ W.cell? (a.add (i * 3 + 1)) = some (.int .u64 q.n) ∧ W.cell? (a.add (i * 3 + 2)) = some (.string q.s) ∧ (0 ≤ q.n ∧ q.n < 18446744073709551616) ∧ q.s.size + 1 ≤ Rows.uptoBulk (D i) := by
      intro i hi
      obtain ⟨cs', g1, g2⟩ := hall i (by omega)
      rw [cells114] at g1
      obtain ⟨_, hlen, hcell⟩ := World.cells?_some g1
      obtain ⟨xs, k, hk, hxy, _, hxl, hg⟩ := DataW.trod_struct Tryd.underlying114 g2
      match xs, hxl, cs', hlen with
      | [y0, y1, y2], _, [c0, c1, c2], _ =>
        have f0 : DataW.trod enc Tryd.prog W 0 (fun _ => true) true k 3 (([c0, c1, c2].drop 0).take (Tryd.prog.cellsOf 3)) = some y0 := hg 0 _ rfl
        have f1 : DataW.trod enc Tryd.prog W 0 (fun _ => true) true k 23 (([c0, c1, c2].drop 1).take (Tryd.prog.cellsOf 23)) = some y1 := hg 1 _ rfl
        have f2 : DataW.trod enc Tryd.prog W 0 (fun _ => true) true k 9 (([c0, c1, c2].drop 2).take (Tryd.prog.cellsOf 9)) = some y2 := hg 2 _ rfl
        rw [cells3] at f0
        rw [cells23] at f1
        rw [cells9] at f2
        obtain ⟨b0, e0, z0, w0⟩ := DataW.trod_int Tryd.underlying3 f0
        obtain ⟨b1, e1, z1, w1⟩ := DataW.trod_int Tryd.underlying23 f1
        obtain ⟨b2, e2, z2, w2⟩ := DataW.trod_string Tryd.underlying9 f2
        cases e0
        cases e1
        cases e2
        cases z0
        cases z1
        cases z2
        have t0 := hcell 0 (by omega)
        have t1 := hcell 1 (by omega)
        have t2 := hcell 2 (by omega)
        rw [Go.Deep.add_add] at t0 t1 t2
        simp only [Prod.mk.injEq] at hxy
        refine ⟨⟨b0, b1, b2⟩, by simpa using t0, by simpa using t1, by simpa using t2, ?_, ?_⟩
        · exact wf_u64 w1
        · rw [hxy.1]
          have := bulk_agg (H := H) (.lit (.int .i64 b0)) (.lit (.int .u64 b1)) b2.data.toList
          rw [data_length] at this
          exact this
    haveI : Inhabited PcV := ⟨pcV0⟩
    obtain ⟨q, hq⟩ := choose_lt hv
    have hgd : ∀ j, j < len → ((List.range len).map q).getD j pcV0 = q j := fun j hj => by
      simp [List.getD_eq_getElem?_getD, hj]
    refine ⟨some a, cap, (List.range len).map q, by rw [List.length_map, List.length_range], ?_, ?_, ?_⟩
    · intro h0
      rw [List.length_map, List.length_range] at h0
      obtain ⟨ab, ao, spot⟩ := a
      have hspot : spot = none := by simpa [Addr.add] using World.cell?_spot (hq 0 h0).1
      subst hspot
      refine ⟨ab, ao, rfl, by have := lt_size (hq 0 h0).1; simpa [Addr.add] using this, fun j hj => ?_⟩
      rw [List.length_map, List.length_range] at hj
      obtain ⟨c0, c1, c2, -, -⟩ := hq j hj
      rw [Addr.add_lit] at c0 c1 c2
      rw [hgd j hj]
      exact ⟨c0, by rw [Nat.add_assoc]; exact c1, by rw [Nat.add_assoc]; exact c2⟩
    · intro p hp
      obtain ⟨j, hj, rfl⟩ := List.mem_map.1 hp
      exact (hq j (List.mem_range.1 hj)).2.2.2.1
    · simp only [Prod.mk.injEq] at hx
      rw [hx.1]
      simp only [Rows.uptoBulk]
      have h1 := bulk_pieces (H := H) ((List.range len).map q) ((List.range len).map D) (by rw [List.length_map, List.length_map]) (by
        intro i hi
        rw [List.length_map, List.length_range] at hi
        rw [hgd i hi]
        have : ((List.range len).map D).getD i .nil = D i := by simp [List.getD_eq_getElem?_getD, hi]
        rw [this]
        exact (hq i hi).2.2.2.2)
      omega
set_option maxRecDepth 100000 in
theorem open_gaps {H : Type} {enc : TypeId × Value → H} {W : World} {base : Nat} {v1 : Value} {d1 : DataW H} {p1 : List MemPlace} (hval : Value.okWide Tryd.prog W .any base 49 v1) (h1 : DataW.Trod enc Tryd.prog W 0 (fun _ => true) true 49 v1 d1 p1) :
    ∃ a k sz, v1 = .slice a sz.length k ∧ SzAt W.heap.size W a sz ∧ (∀ z ∈ sz, -9223372036854775808 ≤ z ∧ z ≤ 9223372036854775807) ∧ sz.length ≤ Rows.uptoBulk d1 := by
  obtain ⟨a1, len, cap, rfl⟩ := okWide_slice Tryd.underlying49 hval
  obtain ⟨fuel, hf⟩ := h1
  rcases open_ints Tryd.underlying49 Tryd.underlying3 cells3 hf with ⟨hcs, hx⟩ | ⟨a, len', cap', zs, hcs, _, hl, hm, hz, hx, hcell, hwz⟩
  · simp [Value.cells] at hcs
    obtain ⟨rfl, rfl, rfl⟩ := hcs
    exact ⟨none, 0, [], rfl, ⟨Nat.zero_le _, fun h => absurd h (by decide)⟩, (fun z h => by cases h), Nat.zero_le _⟩
  · simp [Value.cells] at hcs
    obtain ⟨rfl, rfl, rfl⟩ := hcs
    simp only [if_true] at hz
    have hlen : (zs.take len).length = len := by rw [List.length_take]; omega
    refine ⟨some a, cap, zs.take len, by rw [hlen], ⟨by rw [hlen]; omega, fun h0 => ?_⟩, fun z hz => wf_i64 (hwz z (List.mem_of_mem_take hz)), ?_⟩
    · rw [hlen] at h0
      obtain ⟨ab, ao, spot⟩ := a
      have hspot : spot = none := by simpa [Addr.add] using World.cell?_spot (hcell 0 (by omega))
      subst hspot
      refine ⟨ab, ao, rfl, lt_size (hcell 0 (by omega)), fun j hj => ?_⟩
      rw [hlen] at hj
      have := hcell j (by omega)
      rw [Addr.add_lit] at this
      rw [this]
      simp [List.getD_eq_getElem?_getD, List.getElem?_take_of_lt hj]
    · simp only [Prod.mk.injEq] at hx
      rw [hx.1]
      have h1 := bulk_len (H := H) (lits .i64 (zs.take len))
      have h2 : (lits (H := H) .i64 (zs.take len)).length = (zs.take len).length := by simp [lits]
      simp only [Rows.uptoBulk]
      omega
end Go.Proofs.YtmfihkgbfoapaaaDoor
namespace Go.Proofs.YtmfihkgbfoapaaaDoor
set_option linter.unusedVariables false
set_option linter.unusedSimpArgs false
open Go Go.RowKit Go.Lib Go.BigFrame Go.Proofs.YtmfihkgbfoapaaaDoorW.PrintWords
theorem lay_at (w : World) (A A2 : Option Addr) (c c2 N G : Nat) (ps : List PcV) (gaps : List Int) (SB : List UInt8) (LT : List K.S37) (n1 n3 : Nat) (hSB : YtmfihkgbfoapaaaDoor.bytesOf (layI gaps (ps.map pcOf) 0) = SB) (hLT : layT gaps (ps.map pcOf) 0 [] = LT) (h1 : SB.length = n1) (h3 : LT.length = n3)
    (hN : ps.length = N) (hG : gaps.length = G) (h : PcAt w.heap.size w A ps) (hz : SzAt w.heap.size w A2 gaps) (hl : N ≤ 1048576) (hl2 : G ≤ 1048576)
    (hok : ∀ p ∈ ps, p.s.size ≤ 1048576 ∧ 0 ≤ p.n ∧ p.n < 18446744073709551616) (hgw : ∀ z ∈ gaps, -9223372036854775808 ≤ z ∧ z ≤ 9223372036854775807) (hb : n1 ≤ 10000000000) (U : Uni w.heap.size w) :
    Calls Tryd.prog 31 #[.slice A N c, .slice A2 G c2] w fun e w' => ∃ A1 k1 A3 k3, e = .returned (.tuple #[.slice A1 n1 k1, .slice A3 n3 k3]) ∧ SrcAt w'.heap.size w' A1 k1 SB ∧ n3 ≤ k3 ∧ Kd.C K.k37 w' A3 n3 LT ∧ Below w.heap.size w w' := by
  subst hSB hLT h1 h3
  exact lay_spec w A A2 c c2 N G ps gaps hN hG h hz hl hl2 hok hgw hb U
theorem pc_ok (ps : List PcV) (hn : ∀ p ∈ ps, 0 ≤ p.n ∧ p.n < 18446744073709551616) : ∀ p ∈ ps.map pcOf, p.Ok := fun p hp => by
  obtain ⟨q, hq, rfl⟩ := List.mem_map.1 hp
  have := hn q hq
  refine ⟨kindIx_lt _, ?_⟩
  show q.n.toNat < 2 ^ 64
  omega
def wrS : Stp := ⟨false, 125, 4294977024, false, ⟨#[]⟩, ⟨#[]⟩⟩
theorem wrS_ok : wrS.Ok := ⟨by decide, by decide, by decide, by decide⟩
theorem wrS_cfg : wrS.cfg = wrC := by
  show (⟨if false = true then 1012 else 4 * 125, if false = true then 4294977024 else 4294977024, if false = false ∧ false = true then idCustom ⟨#[]⟩ ⟨#[]⟩ else idGo⟩ : Cfg) = ⟨500, 4294977024, idGo⟩
  rw [if_neg (by decide), if_neg (by decide), if_neg (by decide), show (4 : Int) * 125 = 500 by decide]
set_option maxRecDepth 100000 in
set_option maxHeartbeats 1600000 in
theorem fnwritten (w : World) (A A2 : Option Addr) (c c2 N G : Nat) (ps : List PcV) (gaps : List Int) (hN : ps.length = N) (hG : gaps.length = G) (h : PcAt w.heap.size w A ps) (hz : SzAt w.heap.size w A2 gaps) (hs1 : pcSum ps ≤ 1048576) (hs2 : G ≤ 1048576)
    (hn : ∀ p ∈ ps, 0 ≤ p.n ∧ p.n < 18446744073709551616) (hgw : ∀ z ∈ gaps, -9223372036854775808 ≤ z ∧ z ≤ 9223372036854775807) (V : Vars w.heap.size w) :
    Calls Tryd.prog 15 #[.slice A N c, .slice A2 G c2] w fun e w' => e = .returned (.bool true) ∧ Below w.heap.size w w' := by
  have hl : N ≤ 1048576 := by rw [← hN]; have := pc_len ps; omega
  have hsz : ∀ p ∈ ps, p.s.size ≤ 1048576 := fun p hp => by have := pc_le hp; omega
  have hlen := lay_len gaps ps pcOf (fun _ => rfl) 0
  have hlaw := lay_law gaps (ps.map pcOf) (pc_ok ps hn) (by omega)
  obtain ⟨SB, hSB⟩ : ∃ x, YtmfihkgbfoapaaaDoor.bytesOf (layI gaps (ps.map pcOf) 0) = x := ⟨_, rfl⟩
  obtain ⟨LT, hLT⟩ : ∃ x, layT gaps (ps.map pcOf) 0 [] = x := ⟨_, rfl⟩
  rw [hSB] at hlaw hlen
  rw [hLT, ← hlaw.2.1, ← wrS_cfg] at hlaw
  obtain ⟨n1, hn1⟩ : ∃ x, SB.length = x := ⟨_, rfl⟩
  obtain ⟨n3, hn3⟩ : ∃ x, LT.length = x := ⟨_, rfl⟩
  have hb1 : n1 ≤ 10000000000 := by omega
  have h30 := Lib.hid (fits2_yes w A c N ps hN h hl hsz)
  have h31 := Lib.hid (fun (w1 : World) (hb : Below w.heap.size w w1) => lay_at w1 A A2 c c2 N G ps gaps SB LT n1 n3 hSB hLT hn1 hn3 hN hG ((fun h0 => by obtain ⟨g, o, e, hg, hc⟩ := (h.below hb) h0; exact ⟨g, o, e, Nat.lt_of_lt_of_le hg hb.size, hc⟩)) ((hz.up hb hb.size)) hl hs2 (fun p hp => ⟨hsz p hp, hn p hp⟩) hgw hb1 ((V.move hb).mono hb.size).uni)
  have h26 := Lib.hid (fun (w2 : World) (hb : Below w.heap.size w w2) (A1 A3 : Option Addr) (k1 k3 : Nat) (hs : SrcAt w2.heap.size w2 A1 k1 SB) (hk : n3 ≤ k3) (hC : Kd.C K.k37 w2 A3 n3 LT) =>
    (show Calls Tryd.prog 26 #[.slice A1 n1 k1, .agg #[.bool false, .int .i64 125, .int .u64 4294977024, .bool false, .string ⟨#[]⟩, .string ⟨#[]⟩], .slice A3 n3 k3] w2 fun e w' => e = .returned (.bool true) ∧ Below w2.heap.size w2 w' by
      have := scanned_at w2 w2 A1 k1 SB wrS wrS_ok A3 n3 k3 LT hn3 hs (by rw [hn1]; exact hb1) ((V.move hb).mono hb.size) (Below.refl _ _) (by rw [hn3]; exact hC) (by rw [hn3]; exact hk) hlaw.1 hlaw.2.2
      rw [hn1] at this
      exact this))
  have HG := Lib.hid hs2
  have hG2 : ¬ (2147483647 : Int) < (G : Int) := by omega
  clear hN hG h hz hs1 hn hgw V hl hsz hlen hlaw hSB hLT hn1 hn3 hb1 hs2
  go_enter Tryd.func15, Tryd.ntmps15
  go_upto_region 3 with (first
    | (go_at_call 30; refine h30.out.mono ?_; rintro e w1 ⟨rfl, hb1⟩; have HB1 := Lib.hid hb1; clear hb1))
  go_upto_region 4 with (first
    | (go_at_call 31; refine (h31.out _ HB1.out).mono ?_; rintro e w2 ⟨A1, k1, A3, k3, rfl, hs, hk, hC, hb2⟩; have HB2 := Lib.hid (And.intro (HB1.out.trans (hb2.mono HB1.out.size)) (And.intro hs (And.intro hk hC))); clear hb2 hs hk hC))
  go_wp2_with (first
    | (go_at_call 26; refine (h26.out _ HB2.out.1 _ _ _ _ HB2.out.2.1 HB2.out.2.2.1 HB2.out.2.2.2).mono ?_; rintro e w3 ⟨rfl, hb3⟩; have HB3 := Lib.hid (HB2.out.1.trans (hb3.mono HB2.out.1.size)); clear hb3))
  go_ret
  exact ⟨rfl, HB3.out⟩
end Go.Proofs.YtmfihkgbfoapaaaDoor
namespace Go.Proofs.YtmfihkgbfoapaaaDoor
set_option linter.unusedVariables false
open Go Go.RowKit Go.Lib Go.Shelf Go.ChangeShapes Go.WideShapes Go.ChangeAt
theorem own : ownKnob Tryd.prog.godebug = none := by kernel_rfl
theorem laidOut : laidOutB Tryd.prog = true := by kernel_rfl
set_option maxRecDepth 100000 in
theorem lifted (os : Os) (started : os.Started) (H : Type) (enc : TypeId × Value → H) (F : Stop.Interp) :
    ReturnsInHanded {} Tryd.checked os 15 .any ((Rows.OpenSpec.upto Rows.fnWrittenSpec).preRow enc Tryd.prog Tryd.f15 Rows.fnWrittenUptoRow.domain false Rows.fnWrittenUptoRow.laid) (((Rows.OpenSpec.upto Rows.fnWrittenSpec).at F).post enc Tryd.prog Tryd.f15 false true false false) := by
  have hx : DataW.whole enc Tryd.prog ((World.laidAll Tryd.prog os Rows.fnWrittenUptoRow.laid).forCall (fun _ _ => 0) ⟨#[], #[.slice none 0 0, .slice none 0 0], []⟩).memory Tryd.f15.params.toList Rows.fnWrittenSpec.vars false #[Value.slice none 0 0, Value.slice none 0 0].toList 8 = some ([.nil, .nil], [], []) := by kernel_rfl
  have hok : Input.okWideB Tryd.prog ((World.laidAll Tryd.prog os Rows.fnWrittenUptoRow.laid).forCall (fun _ _ => 0) ⟨#[], #[.slice none 0 0, .slice none 0 0], []⟩) 15 ⟨#[], #[.slice none 0 0, .slice none 0 0], []⟩ = true := by kernel_rfl
  refine returnsInHanded_of_row (C := Tryd.checked) (s := Rows.OpenSpec.upto Rows.fnWrittenSpec) own started (by kernel_rfl) Tryd.func15
    ⟨World.laidAll Tryd.prog os Rows.fnWrittenUptoRow.laid, fun _ _ => 0, ⟨#[], #[.slice none 0 0, .slice none 0 0], []⟩, World.laidAll_os _ _ _, World.shaped_of_ZipB (by kernel_rfl) (by kernel_rfl), (Input.okWide_of_okWideB (base := 0) hok).1, (Input.okWide_of_okWideB hok).2,
      OpenSpec.preRow_of_cond 8 hx (by kernel_rfl) (fun k hk => by cases hk; kernel_rfl) (by kernel_rfl) (by rw [Go.MakeChecks.laidMetH_plain _ _ _ (by kernel_rfl)]; exact laidMet_laidAll _ (by kernel_rfl) (by kernel_rfl)), by
      simp only [Assume.holds]
      exact ⟨by simp, by simp, fun _ => Modest.zero, by simp, by simp⟩⟩ ?_
  intro W base args ds gs before hval0 hW _ hcond _ hL _ _
  have hval : ∀ (j : Nat) t v, Tryd.f15.params[j]? = some t → args[j]? = some v → Value.okWide Tryd.prog W .any base t v := hval0
  have hW' := hW
  obtain ⟨p, q, hA0, hV, rfl, _, _⟩ := hW
  have hA : DataW.TrodAll enc Tryd.prog W 0 (fun _ => true) true Tryd.f15.params.toList args.toList ds p := hA0
  rw [Tryd.params15] at hA hval
  obtain ⟨v0, v1, d0, d1, p0, p1, rfl, rfl, rfl, h0, h1⟩ := trodAll_two hA
  obtain ⟨rfl, rfl⟩ := trodVars_none hV
  have k0 := h0
  have lt0 : ∀ x ∈ p0, x.block < W.heap.size := by obtain ⟨m, hm⟩ := k0; exact DataW.trod_lt m _ _ _ hm
  obtain ⟨a0, c0, ps, rfl, z0, zn, zb⟩ := open_pieces (hval 0 54 v0 rfl rfl) h0
  have k1 := h1
  have lt1 : ∀ x ∈ p1, x.block < W.heap.size := by obtain ⟨m, hm⟩ := k1; exact DataW.trod_lt m _ _ _ hm
  obtain ⟨a1, c1, gaps, rfl, z1, zw, zg⟩ := open_gaps (hval 1 49 v1 rfl rfl) h1
  rw [Go.MakeChecks.laidMetH_plain _ _ _ (by kernel_rfl)] at hL
  have hbulk : Rows.uptoBulkAll [d0, d1] ≤ 1048576 := of_decide_eq_true (hcond _ rfl)
  have hs1 : pcSum ps ≤ 1048576 := by simp only [Rows.uptoBulkAll] at hbulk; omega
  have hs2 : gaps.length ≤ 1048576 := by simp only [Rows.uptoBulkAll] at hbulk; omega
  refine (fnwritten W a0 a1 c0 c1 ps.length gaps.length ps gaps rfl rfl z0 z1 hs1 hs2 zn zw (vars_of (size8 hL) hL)).mono fun e W' ⟨he, hb⟩ => ?_
  subst he
  exact ⟨_, rfl, _, _, _, [], _, [], hW', trodAll_mk1 (shut_bool Tryd.underlying4 _), trodAll_mk2 (Below.trod laidOut (by kernel_rfl) (of_decide_eq_true (by kernel_rfl)) k0 hb lt0) (Below.trod laidOut (by kernel_rfl) (of_decide_eq_true (by kernel_rfl)) k1 hb lt1), rfl, hb.frame _, fun h => by cases h⟩
theorem fnWrittenUpto_holds : Rows.FnWrittenUptoSaid :=
  OpenClaim.holds_of_cond 15 Tryd.f15 rfl rfl rfl rfl rfl rfl rfl ⟨rfl, rfl, rfl, rfl, rfl⟩ rfl rfl rfl rfl rfl (by kernel_rfl) Tryd.func15 (by kernel_rfl)
    (of_decide_eq_true (by kernel_rfl)) (by unfold Func.isWrapper; first | (rw [if_pos (by decide +kernel)]; kernel_rfl) | (rw [if_neg (by decide +kernel)]; exact ⟨rfl, rfl⟩))
    (fun os started H enc _ F => by rw [OpenClaim.pre_eq_preRow]; exact lifted os started H enc F)
theorem fnWrittenUpto_card : Rows.FnWrittenUptoCardSaid :=
  Claim7.holds_tied_plain_at .later [] _ _ _ _ fnWrittenUpto_holds (fun _ h => by cases h) (by kernel_rfl) (fun _ h => by cases h) fnWrittenUpto_row_tie rfl ⟨rfl, rfl⟩ (by kernel_rfl) rfl
    (fun f fn hf hfn => by
      obtain rfl : f = 15 := Option.some.inj ((show Tryd.prog.funcNamed "sieveplate/laws.FnWritten" = some 15 by kernel_rfl).symm.trans hf) |>.symm
      obtain rfl : fn = Tryd.f15 := (Option.some.inj (Tryd.func15.symm.trans hfn)).symm
      exact ⟨by kernel_rfl, fun j t ht => by
        rw [Tryd.params15] at ht
        have hm : t ∈ [54, 49] := by simpa using Array.mem_of_getElem? ht
        have hall : ([54, 49].all fun u => !Tryd.prog.wantsStandIn u) = true := by kernel_rfl
        exact (show Tryd.prog.wantsStandIn t = false by simpa using List.all_eq_true.1 hall t hm)⟩)
    (by kernel_rfl)
end Go.Proofs.YtmfihkgbfoapaaaDoor
