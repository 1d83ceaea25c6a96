/- Own texts X11 X12 of this claim, cut to what the claim uses. -/
import Derived.Test.YtmfihkgbfoapaaaDoorZX3
namespace Go.Proofs.YtmfihkgbfoapaaaDoor
set_option linter.unusedVariables false
set_option linter.unusedSimpArgs false
open Go Go.RowKit Go.Lib Go.BigFrame Go.Proofs.YtmfihkgbfoapaaaDoorW.PrintWords
theorem strOf_ints' (t : ByteArray) : strOfNums (ints t.data.toList) = t := by
  unfold strOfNums ints
  rw [List.map_map]
  have : ((fun n : Int => UInt8.ofNat n.toNat) ∘ fun b : UInt8 => (b.toNat : Int)) = id := by funext b; simp
  first | rw [this, List.map_id] | simp [this]
theorem sub_text' {B : Nat} {w : World} {a : Option Addr} {k : Nat} {src : List UInt8} (hs : SrcAt B w a k src) {p q : Nat} (hpq : p < q) (hq : q ≤ src.length) {t : ByteArray} (ht : t.data.toList = (src.drop p).take (q - p)) : ∀ w' : World, Below B w w' →
    (convert 22 9 (.slice (a.map fun x => x.add p) (q - p) (k - p))).run Tryd.prog w' = .ok (.string t) w' := by
  intro w' hb
  have hr := (hs.up hb (Nat.le_refl _)).reads
  have hd := hr.drop_ (c := k) p (by omega) hs.1
  rw [if_neg (by have := hs.1; omega), ints_drop] at hd
  have htk := hd.take_ (q - p) (by omega)
  rw [show (ints (src.drop p)).take (q - p) = ints ((src.drop p).take (q - p)) by simp [ints, List.map_take], ← ht] at htk
  have := Kd.C_string (P := Tryd.prog) (src := 22) (dst := 9) (c := k - p) Tryd.underlying22 Tryd.underlying5 Tryd.underlying9 (Kd.C_of_reads (readsInt_of.1 htk))
  rw [this, strOf_ints']
theorem no_text (a : Option Addr) (c : Nat) (w' : World) : (convert 22 9 (.slice a 0 c)).run Tryd.prog w' = .ok (.string ⟨#[]⟩) w' := by
  have := Kd.C_string (P := Tryd.prog) (src := 22) (dst := 9) (w := w') (A := a) (n := 0) (xs := []) (c := c) Tryd.underlying22 Tryd.underlying5 Tryd.underlying9 ⟨rfl, by decide, fun h => absurd h (Nat.lt_irrefl 0)⟩
  rw [this]; rfl
set_option maxRecDepth 100000 in
set_option maxHeartbeats 1600000 in
theorem text_at (e : SpE) (ok : SpOk e) (a : Option Addr) (k : Nat) (hs : SrcAt e.w0.heap.size e.w0 a k e.src) (w : World) (hb : Below e.w0.heap.size e.w0 w) (af lt : List Item) (haf : af <:+ items e.src) (hlt : lt <:+ af) :
    Calls Tryd.prog 42 #[.slice (some ⟨e.g, e.o, none⟩) (e.n + 1) e.c, .slice a e.src.length k, .int .i64 ((e.n - af.length : Nat) : Int), .int .i64 ((e.n - lt.length : Nat) : Int)] w fun en w' =>
      en = .returned (.string ⟨(txt e.src (offOf e.src af) lt).toArray⟩) ∧ Below w.heap.size w w' := by
  have hfl : af.length ≤ e.n := haf.length_le
  have hll : lt.length ≤ af.length := hlt.length_le
  have hdf : (items e.src).drop (e.n - af.length) = af := by
    obtain ⟨pre, hp⟩ := haf
    unfold SpE.n
    rw [← hp, List.length_append, Nat.add_sub_cancel, List.drop_left]
  have hdl : (items e.src).drop (e.n - lt.length) = lt := by
    obtain ⟨pre, hp⟩ := hlt.trans haf
    unfold SpE.n
    rw [← hp, List.length_append, Nat.add_sub_cancel, List.drop_left]
  have hom := offOf_mono hlt haf
  have hC := Kd.C_below ok.row hb
  have cell : ∀ (j : Nat), j ≤ e.n → w.cell? ⟨e.g, e.o + j * 5 + 2, none⟩ = some (.int .i64 (offOf e.src ((items e.src).drop j) : Nat)) := fun j hj => by
    obtain ⟨ad, e1, -, -, x2, -⟩ := K.at_T90 hC (j : Int) (by omega) (by rw [charsOf_len]; unfold SpE.n at hj; omega)
    injection e1 with e1
    subst e1
    rw [chars_rd e.src (items e.src) j hj] at x2
    simp only [Int.toNat_natCast, Addr.add_lit] at x2
    exact x2
  have xf := cell (e.n - af.length) (Nat.sub_le _ _)
  have xl := cell (e.n - lt.length) (Nat.sub_le _ _)
  rw [hdf] at xf
  rw [hdl] at xl
  have hn := ok.n_le
  obtain ⟨N, hN⟩ : ∃ x, e.n = x := ⟨_, rfl⟩
  rw [hN] at hfl hn xf xl ⊢
  obtain ⟨f, hf⟩ : ∃ x, N - af.length = x := ⟨_, rfl⟩
  obtain ⟨t, ht⟩ : ∃ x, N - lt.length = x := ⟨_, rfl⟩
  rw [hf] at xf ⊢
  rw [ht] at xl ⊢
  have hfN : f ≤ N := by omega
  have htN : t ≤ N := by omega
  obtain ⟨p, hp⟩ : ∃ x, offOf e.src af = x := ⟨_, rfl⟩
  obtain ⟨qq, hqq⟩ : ∃ x, offOf e.src lt = x := ⟨_, rfl⟩
  rw [hp] at xf hom ⊢
  rw [hqq] at xl hom
  obtain ⟨tx, htx⟩ : ∃ x, (⟨(txt e.src p lt).toArray⟩ : ByteArray) = x := ⟨_, rfl⟩
  rw [htx]
  have htl : tx.data.toList = (e.src.drop p).take (qq - p) := by rw [← htx]; unfold txt; rw [hqq]
  obtain ⟨L, hL⟩ : ∃ x, e.src.length = x := ⟨_, rfl⟩
  have hk := hs.1
  have hk2 := hs.2.1
  unfold maxLen at hk2
  rw [hL] at hom hk ⊢
  obtain ⟨g, hg⟩ : ∃ a, e.g = a := ⟨_, rfl⟩
  obtain ⟨o, ho⟩ : ∃ a, e.o = a := ⟨_, rfl⟩
  obtain ⟨c, hc⟩ : ∃ a, e.c = a := ⟨_, rfl⟩
  rw [hg, ho] at xf xl
  rw [hg, ho, hc]
  have hpq := hom.1
  have hqL : qq ≤ L := hom.2.2
  have HT := Lib.hid htl
  by_cases hlt2 : p < qq
  · have HCV := Lib.hid (sub_text' (hs.up hb hb.size) hlt2 (by rw [hL]; exact hqL) htl)
    have hcv := fun n => HCV.out (w.drewN n) ⟨rfl, rfl, rfl, Nat.le_refl _, fun _ _ => rfl⟩
    clear hs hb haf hlt hdf hdl hom hC cell hf ht hp hqq htx htl hN hL hg ho hc ok hfl hll HCV
    go_enter Tryd.func42, Tryd.ntmps42
    go_wp2_with (fail)
    have hpk : p < k := by omega
    have hd1 : decide (qq < p) = false := decide_eq_false (by omega)
    refine wp_region_quiet_lit (by kernel_rfl) (by kernel_rfl) ?_
    repeat (go_big_quiet_step (fail))
    refine wpQuiet_nil ?_
    intro _ hw'
    obtain ⟨nq, hw''⟩ := hw'
    subst hw''
    go_wp2_with (fail)
    go_ret
    exact ⟨rfl, ⟨rfl, rfl, rfl, Nat.le_refl _, fun _ _ => rfl⟩⟩
  · obtain rfl : qq = p := by omega
    have he : tx = ⟨#[]⟩ := by
      have h1 : tx.data.toList = [] := by rw [htl, Nat.sub_self]; simp
      have h2 : tx.data = #[] := by
        apply Array.toList_inj.1
        rw [h1]
      cases tx
      simp only at h2
      rw [h2]
    subst he
    have hcv := fun (A : Option Addr) (cc n : Nat) => no_text A cc (w.drewN n)
    clear hs hb haf hlt hdf hdl hom hC cell hf ht hp hqq htx htl hN hL hg ho hc ok hfl hll hlt2
    go_enter Tryd.func42, Tryd.ntmps42
    go_wp2_with (fail)
    have hd1 : decide (qq < qq) = false := decide_eq_false (by omega)
    rcases Nat.lt_or_ge qq k with hpk | hpk
    · refine wp_region_quiet_lit (by kernel_rfl) (by kernel_rfl) ?_
      repeat (go_big_quiet_step (fail))
      refine wpQuiet_nil ?_
      intro _ hw'
      obtain ⟨nq, hw''⟩ := hw'
      subst hw''
      go_wp2_with (fail)
      go_ret
      exact ⟨rfl, ⟨rfl, rfl, rfl, Nat.le_refl _, fun _ _ => rfl⟩⟩
    · obtain rfl : k = qq := by omega
      refine wp_region_quiet_lit (by kernel_rfl) (by kernel_rfl) ?_
      repeat (go_big_quiet_step (fail))
      refine wpQuiet_nil ?_
      intro _ hw'
      obtain ⟨nq, hw''⟩ := hw'
      subst hw''
      go_wp2_with (fail)
      go_ret
      exact ⟨rfl, ⟨rfl, rfl, rfl, Nat.le_refl _, fun _ _ => rfl⟩⟩
end Go.Proofs.YtmfihkgbfoapaaaDoor
namespace Go.Proofs.YtmfihkgbfoapaaaDoor
set_option linter.unusedVariables false
set_option linter.unusedSimpArgs false
open Go Go.RowKit Go.Lib Go.BigFrame Go.Proofs.YtmfihkgbfoapaaaDoorW.PrintWords
def spMode (s : Stp) : Int := if s.d = true then 253 else s.m
def spWhite (s : Stp) : Int := if s.d = true then 4294977024 else s.wh
set_option maxRecDepth 100000 in
set_option maxHeartbeats 1600000 in
theorem newScanner_spec (w : World) (g o n c : Nat) (s : Stp) :
    Calls Tryd.prog 40 #[.slice (some ⟨g, o, none⟩) n c, .agg #[.bool s.d, .int .i64 s.m, .int .u64 s.wh, .bool s.cu, .string s.f1, .string s.f2]] w fun en w' =>
      ∃ q, en = .returned (.pointer (some ⟨q, 0, none⟩)) ∧ w.heap.size ≤ q ∧ w'.heap[q]? = some (.cells #[.slice (some ⟨g, o, none⟩) n c, .int .i64 0, .int .i64 (spMode s), .int .u64 (spWhite s), .bool s.d, .int .i64 s.m, .int .u64 s.wh, .bool s.cu, .string s.f1, .string s.f2] 88 (0, 0)) ∧ Below w.heap.size w w' := by
  obtain ⟨d, m, wh, cu, f1, f2⟩ := s
  unfold spMode spWhite
  simp only
  have hb0 := (Below.refl w.heap.size w).alloc (Nat.le_refl _) (.cells #[.bool d, .int .i64 m, .int .u64 wh, .bool cu, .string f1, .string f2] 25)
  have hs0 : (w.alloc (.cells #[.bool d, .int .i64 m, .int .u64 wh, .bool cu, .string f1, .string f2] 25)).heap.size = w.heap.size + 1 := World.size_alloc _ _
  have hq0 := heap_alloc_new w (.cells #[.bool d, .int .i64 m, .int .u64 wh, .bool cu, .string f1, .string f2] 25)
  obtain ⟨e0, e1, e2, e3, e4, e5⟩ := set_loads hq0
  generalize hw1 : w.alloc (.cells #[.bool d, .int .i64 m, .int .u64 wh, .bool cu, .string f1, .string f2] 25) = w1 at *
  have H1 := Lib.hid (And.intro hb0 (And.intro hs0 hq0))
  clear hb0 hs0 hq0
  cases d
  · go_enter Tryd.func40, Tryd.ntmps40
    go_upto_region 2 with (fail)
    have hq2 := heap_alloc_new w1 (Obj.cells #[.slice (some ⟨g, o, none⟩) n c, .int .i64 0, .int .i64 m, .int .u64 wh, .bool false, .int .i64 m, .int .u64 wh, .bool cu, .string f1, .string f2] 88)
    have hb2 : Below w1.heap.size w1 (w1.alloc (Obj.cells #[.slice (some ⟨g, o, none⟩) n c, .int .i64 0, .int .i64 m, .int .u64 wh, .bool false, .int .i64 m, .int .u64 wh, .bool cu, .string f1, .string f2] 88)) := (Below.refl _ _).alloc (Nat.le_refl _) _
    generalize w1.alloc (Obj.cells #[.slice (some ⟨g, o, none⟩) n c, .int .i64 0, .int .i64 m, .int .u64 wh, .bool false, .int .i64 m, .int .u64 wh, .bool cu, .string f1, .string f2] 88) = w2 at hq2 hb2 ⊢
    have e0 : w2.cell? ⟨w.heap.size, 0, none⟩ = some (.bool false) := (cell_of_heap ((hb2.block _ (by have := H1.out.2.1; omega)).trans H1.out.2.2) 0).trans rfl
    obtain ⟨q, hqq⟩ : ∃ q, w1.heap.size = q := ⟨_, rfl⟩
    rw [hqq] at hq2 ⊢
    have z2 : w2.cell? ⟨q, 2, none⟩ = some (.int .i64 m) := (cell_of_heap hq2 2).trans rfl
    have z3 : w2.cell? ⟨q, 3, none⟩ = some (.int .u64 wh) := (cell_of_heap hq2 3).trans rfl
    have fz := frozen_of_heap hq2
    have HQ2 := Lib.hid (And.intro hq2 (And.intro hb2 hqq))
    clear hq2 hb2 hqq e1 e2 e3 e4 e5 hw1
    go_wp2_with (fail)
    go_ret
    refine ⟨q, rfl, by have h1 := HQ2.out.2.2; have h2 := H1.out.2.1; omega, ?_, H1.out.1.trans (HQ2.out.2.1.mono (by have h2 := H1.out.2.1; omega))⟩
    exact HQ2.out.1
  · go_enter Tryd.func40, Tryd.ntmps40
    go_upto_region 2 with (fail)
    have hq2 := heap_alloc_new w1 (Obj.cells #[.slice (some ⟨g, o, none⟩) n c, .int .i64 0, .int .i64 m, .int .u64 wh, .bool true, .int .i64 m, .int .u64 wh, .bool cu, .string f1, .string f2] 88)
    have hb2 : Below w1.heap.size w1 (w1.alloc (Obj.cells #[.slice (some ⟨g, o, none⟩) n c, .int .i64 0, .int .i64 m, .int .u64 wh, .bool true, .int .i64 m, .int .u64 wh, .bool cu, .string f1, .string f2] 88)) := (Below.refl _ _).alloc (Nat.le_refl _) _
    generalize w1.alloc (Obj.cells #[.slice (some ⟨g, o, none⟩) n c, .int .i64 0, .int .i64 m, .int .u64 wh, .bool true, .int .i64 m, .int .u64 wh, .bool cu, .string f1, .string f2] 88) = w2 at hq2 hb2 ⊢
    have e0 : w2.cell? ⟨w.heap.size, 0, none⟩ = some (.bool true) := (cell_of_heap ((hb2.block _ (by have := H1.out.2.1; omega)).trans H1.out.2.2) 0).trans rfl
    obtain ⟨q, hqq⟩ : ∃ q, w1.heap.size = q := ⟨_, rfl⟩
    rw [hqq] at hq2 ⊢
    have z2 : w2.cell? ⟨q, 2, none⟩ = some (.int .i64 m) := (cell_of_heap hq2 2).trans rfl
    have z3 : w2.cell? ⟨q, 3, none⟩ = some (.int .u64 wh) := (cell_of_heap hq2 3).trans rfl
    have fz := frozen_of_heap hq2
    have HQ2 := Lib.hid (And.intro hq2 (And.intro hb2 hqq))
    clear hq2 hb2 hqq e1 e2 e3 e4 e5 hw1
    go_wp2_with (fail)
    go_ret
    have hqs : w.heap.size ≤ q := by have h1 := HQ2.out.2.2; have h2 := H1.out.2.1; omega
    refine ⟨q, rfl, hqs, ?_, ((H1.out.1.trans (HQ2.out.2.1.mono (by have h2 := H1.out.2.1; omega))).setCell (by exact hqs) _).setCell (by exact hqs) _⟩
    have g2 := Go.Lib.heap_setCell_same (i := 2) HQ2.out.1 (.int .i64 253)
    have g3 := Go.Lib.heap_setCell_same (i := 3) g2 (.int .u64 4294977024)
    exact g3
end Go.Proofs.YtmfihkgbfoapaaaDoor
