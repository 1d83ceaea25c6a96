/- Own texts X15 of this claim, cut to what the claim uses. -/
import Derived.Test.YtmfihkgbfoapaaaDoorZX13
import Derived.Test.YtmfihkgbfoapaaaDoorZV5
namespace Go.Proofs.YtmfihkgbfoapaaaDoor
set_option linter.unusedVariables false
set_option linter.unusedSimpArgs false
open Go Go.RowKit Go.Lib Go.BigFrame Go.Proofs.YtmfihkgbfoapaaaDoorW.PrintWords
def plc (src : List UInt8) (l : List Item) : K.S35 := ⟨(offOf src l : Nat), (lineAt src l : Nat), (colAt src l : Nat)⟩
structure Rs where
  l : List Item
  mode : Int
  white : Int
  at_ : K.S35
def Rs.cfg (I : Idr) (s : Rs) : Cfg := ⟨4 * s.mode, s.white, I⟩
def Rs.step (I : Idr) (src : List UInt8) (s : Rs) (p : K.S66) : Rs × Int × ByteArray :=
  if p.f0 = 0 then (⟨(scanGo (s.cfg I) src s.l).l, s.mode, s.white, plc src (scanGo (s.cfg I) src s.l).at_⟩, (scanGo (s.cfg I) src s.l).tok, ⟨(txt src (offOf src (scanGo (s.cfg I) src s.l).at_) (scanGo (s.cfg I) src s.l).l).toArray⟩)
  else if p.f0 = 1 then (⟨s.l.tail, s.mode, s.white, ⟨0, 0, 0⟩⟩, chOf s.l, ⟨#[]⟩)
  else if p.f0 = 2 then (s, chOf s.l, ⟨#[]⟩)
  else if p.f0 = 3 then (⟨s.l, bits .and .u64 p.f1 255, s.white, s.at_⟩, 0, ⟨#[]⟩)
  else (⟨s.l, s.mode, bits .and .u64 p.f1 8589934590, s.at_⟩, 0, ⟨#[]⟩)
def Rs.saw (I : Idr) (src : List UInt8) (s : Rs) (p : K.S66) : K.S37 := ⟨(s.step I src p).2.1, (s.step I src p).2.2, (s.step I src p).1.at_, plc src (s.step I src p).1.l⟩
def Rs.run (I : Idr) (src : List UInt8) : Rs → List K.S66 → List K.S37
  | _, [] => []
  | s, p :: ps => s.saw I src p :: Rs.run I src (s.step I src p).1 ps
theorem Rs.run_len (I : Idr) (src : List UInt8) (s : Rs) (ps : List K.S66) : (Rs.run I src s ps).length = ps.length := by
  induction ps generalizing s with
  | nil => rfl
  | cons p ps ih => simp only [Rs.run, List.length_cons, ih]
def Rs.init (src : List UInt8) (mode white : Int) : Rs := ⟨items src, mode, white, ⟨0, 0, 0⟩⟩
theorem and_range (x : Int) (m : Nat) (h0 : 0 < m) (h1 : m < 2 ^ 63) : 0 ≤ bits .and .u64 x m ∧ bits .and .u64 x m ≤ m := by
  unfold bits
  have e : (BitVec.ofInt IntKind.u64.bits x &&& BitVec.ofInt IntKind.u64.bits (m : Int)).toNat ≤ m := by
    rw [BitVec.toNat_and]
    refine Nat.le_trans Nat.and_le_right ?_
    rw [BitVec.toNat_ofInt]
    show ((m : Int) % ((2 ^ 64 : Nat) : Int)).toNat ≤ m
    omega
  simp only
  rw [u64_small (by omega)]
  omega
theorem Rs.step_range {I : Idr} {src : List UInt8} {s : Rs} {p : K.S66} (h1 : 0 ≤ s.mode ∧ s.mode ≤ 255) (h2 : 0 ≤ s.white ∧ s.white ≤ 8589934590) :
    (0 ≤ (s.step I src p).1.mode ∧ (s.step I src p).1.mode ≤ 255) ∧ (0 ≤ (s.step I src p).1.white ∧ (s.step I src p).1.white ≤ 8589934590) := by
  unfold Rs.step
  repeat' split
  · exact ⟨h1, h2⟩
  · exact ⟨h1, h2⟩
  · exact ⟨h1, h2⟩
  · exact ⟨and_range p.f1 255 (by decide) (by decide), h2⟩
  · exact ⟨h1, and_range p.f1 8589934590 (by decide) (by decide)⟩
structure Mw (S : Nat → Prop) (w w1 : World) : Prop where
  os : w1.os = w.os
  tape : w1.tape = w.tape
  output : w1.output = w.output
  size : w.heap.size ≤ w1.heap.size
  block : ∀ k, k < w.heap.size → ¬ S k → w1.heap[k]? = w.heap[k]?
theorem Mw.refl (S : Nat → Prop) (w : World) : Mw S w w := ⟨rfl, rfl, rfl, Nat.le_refl _, fun _ _ _ => rfl⟩
theorem Mw.trans {S : Nat → Prop} {w w1 w2 : World} (h : Mw S w w1) (h2 : Mw S w1 w2) : Mw S w w2 :=
  ⟨h2.os.trans h.os, h2.tape.trans h.tape, h2.output.trans h.output, Nat.le_trans h.size h2.size, fun k hk hq => (h2.block k (Nat.lt_of_lt_of_le hk h.size) hq).trans (h.block k hk hq)⟩
theorem Mw.of {S : Nat → Prop} {w w1 : World} (h : Below w.heap.size w w1) : Mw S w w1 := ⟨h.os, h.tape, h.output, h.size, fun k hk _ => h.block k hk⟩
theorem Mw.sub {S T : Nat → Prop} {w w1 : World} (h : Mw S w w1) (hS : ∀ k, k < w.heap.size → S k → T k) : Mw T w w1 := ⟨h.os, h.tape, h.output, h.size, fun k hk hq => h.block k hk fun hs => hq (hS k hk hs)⟩
theorem Mw.mv {S : Nat → Prop} {q : Nat} {w w1 : World} (h : Mv q w w1) (hq : S q) : Mw S w w1 := ⟨h.os, h.tape, h.output, h.size, fun k hk hs => h.block k hk fun e => hs (e ▸ hq)⟩
theorem Mw.set {S : Nat → Prop} {w w1 : World} (h : Mw S w w1) {q : Nat} (hq : S q) (i : Nat) (v : Value) : Mw S w (w1.setCell ⟨q, i, none⟩ v) :=
  ⟨h.os, h.tape, h.output, by rw [World.size_setCell]; exact h.size, fun k hk hs => (Below.heap_setCell _ _ _ _ (by exact fun e => hs (e ▸ hq))).trans (h.block k hk hs)⟩
theorem Mw.below {S : Nat → Prop} {w w1 : World} (h : Mw S w w1) {n : Nat} (hS : ∀ k, S k → n ≤ k) (hw : n ≤ w.heap.size) : Below n w w1 := ⟨h.os, h.tape, h.output, h.size, fun k hk => h.block k (by omega) (fun hs => by have := hS k hs; omega)⟩
theorem Mw.later {S : Nat → Prop} {w w1 w2 : World} (h : Mw S w w1) (hb : Below w.heap.size w1 w2) : Mw S w w2 :=
  ⟨hb.os.trans h.os, hb.tape.trans h.tape, hb.output.trans h.output, Nat.le_trans h.size hb.size, fun k hk hq => (hb.block k hk).trans (h.block k hk hq)⟩
theorem Mw.cell {S : Nat → Prop} {w w1 : World} (h : Mw S w w1) {p : Addr} (hk : p.block < w.heap.size) (hs : ¬ S p.block) : w1.cell? p = w.cell? p := World.cell?_of_block (h.block p.block hk hs)
theorem Sp.moved {e : SpE} {w w1 : World} {mode white : Int} {l : List Item} (h : Sp e w mode white l) {S : Nat → Prop} (hm : Mw S w w1) (hq : ¬ S e.q) (hS : ∀ k, S k → e.w0.heap.size ≤ k) : Sp e w1 mode white l :=
  ⟨(hm.block e.q (lt_of_heap h.blk) hq).trans h.blk, h.base.trans (hm.below hS h.base.size), h.suf⟩
theorem Sp.set_mode {e : SpE} (ok : SpOk e) {w : World} {mode white : Int} {l : List Item} (h : Sp e w mode white l) (m : Int) : Sp e (w.setCell ⟨e.q, 2, none⟩ (.int .i64 m)) m white l :=
  ⟨Go.Lib.heap_setCell_same (i := 2) h.blk (.int .i64 m), h.base.setCell (by exact ok.q) _, h.suf⟩
theorem Sp.set_white {e : SpE} (ok : SpOk e) {w : World} {mode white : Int} {l : List Item} (h : Sp e w mode white l) (m : Int) : Sp e (w.setCell ⟨e.q, 3, none⟩ (.int .u64 m)) mode m l :=
  ⟨Go.Lib.heap_setCell_same (i := 3) h.blk (.int .u64 m), h.base.setCell (by exact ok.q) _, h.suf⟩
theorem place_stores {w4 : World} {q : Nat} {a0 a1 a2 : Value} {ty : TypeId} (h : w4.heap[q]? = some (Obj.cells #[a0, a1, a2] ty (0, 0))) (b0 b1 b2 : Value) {w5 : World} (hw : ((w4.setCell ⟨q, 0, none⟩ b0).setCell ⟨q, 1, none⟩ b1).setCell ⟨q, 2, none⟩ b2 = w5) :
    w5.heap[q]? = some (Obj.cells #[b0, b1, b2] ty (0, 0)) ∧ (∀ S : Nat → Prop, S q → Mw S w4 w5) := by
  subst hw
  have h0 := Go.Lib.heap_setCell_same (i := 0) h b0
  have h1 := Go.Lib.heap_setCell_same (i := 1) h0 b1
  have h2 := Go.Lib.heap_setCell_same (i := 2) h1 b2
  exact ⟨h2, fun S hS => ((((Mw.refl S w4).set hS 0 b0).set hS 1 b1).set hS 2 b2)⟩
def SpecScr (w : World) (src : List UInt8) (I : Idr) (mode white : Int) (ps : List K.S66) (N : Nat) (en : Ending) (w' : World) : Prop :=
  (en = .returned (.tuple #[.slice none 0 0, .bool false]) ∧ Below w.heap.size w w') ∨
  (sureL (items src) = true ∧ ∃ A c, en = .returned (.tuple #[.slice A N c, .bool true]) ∧ N ≤ c ∧ Kd.C K.k37 w' A N (Rs.run I src (Rs.init src mode white) ps) ∧ Below w.heap.size w w')
structure MidP (e : SpE) (wb : World) (q qa qs : Nat) (z : Rs) (t : Int) (s : ByteArray) (w5 : World) : Prop where
  sp : Sp e w5 z.mode z.white z.l
  at_ : w5.heap[qa]? = some (Obj.cells #[.int .i64 z.at_.f0, .int .i64 z.at_.f1, .int .i64 z.at_.f2] 35 (0, 0))
  saw : w5.heap[qs]? = some (Obj.cells #[.int .i64 t, .string s, .int .i64 0, .int .i64 0, .int .i64 0, .int .i64 0, .int .i64 0, .int .i64 0] 70 (0, 0))
  mw : Mw (fun k => k = q ∨ k = qa ∨ k = qs) wb w5
set_option maxRecDepth 100000 in
set_option maxHeartbeats 6400000 in
theorem spec_script (w : World) (a : Option Addr) (k : Nat) (src : List UInt8) (hs : SrcAt w.heap.size w a k src) (hl10 : src.length ≤ 10000000000) (s : Stp) (fo : FitOk s) (hwh : 0 ≤ spWhite s ∧ spWhite s ≤ 8589934590) (hI : IdClean s.cfg.I) (hv : Vars w.heap.size w)
    (a3 : Option Addr) (k3 : Nat) (ps : List K.S66) (hps : Kd.C K.k66 w a3 ps.length ps) (hpl : ps.length ≤ 2147483647) (hpo : ∀ p ∈ ps, okStep p) :
    Calls Tryd.prog 35 #[.slice a src.length k, .agg #[.bool s.d, .int .i64 s.m, .int .u64 s.wh, .bool s.cu, .string s.f1, .string s.f2], .slice a3 ps.length k3] w (SpecScr w src s.cfg.I (spMode s) (spWhite s) ps ps.length) := by
  have hbox := boxed w s
  have hblt := boxed_lt w (Obj.cells #[.bool s.d, .int .i64 s.m, .int .u64 s.wh, .bool s.cu, .string s.f1, .string s.f2] 25)
  have hq0 := heap_alloc_new w (Obj.cells #[.bool s.d, .int .i64 s.m, .int .u64 s.wh, .bool s.cu, .string s.f1, .string s.f2] 25)
  obtain ⟨N3, hN3⟩ : ∃ x, ps.length = x := ⟨_, rfl⟩
  have HP0 := Lib.hid (And.intro hps (And.intro hpo (And.intro hpl hN3)))
  rw [hN3]
  clear hps hpo hpl hN3
  go_enter Tryd.func35, Tryd.ntmps35
  go_upto_region 1 with (fail)
  generalize w.alloc (Obj.cells #[.bool s.d, .int .i64 s.m, .int .u64 s.wh, .bool s.cu, .string s.f1, .string s.f2] 25) = w1 at *
  have hs1 := hs.up hbox hbox.size
  have HCH := Lib.hid (chars_spec w1 a k src hs1 hl10)
  have HH := Lib.hid (And.intro hbox (And.intro hblt (And.intro hq0 (And.intro hs1 ((hv.move hbox).mono hbox.size)))))
  obtain ⟨b, hb⟩ : ∃ b, w.heap.size = b := ⟨_, rfl⟩
  rw [hb] at hq0 ⊢
  have HB := Lib.hid hb
  clear hbox hblt hs hs1 hv hb
  obtain ⟨L, hL⟩ : ∃ x, src.length = x := ⟨_, rfl⟩
  have HL := Lib.hid (And.intro hL hl10)
  rw [hL] at HCH ⊢
  clear hl10
  go_upto_region 2 with (go_at_call 39; refine (HCH.out).mono ?_; rintro en w2 (⟨hsure, rfl, hb2⟩ | ⟨hsure, A, c, rfl, hc, hC, hb2⟩))
  · have HB2 := Lib.hid hb2
    clear hb2 hsure
    go_wp2_with (fail)
    refine bodyPost_ret (v := .tuple #[.slice none 0 0, .bool false]) (by simp [results, Tryd.results35, go_sem]) rfl (.inl ⟨rfl, ?_⟩)
    exact HH.out.1.trans (HB2.out.mono HH.out.1.size)
  · obtain ⟨ad, cs, e1, -, -, hc0⟩ := Kd.C_get hC K.z90 0 (by omega) (by rw [charsOf_len]; omega)
    obtain ⟨ad', e1', z0, -⟩ := K.at_T90 hC 0 (by omega) (by rw [charsOf_len]; omega)
    rw [e1] at e1'
    injection e1' with e1'
    subst e1'
    obtain ⟨g, o, spot⟩ := ad
    have hspot : spot = none := by simpa [Addr.add] using World.cell?_spot z0
    subst hspot
    subst e1
    clear z0 hc0 cs
    have hcl := charsOf_len src (items src)
    have HC1 := Lib.hid (And.intro hsure (And.intro hC (And.intro hb2 (And.intro hc hcl))))
    obtain ⟨N1, hN1⟩ : ∃ x, (charsOf src (items src)).length = x := ⟨_, rfl⟩
    rw [hN1]
    have HN1 := Lib.hid hN1
    have hq2 := (hb2.block _ (lt_of_heap hq0)).trans hq0
    have hset := set_loads hq2
    obtain ⟨z0, z1, z2, z3, z4, z5⟩ := hset
    clear hsure hC hc hcl hN1 hq2 hq0
    go_upto_region 5 with (go_at_call 40; refine (newScanner_spec w2 g o N1 c s).mono ?_; rintro en w3 ⟨q, rfl, hqs, hblk, hb3⟩; have H3 := Lib.hid (And.intro hqs (And.intro hblk hb3)); clear hqs hblk hb3)
    obtain ⟨e, he⟩ : ∃ e : SpE, (⟨w2, q, g, o, c, src, s⟩ : SpE) = e := ⟨_, rfl⟩
    have hn1 : (items src).length + 1 = N1 := by rw [← HN1.out]; exact HC1.out.2.2.2.2.symm
    have hb2 := HC1.out.2.2.1
    have ok : SpOk e := by
      rw [← he]
      refine ⟨HC1.out.2.1, ?_, H3.out.1, by rw [HL.out.1] at *; exact HL.out.2, (HH.out.2.2.2.2.move hb2).mono hb2.size⟩
      show (items src).length + 1 ≤ c
      rw [hn1, ← HN1.out]; exact HC1.out.2.2.2.1
    have hsp : Sp e w3 (spMode s) (spWhite s) (items src) := by
      rw [← he]
      refine ⟨?_, H3.out.2.2, List.suffix_refl _⟩
      have h1 := H3.out.2.1
      rw [← hn1] at h1
      rw [h1]
      unfold spCells SpE.n
      simp
    have HE := Lib.hid (show e.w0 = w2 ∧ e.q = q ∧ e.g = g ∧ e.o = o ∧ e.c = c ∧ e.src = src ∧ e.s = s ∧ e.n + 1 = N1 from by rw [← he]; exact ⟨rfl, rfl, rfl, rfl, rfl, rfl, rfl, hn1⟩)
    have OK := Lib.hid ok
    have HNb := Lib.hid (And.intro (show N1 ≤ 10000000001 by have := items_le src; have := HL.out.1; have := HL.out.2; omega) (show N1 ≤ c by rw [← HN1.out]; exact HC1.out.2.2.2.1))
    have HFO := Lib.hid (And.intro fo (And.intro hwh hI))
    have hall : ∀ wy, Below w2.heap.size w2 wy → Below b w wy := fun wy hy => by
      have h1 := HH.out.1
      rw [HB.out] at h1
      have h2 := HH.out.1.size
      have h3 := HC1.out.2.2.1.size
      have h4 := HB.out
      exact (h1.trans (HC1.out.2.2.1.mono (by omega))).trans (hy.mono (by omega))
    have HALL := Lib.hid hall
    have HPS := Lib.hid (show ∀ wy, Below w2.heap.size w2 wy → Kd.C K.k66 wy a3 N3 ps from fun wy hy => by
      have h1 := HALL.out wy hy
      rw [← HB.out] at h1
      have h2 := Kd.C_below HP0.out.1 h1
      rw [HP0.out.2.2.2] at h2
      exact h2)
    clear ok hn1 hb2 he fo hwh hI z0 z1 z2 z3 z4 z5 hall
    go_upto_region 6 with (fail)
    obtain ⟨w4, hw4⟩ : ∃ W, w3.alloc (Obj.cells #[.int .i64 0, .int .i64 0, .int .i64 0] 35) = W := ⟨_, rfl⟩
    have hb4 : Below w3.heap.size w3 w4 := by rw [← hw4]; exact (Below.refl _ w3).alloc (Nat.le_refl _) _
    have hq4 : w4.heap[w3.heap.size]? = some (Obj.cells #[.int .i64 0, .int .i64 0, .int .i64 0] 35 (0, 0)) := by rw [← hw4]; exact heap_alloc_new _ _
    have hs4 : w4.heap.size = w3.heap.size + 1 := by rw [← hw4]; exact World.size_alloc _ _
    rw [hw4]
    obtain ⟨qa, hqa⟩ : ∃ x, w3.heap.size = x := ⟨_, rfl⟩
    have hqq : q < qa := by rw [← hqa]; exact lt_of_heap H3.out.2.1
    rw [hqa] at hq4 hs4 ⊢
    have HQ := Lib.hid (And.intro hqq (And.intro hs4 (And.intro hq4 (show w2.heap.size ≤ q from H3.out.1))))
    have SP4 := Lib.hid (hsp.old hb4)
    clear hb4 hq4 hs4 hw4 hsp hqa hqq
    obtain ⟨z0, hz0⟩ : ∃ z, Rs.init src (spMode s) (spWhite s) = z := ⟨_, rfl⟩
    have HZ0 := Lib.hid hz0
    clear hz0
    go_wp2_with (fail)
    go_loopg [6, 31] N3 (fun kk v t wr => ∃ (j : Nat) (z : Rs) (xs : List K.S37), j + kk = N3 ∧ t = .int .i64 (j : Nat) ∧ Sp e wr z.mode z.white z.l ∧ (0 ≤ z.mode ∧ z.mode ≤ 255) ∧ (0 ≤ z.white ∧ z.white ≤ 8589934590) ∧
      wr.heap[qa]? = some (Obj.cells #[.int .i64 z.at_.f0, .int .i64 z.at_.f1, .int .i64 z.at_.f2] 35 (0, 0)) ∧ Mw (fun k => k = q ∨ k = qa) w4 wr ∧ Kd.R K.k37 70 wr (qa + 1) (fun k => qa + 1 ≤ k) v xs ∧
      xs ++ Rs.run s.cfg.I src z (ps.drop j) = Rs.run s.cfg.I src z0 ps ∧ xs.length = j)
    case atStart =>
      refine ⟨0, z0, [], by omega, rfl, ?_, ?_, ?_, ?_, Mw.refl _ _, Kd.R_nil _ _ _ _ _, by simp, rfl⟩
      · rw [← HZ0.out]; exact SP4.out
      · rw [← HZ0.out]; exact spMode_range HFO.out.1.ok
      · rw [← HZ0.out]; exact HFO.out.2.1
      · rw [← HZ0.out]; exact HQ.out.2.2.1
    case round =>
      obtain ⟨j, z, xs, hj, rfl, hsp, hzm, hzw, hat, hmw, hR, hru, hxl⟩ := hrel
      by_cases hlt : j < N3
      · obtain ⟨ad, e1, y0, y1⟩ := K.at_T66 (HPS.out wr (by have h1 := hsp.base; rw [HE.out.1] at h1; exact h1)) (j : Int) (by omega) (by omega)
        obtain ⟨P, hP⟩ : ∃ P, K.rd_T66 ps (j : Int) = P := ⟨_, rfl⟩
        rw [hP] at y0 y1
        have hjl : j < ps.length := by have := HP0.out.2.2.2; omega
        have hPm : P ∈ ps := by
          rw [← hP]; unfold K.rd_T66; simp [List.getD_eq_getElem?_getD, List.getElem?_eq_getElem hjl]
        have hdr : ps.drop j = P :: ps.drop (j + 1) := by
          rw [List.drop_eq_getElem_cons hjl]
          congr 1
          rw [← hP]; unfold K.rd_T66; simp [List.getD_eq_getElem?_getD, List.getElem?_eq_getElem hjl]
        have hok := HP0.out.2.1 P hPm
        have hspot : ad.spot = none := by
          obtain ⟨ad0, e0, z0', -⟩ := K.at_T66 (HPS.out wr (by have h1 := hsp.base; rw [HE.out.1] at h1; exact h1)) 0 (by omega) (by omega)
          rw [e1] at e0
          injection e0 with e0
          subst e0
          simpa [Addr.add] using World.cell?_spot z0'
        obtain ⟨d, ar⟩ := P
        obtain ⟨hd0, hd4, ha0, ha1⟩ := hok
        obtain ⟨g3, o3, spot⟩ := ad
        simp only at hspot
        subst hspot
        subst e1
        simp only [Int.toNat_natCast, Addr.add_lit] at y0 y1
        have hjb : (j : Int) ≤ 2147483647 := by have h1 := HP0.out.2.2.1; omega
        have hrs : qa + 1 ≤ wr.heap.size := by have h1 := hmw.size; have h2 := HQ.out.2.1; omega
        have HJ := Lib.hid (And.intro hj (And.intro hsp (And.intro hzm (And.intro hzw (And.intro hat (And.intro hmw (And.intro hR (And.intro hru (And.intro hxl hrs)))))))))
        have HD := Lib.hid hdr
        clear hj hsp hzm hzw hat hmw hR hru hxl hdr hP hPm hjl hrs
        simp only at hd0 hd4 ha0 ha1 y0 y1
        go_upto_block 2 with (fail)
        obtain ⟨wb, hwb⟩ : ∃ W, (wr.alloc (Obj.cells #[Value.int IntKind.i64 d, Value.int IntKind.u64 ar] 66)).alloc (Obj.cells #[.int .i64 0, .string ⟨#[]⟩, .int .i64 0, .int .i64 0, .int .i64 0, .int .i64 0, .int .i64 0, .int .i64 0] 70) = W := ⟨_, rfl⟩
        obtain ⟨qx, hqx⟩ : ∃ q, wr.heap.size = q := ⟨_, rfl⟩
        have hb0 : Below wr.heap.size wr wb := by rw [← hwb]; exact ((Below.refl _ wr).alloc (Nat.le_refl _) _).alloc (by rw [World.size_alloc]; omega) _
        have hx6 : wb.heap[qx]? = some (Obj.cells #[Value.int IntKind.i64 d, Value.int IntKind.u64 ar] 66 (0, 0)) := by rw [← hwb, ← hqx, Below.heap_alloc _ _ _ (by rw [World.size_alloc]; omega)]; exact heap_alloc_new _ _
        have hx7 : wb.heap[qx + 1]? = some (Obj.cells #[.int .i64 0, .string ⟨#[]⟩, .int .i64 0, .int .i64 0, .int .i64 0, .int .i64 0, .int .i64 0, .int .i64 0] 70 (0, 0)) := by
          have s1 : (wr.alloc (Obj.cells #[Value.int IntKind.i64 d, Value.int IntKind.u64 ar] 66)).heap.size = qx + 1 := by rw [World.size_alloc, hqx]
          rw [← hwb, ← s1]; exact heap_alloc_new _ _
        rw [hwb]
        obtain ⟨qs, hqs⟩ : ∃ q, qx + 1 = q := ⟨_, rfl⟩
        have e66 := cell_of_heap (j := 0) hx6
        have e67 := cell_of_heap (j := 1) hx6
        simp at e66 e67
        have hqab : wb.heap[qa]? = some (Obj.cells #[.int .i64 z.at_.f0, .int .i64 z.at_.f1, .int .i64 z.at_.f2] 35 (0, 0)) := (hb0.block _ (lt_of_heap HJ.out.2.2.2.2.1)).trans HJ.out.2.2.2.2.1
        rw [hqx, hqs]
        rw [hqs] at hx7
        have hsz : qa + 1 ≤ qx := by rw [← hqx]; exact HJ.out.2.2.2.2.2.2.2.2.2
        have HX0 := Lib.hid (And.intro hb0 (And.intro hx6 (And.intro hx7 (And.intro hqab (And.intro hqx (And.intro hqs hsz))))))
        have HSB := Lib.hid (HJ.out.2.1.old hb0)
        clear hwb hb0 hx6 hx7 hqab hqx hqs y0 y1 hsz
        obtain ⟨⟨z1, t1, s1⟩, hZ⟩ : ∃ Z, z.step s.cfg.I src ⟨d, ar⟩ = Z := ⟨_, rfl⟩
        have HZ := Lib.hid hZ
        clear hZ
        go_cut [6, 15, 16, 17] (fun v6 x15 x16 x17 w5 => v6 = u6 ∧ MidP e wb q qa qs z1 t1 s1 w5)
        case first =>
          have hdc : d = 0 ∨ d = 1 ∨ d = 2 ∨ d = 3 ∨ d = 4 := by omega
          rcases hdc with rfl | rfl | rfl | rfl | rfl
          · go_upto_region 14 with (go_at_call 41; refine (tokenq OK.out (by rw [HE.out.2.2.2.2.2.2.1]; exact HFO.out.1) (by rw [HE.out.2.2.2.2.2.2.1]; exact HFO.out.2.2) HE.out.2.1 HJ.out.2.2.1 HJ.out.2.2.2.1 HSB.out).mono ?_; rintro en wx ⟨kk, fr, sure, rfl, hmx, l2, hs2, hsu⟩; have SX := Lib.hid (And.intro hmx (And.intro hs2 hsu)); clear hmx hs2 hsu)
            cases sure with
            | false =>
              go_wp2_with (fail)
              refine bodyPost_ret (v := .tuple #[.slice none 0 0, .bool false]) (by simp [results, Tryd.results35, go_sem]) rfl (.inl ⟨rfl, ?_⟩)
              have hbx := SX.out.2.1.base
              rw [HE.out.1] at hbx
              first | exact HALL.out _ hbx | (rw [HB.out]; exact HALL.out _ hbx)
            | true =>
              obtain ⟨a', hsc, rfl⟩ := SX.out.2.2 rfl
              have hcf : spCfg e z.mode z.white = z.cfg s.cfg.I := by unfold spCfg Rs.cfg; rw [HE.out.2.2.2.2.2.2.1]
              rw [hcf, HE.out.2.2.2.2.2.1] at hsc
              obtain ⟨hsf1, hsf2, -⟩ := scanGo_suffix (z.cfg s.cfg.I) src z.l
              rw [hsc] at hsf1 hsf2
              simp only at hsf1 hsf2
              have hbx := SX.out.2.1.base
              have hmq := SX.out.1
              rw [HE.out.2.1] at hmq
              have haf : a' <:+ items e.src := hsf1.trans HJ.out.2.1.suf
              have hafl : a'.length ≤ e.n := haf.length_le
              have hlfl : l2.length ≤ e.n := (hsf2.trans haf).length_le
              have hplf := fun (w' : World) (hw' : Below e.w0.heap.size e.w0 w') => Sp.places OK.out hw' haf
              have htx := fun (w' : World) (hw' : Below e.w0.heap.size e.w0 w') => text_at e OK.out a k (by rw [HE.out.1, HE.out.2.2.2.2.2.1]; exact HH.out.2.2.2.1.up HC1.out.2.2.1 HC1.out.2.2.1.size) w' hw' a' l2 haf hsf2
              obtain ⟨i2, hi2⟩ : ∃ x, e.n - l2.length = x := ⟨_, rfl⟩
              obtain ⟨f, hf⟩ : ∃ x, e.n - a'.length = x := ⟨_, rfl⟩
              have hcq := (SX.out.2.1.cellsq HE.out.2.1 hi2).1
              rw [hf] at hplf htx ⊢
              rw [hi2] at htx
              rw [HE.out.1, HE.out.2.2.1, HE.out.2.2.2.1, HE.out.2.2.2.2.2.1] at hplf
              rw [HE.out.1, HE.out.2.2.1, HE.out.2.2.2.1, HE.out.2.2.2.2.1, HE.out.2.2.2.2.2.1, HE.out.2.2.2.2.2.2.2, HL.out.1] at htx
              rw [HE.out.1] at hbx
              have hst : z.step s.cfg.I src ⟨0, ar⟩ = (⟨l2, z.mode, z.white, plc src a'⟩, kk, ⟨(txt src (offOf src a') l2).toArray⟩) := by unfold Rs.step; rw [if_pos rfl, hsc]
              have hz := HZ.out
              rw [hst] at hz
              simp only [Prod.mk.injEq] at hz
              obtain ⟨hz1, rfl, hz3⟩ := hz
              rw [hz3] at htx
              obtain ⟨pf0, hpf0⟩ : ∃ x : Int, ((offOf src a' : Nat) : Int) = x := ⟨_, rfl⟩
              obtain ⟨pf1, hpf1⟩ : ∃ x : Int, ((lineAt src a' : Nat) : Int) = x := ⟨_, rfl⟩
              obtain ⟨pf2, hpf2⟩ : ∃ x : Int, ((colAt src a' : Nat) : Int) = x := ⟨_, rfl⟩
              have hpl : plc src a' = ⟨pf0, pf1, pf2⟩ := by unfold plc; rw [hpf0, hpf1, hpf2]
              rw [hpf0, hpf1, hpf2] at hplf
              rw [hpl] at hz1
              have HTX := Lib.hid htx
              have HBX := Lib.hid hbx
              have HZ1 := Lib.hid hz1
              have HMX := Lib.hid (Mw.mv (S := fun k => k = q ∨ k = qa ∨ k = qs) hmq (.inl rfl))
              have hqs1 : qs ≠ q ∧ qa ≠ q ∧ qs ≠ qa ∧ w2.heap.size ≤ qs ∧ w2.heap.size ≤ qa := by have h1 := HQ.out.1; have h2 := HX0.out.2.2.2.2; have h3 := HQ.out.2.2.2; omega
              have HQS := Lib.hid hqs1
              have HBOX := Lib.hid (And.intro ((hmq.block qs (lt_of_heap HX0.out.2.2.1) hqs1.1).trans HX0.out.2.2.1) ((hmq.block qa (lt_of_heap HX0.out.2.2.2.1) hqs1.2.1).trans HX0.out.2.2.2.1))
              have HX := Lib.hid (And.intro (fun (w' : World) (h : Mw (fun k => k = qs ∨ k = qa) wx w') => show w'.cell? ⟨q, 1, none⟩ = _ from (h.cell (p := ⟨q, 1, none⟩) (by have h1 := lt_of_heap SX.out.2.1.blk; rw [HE.out.2.1] at h1; exact h1) (fun h => h.elim (fun h => hqs1.1 h.symm) (fun h => hqs1.2.1 h.symm))).trans hcq) (fun (w' : World) (h : Mw (fun k => k = qs ∨ k = qa) wx w') => hplf w' (hbx.trans (h.below (fun k hk => by have h1 := hqs1.2.2.2.1; have h2 := hqs1.2.2.2.2; rcases hk with rfl | rfl <;> omega) hbx.size))))
              have hf1 : f < N1 := by have := HE.out.2.2.2.2.2.2.2; omega
              have hi21 : i2 < N1 := by have := HE.out.2.2.2.2.2.2.2; omega
              have hNb : N1 ≤ 10000000001 := HNb.out.1
              have hNc : N1 ≤ c := HNb.out.2
              have hnsa : ¬ qs = qa := hqs1.2.2.1
              have hnas : ¬ qa = qs := fun e => hqs1.2.2.1 e.symm
              clear hsf1 hsf2 hbx hmq haf hafl hlfl hplf htx hi2 hf hcq hpf0 hpf1 hpf2 hsc hcf hst hz1 hz3 hpl hqs1
              go_upto_region 16 with (fail)
              refine wp_region_mix3 (fun w' => Mw (fun k => k = qs ∨ k = qa) wx w') [(false, 0), (false, 1), (false, 2), (false, 3), (false, 4), (false, 5), (false, 6), (false, 7), (false, 9), (false, 10), (false, 11), (false, 12), (false, 13), (false, 14), (true, 8), (true, 15), (false, 16), (true, 17), (true, 18)] (by kernel_rfl) (by kernel_rfl) (Mw.of (Below.refl _ wx).drew) ?_
              rw [wpMix3]
              simp only [List.getElem?_toArray, List.getElem?_cons_zero, List.getElem?_cons_succ]
              refine wpQuiet_want rfl ?_
              intro Kx hKx
              refine ⟨.int .i64 kk, fun w' hw' => ?_, hKx _ ?_⟩
              · unfold Oper.quietAt
                go_simp
              clear hKx Kx
              refine wpQuiet_nil ?_
              go_simp
              rw [wpMix3]
              simp only [List.getElem?_toArray, List.getElem?_cons_zero, List.getElem?_cons_succ]
              refine wpQuiet_want rfl ?_
              intro Kx hKx
              refine ⟨.slice (some ⟨g, o, none⟩) N1 c, fun w' hw' => ?_, hKx _ ?_⟩
              · unfold Oper.quietAt
                go_simp
              clear hKx Kx
              refine wpQuiet_nil ?_
              go_simp
              rw [wpMix3]
              simp only [List.getElem?_toArray, List.getElem?_cons_zero, List.getElem?_cons_succ]
              refine wpQuiet_want rfl ?_
              intro Kx hKx
              refine ⟨.slice a L k, fun w' hw' => ?_, hKx _ ?_⟩
              · unfold Oper.quietAt
                go_simp
              clear hKx Kx
              refine wpQuiet_nil ?_
              go_simp
              rw [wpMix3]
              simp only [List.getElem?_toArray, List.getElem?_cons_zero, List.getElem?_cons_succ]
              refine wpQuiet_want rfl ?_
              intro Kx hKx
              refine ⟨.int .i64 (f : Nat), fun w' hw' => ?_, hKx _ ?_⟩
              · unfold Oper.quietAt
                go_simp
              clear hKx Kx
              refine wpQuiet_nil ?_
              go_simp
              rw [wpMix3]
              simp only [List.getElem?_toArray, List.getElem?_cons_zero, List.getElem?_cons_succ]
              refine wpQuiet_want rfl ?_
              intro Kx hKx
              refine ⟨.pointer (some ⟨q, 0, none⟩), fun w' hw' => ?_, hKx _ ?_⟩
              · unfold Oper.quietAt
                go_simp
              clear hKx Kx
              refine wpQuiet_nil ?_
              go_simp
              rw [wpMix3]
              simp only [List.getElem?_toArray, List.getElem?_cons_zero, List.getElem?_cons_succ]
              refine wpQuiet_want rfl ?_
              intro Kx hKx
              refine ⟨.pointer (some ⟨q, 0, none⟩), fun w' hw' => ?_, hKx _ ?_⟩
              · unfold Oper.quietAt
                go_simp
              clear hKx Kx
              refine wpQuiet_nil ?_
              go_simp
              rw [wpMix3]
              simp only [List.getElem?_toArray, List.getElem?_cons_zero, List.getElem?_cons_succ]
              refine wpQuiet_want rfl ?_
              intro Kx hKx
              refine ⟨.pointer (some ⟨q, 1, none⟩), fun w' hw' => ?_, hKx _ ?_⟩
              · unfold Oper.quietAt
                go_simp
              clear hKx Kx
              refine wpQuiet_nil ?_
              go_simp
              rw [wpMix3]
              simp only [List.getElem?_toArray, List.getElem?_cons_zero, List.getElem?_cons_succ]
              refine wpQuiet_want rfl ?_
              intro Kx hKx
              refine ⟨.int .i64 (i2 : Nat), fun w' hw' => ?_, hKx _ ?_⟩
              · have x1 := HX.out.1 w' hw'
                unfold Oper.quietAt
                go_simp
              clear hKx Kx
              refine wpQuiet_nil ?_
              go_simp
              rw [wpMix3]
              simp only [List.getElem?_toArray, List.getElem?_cons_zero, List.getElem?_cons_succ]
              refine wpQuiet_want rfl ?_
              intro Kx hKx
              refine ⟨.slice (some ⟨g, o, none⟩) N1 c, fun w' hw' => ?_, hKx _ ?_⟩
              · unfold Oper.quietAt
                go_simp
              clear hKx Kx
              refine wpQuiet_nil ?_
              go_simp
              rw [wpMix3]
              simp only [List.getElem?_toArray, List.getElem?_cons_zero, List.getElem?_cons_succ]
              refine wpQuiet_want rfl ?_
              intro Kx hKx
              refine ⟨.int .i64 (f : Nat), fun w' hw' => ?_, hKx _ ?_⟩
              · unfold Oper.quietAt
                go_simp
              clear hKx Kx
              refine wpQuiet_nil ?_
              go_simp
              rw [wpMix3]
              simp only [List.getElem?_toArray, List.getElem?_cons_zero, List.getElem?_cons_succ]
              refine wpQuiet_want rfl ?_
              intro Kx hKx
              refine ⟨.pointer (some ⟨g, o + f * 5, none⟩), fun w' hw' => ?_, hKx _ ?_⟩
              · unfold Oper.quietAt
                go_simp
                all_goals (first | done | omega | (rw [if_pos (by omega)]; exact ⟨rfl, rfl⟩))
              clear hKx Kx
              refine wpQuiet_nil ?_
              go_simp
              rw [wpMix3]
              simp only [List.getElem?_toArray, List.getElem?_cons_zero, List.getElem?_cons_succ]
              refine wpQuiet_want rfl ?_
              intro Kx hKx
              refine ⟨.pointer (some ⟨g, o + f * 5 + 2, none⟩), fun w' hw' => ?_, hKx _ ?_⟩
              · unfold Oper.quietAt
                go_simp
              clear hKx Kx
              refine wpQuiet_nil ?_
              go_simp
              rw [wpMix3]
              simp only [List.getElem?_toArray, List.getElem?_cons_zero, List.getElem?_cons_succ]
              refine wpQuiet_want rfl ?_
              intro Kx hKx
              refine ⟨.agg #[.int .i64 pf0, .int .i64 pf1, .int .i64 pf2], fun w' hw' => ?_, hKx _ ?_⟩
              · obtain ⟨y0, y1, y2⟩ := HX.out.2 w' hw'
                unfold Oper.quietAt
                go_simp
              clear hKx Kx
              refine wpQuiet_nil ?_
              go_simp
              rw [wpMix3]
              simp only [List.getElem?_toArray, List.getElem?_cons_zero, List.getElem?_cons_succ]
              refine wpQuiet_want rfl ?_
              intro Kx hKx
              refine ⟨.pointer (some ⟨qs, 0, none⟩), fun w' hw' => ?_, hKx _ ?_⟩
              · unfold Oper.quietAt
                go_simp
              clear hKx Kx
              refine wpQuiet_nil ?_
              go_simp
              rw [wpMix3]
              simp only [List.getElem?_toArray, List.getElem?_cons_zero, List.getElem?_cons_succ]
              go_wp2_with (go_at_call 42; refine (HTX.out _ HBX.out.drew).mono ?_; rintro en w5 ⟨rfl, hb5⟩; have hmw5 : Mw (fun k => k = qs ∨ k = qa) wx w5 := (Mw.of (Below.refl _ wx).drew).trans (Mw.of hb5); have hs5 := (hb5.block _ (lt_of_heap HBOX.out.1)).trans HBOX.out.1; have ha5 := (hb5.block _ (lt_of_heap HBOX.out.2)).trans HBOX.out.2; have HW5 := Lib.hid (And.intro hmw5 (And.intro hs5 (And.intro ha5 hb5))); have sc0 := cell_of_heap (j := 0) hs5; have sc1 := cell_of_heap (j := 1) hs5; have fz := frozen_of_heap hs5; have a0 := cell_of_heap (j := 0) ha5; have a1 := cell_of_heap (j := 1) ha5; have a2 := cell_of_heap (j := 2) ha5; have fa := frozen_of_heap ha5; simp at sc0 sc1 a0 a1 a2; clear hb5 hs5 ha5 hmw5)
              refine ⟨HW5.out.1, ?_⟩
              rw [wpMix3]
              simp only [List.getElem?_toArray, List.getElem?_cons_zero, List.getElem?_cons_succ]
              go_wp2_with (fail)
              refine ⟨HW5.out.1.set (.inl rfl) 0 _, ?_⟩
              rw [wpMix3]
              simp only [List.getElem?_toArray, List.getElem?_cons_zero, List.getElem?_cons_succ]
              refine wpQuiet_want rfl ?_
              intro Kx hKx
              refine ⟨.pointer (some ⟨qs, 1, none⟩), fun w' hw' => ?_, hKx _ ?_⟩
              · unfold Oper.quietAt
                go_simp
              clear hKx Kx
              refine wpQuiet_nil ?_
              go_simp
              rw [wpMix3]
              simp only [List.getElem?_toArray, List.getElem?_cons_zero, List.getElem?_cons_succ]
              go_wp2_with (fail)
              refine ⟨(HW5.out.1.set (.inl rfl) 0 _).set (.inl rfl) 1 _, ?_⟩
              rw [wpMix3]
              simp only [List.getElem?_toArray, List.getElem?_cons_zero, List.getElem?_cons_succ]
              go_wp2_with (fail)
              refine ⟨((((HW5.out.1.set (.inl rfl) 0 _).set (.inl rfl) 1 _).set (.inr rfl) 0 _).set (.inr rfl) 1 _).set (.inr rfl) 2 _, ?_⟩
              rw [wpMix3]
              go_wp2_with (fail)
              go_meet
              refine ⟨rfl, ?_⟩
              have hM := ((((HW5.out.1.set (S := fun k => k = qs ∨ k = qa) (.inl rfl) 0 (.int .i64 kk)).set (.inl rfl) 1 (.string s1)).set (.inr rfl) 0 (.int .i64 pf0)).set (.inr rfl) 1 (.int .i64 pf1)).set (.inr rfl) 2 (.int .i64 pf2)
              have hqs1 := HQS.out
              have m0 := Go.Lib.heap_setCell_same (i := 0) HW5.out.2.1 (.int .i64 kk)
              have m1 := Go.Lib.heap_setCell_same (i := 1) m0 (.string s1)
              have n1 : ((w5.setCell ⟨qs, 0, none⟩ (.int .i64 kk)).setCell ⟨qs, 1, none⟩ (.string s1)).heap[qa]? = some (Obj.cells #[.int .i64 z.at_.f0, .int .i64 z.at_.f1, .int .i64 z.at_.f2] 35 (0, 0)) := by
                rw [Below.heap_setCell _ _ _ _ (by exact hnas), Below.heap_setCell _ _ _ _ (by exact hnas)]; exact HW5.out.2.2.1
              obtain ⟨p1, -⟩ := place_stores n1 (.int .i64 pf0) (.int .i64 pf1) (.int .i64 pf2) rfl
              rw [← HZ1.out]
              refine ⟨SX.out.2.1.moved hM ?_ ?_, p1, ?_, HMX.out.trans (hM.sub fun k _ hk => .inr (hk.elim .inr .inl))⟩
              · rw [HE.out.2.1]; exact fun h => h.elim (fun h => hqs1.1 h.symm) (fun h => hqs1.2.1 h.symm)
              · rw [HE.out.1]; intro k hk; rcases hk with rfl | rfl
                · exact hqs1.2.2.2.1
                · exact hqs1.2.2.2.2
              · rw [Below.heap_setCell _ _ _ _ (by exact hnsa), Below.heap_setCell _ _ _ _ (by exact hnsa), Below.heap_setCell _ _ _ _ (by exact hnsa)]
                exact m1
          · have hst : z.step s.cfg.I src ⟨1, ar⟩ = (⟨z.l.tail, z.mode, z.white, ⟨0, 0, 0⟩⟩, chOf z.l, ⟨#[]⟩) := by unfold Rs.step; rw [if_neg (by simp), if_pos rfl]
            have hz := HZ.out
            rw [hst] at hz
            simp only [Prod.mk.injEq] at hz
            obtain ⟨hz1, hz2, rfl⟩ := hz
            have hpk := peek_sp e OK.out wb _ _ z.l HSB.out 0 ⟨by decide, by decide⟩
            rw [HE.out.2.1, show z.l.drop (0 : Int).toNat = z.l from rfl, hz2] at hpk
            have HPK := Lib.hid hpk
            have HZ1 := Lib.hid hz1
            have hqs1 : qs ≠ q ∧ qa ≠ q ∧ qs ≠ qa ∧ w2.heap.size ≤ qs ∧ w2.heap.size ≤ qa := by have h1 := HQ.out.1; have h2 := HX0.out.2.2.2.2; have h3 := HQ.out.2.2.2; omega
            have HQS := Lib.hid hqs1
            have hns1 : ¬ qs = q := hqs1.1
            have hns2 : ¬ q = qs := fun e => hqs1.1 e.symm
            have hna1 : ¬ qa = q := hqs1.2.1
            have hna2 : ¬ q = qa := fun e => hqs1.2.1 e.symm
            have hnsa : ¬ qs = qa := hqs1.2.2.1
            have hnas : ¬ qa = qs := fun e => hqs1.2.2.1 e.symm
            obtain ⟨i0, hi0⟩ : ∃ x, e.n - z.l.length = x := ⟨_, rfl⟩
            have hi0N : i0 < N1 := by have := HE.out.2.2.2.2.2.2.2; omega
            have hNb : N1 ≤ 10000000001 := HNb.out.1
            have hNc : N1 ≤ c := HNb.out.2
            have HI0 := Lib.hid hi0
            clear hst hz1 hpk hqs1 hi0
            go_wp2_with (first
              | (go_at_call 57; refine HPK.out.mono ?_; rintro en wp ⟨rfl, hbp⟩; have hsp := HSB.out.old hbp; have hs5 := (hbp.block _ (lt_of_heap HX0.out.2.2.1)).trans HX0.out.2.2.1; have ha5 := (hbp.block _ (lt_of_heap HX0.out.2.2.2.1)).trans HX0.out.2.2.2.1; have HW5 := Lib.hid (And.intro hsp (And.intro hs5 (And.intro ha5 hbp))); have sc0 := cell_of_heap (j := 0) hs5; have fz := frozen_of_heap hs5; have a0 := cell_of_heap (j := 0) ha5; have a1 := cell_of_heap (j := 1) ha5; have a2 := cell_of_heap (j := 2) ha5; have fa := frozen_of_heap ha5; obtain ⟨q1, fq⟩ := hsp.cellsq HE.out.2.1 HI0.out; simp at sc0 a0 a1 a2; clear hbp hs5 ha5 hsp))
            go_meet
            refine ⟨rfl, ?_⟩
            have hch : -1 ≤ t1 ∧ t1 ≤ 1114111 := by
              obtain ⟨pre, hp⟩ := HSB.out.suf
              have h1 := chOf_range hp.symm
              rw [hz2] at h1
              omega
            have hw64 : wrap64 t1 = t1 := wrap64_id (by omega) (by omega)
            rw [hw64, ← HZ1.out]
            have hqs1 := HQS.out
            obtain ⟨hsp, hs5, ha5, hbp⟩ := HW5.out
            have h1 : Sp e (wp.setCell ⟨qs, 0, none⟩ (.int .i64 t1)) z.mode z.white z.l := hsp.moved ((Mw.refl (fun k => k = qs) wp).set rfl 0 _) (by rw [HE.out.2.1]; exact hns2) (by rw [HE.out.1]; intro k hk; rw [hk]; exact hqs1.2.2.2.1)
            have hlen := h1.len
            have hdr : z.l.drop (min 1 z.l.length) = z.l.tail := by
              cases z.l with
              | nil => rfl
              | cons c t => simp
            have h2 := (h1.next OK.out (min 1 z.l.length) (Nat.min_le_right _ _) (z := min ((i0 : Int) + 1) ((N1 : Int) - 1)) (by have h3 := HE.out.2.2.2.2.2.2.2; have h4 := HI0.out; omega)).1
            rw [hdr, HE.out.2.1] at h2
            have hM := ((((Mw.refl (fun k => k = qs ∨ k = q ∨ k = qa) wp).set (.inl rfl) 0 (.int .i64 t1)).set (.inr (.inl rfl)) 1 (.int .i64 (min ((i0 : Int) + 1) ((N1 : Int) - 1)))).set (.inr (.inr rfl)) 0 (.int .i64 0)).set (.inr (.inr rfl)) 1 (.int .i64 0) |>.set (.inr (.inr rfl)) 2 (.int .i64 0)
            have n1 : ((wp.setCell ⟨qs, 0, none⟩ (.int .i64 t1)).setCell ⟨q, 1, none⟩ (.int .i64 (min ((i0 : Int) + 1) ((N1 : Int) - 1)))).heap[qa]? = some (Obj.cells #[.int .i64 z.at_.f0, .int .i64 z.at_.f1, .int .i64 z.at_.f2] 35 (0, 0)) := by
              rw [Below.heap_setCell _ _ _ _ (by exact hna1), Below.heap_setCell _ _ _ _ (by exact hnas)]; exact ha5
            obtain ⟨p1, p2⟩ := place_stores n1 (.int .i64 0) (.int .i64 0) (.int .i64 0) rfl
            have m0 := Go.Lib.heap_setCell_same (i := 0) hs5 (.int .i64 t1)
            refine ⟨h2.moved (p2 (fun k => k = qa) rfl) ?_ ?_, p1, ?_, (Mw.of hbp).trans (hM.sub fun k _ hk => ?_)⟩
            · rw [HE.out.2.1]; exact hna2
            · rw [HE.out.1]; intro k hk; rw [hk]; exact hqs1.2.2.2.2
            · rw [Below.heap_setCell _ _ _ _ (by exact hnsa), Below.heap_setCell _ _ _ _ (by exact hnsa), Below.heap_setCell _ _ _ _ (by exact hnsa), Below.heap_setCell _ _ _ _ (by exact hns1)]
              exact m0
            · rcases hk with hk | hk | hk
              · exact .inr (.inr hk)
              · exact .inl hk
              · exact .inr (.inl hk)
          · have hst : z.step s.cfg.I src ⟨2, ar⟩ = (z, chOf z.l, ⟨#[]⟩) := by unfold Rs.step; rw [if_neg (by simp), if_neg (by simp), if_pos rfl]
            have hz := HZ.out
            rw [hst] at hz
            simp only [Prod.mk.injEq] at hz
            obtain ⟨hz1, hz2, rfl⟩ := hz
            have hpk := peek_sp e OK.out wb _ _ z.l HSB.out 0 ⟨by decide, by decide⟩
            rw [HE.out.2.1, show z.l.drop (0 : Int).toNat = z.l from rfl, hz2] at hpk
            have HPK := Lib.hid hpk
            have HZ1 := Lib.hid hz1
            have hqs1 : qs ≠ q ∧ qs ≠ qa ∧ w2.heap.size ≤ qs := by have h1 := HQ.out.1; have h2 := HX0.out.2.2.2.2; have h3 := HQ.out.2.2.2; omega
            have HQS := Lib.hid hqs1
            clear hst hz1 hpk hqs1
            go_wp2_with (first
              | (go_at_call 57; refine HPK.out.mono ?_; rintro en wp ⟨rfl, hbp⟩; have hsp := HSB.out.old hbp; have hs5 := (hbp.block _ (lt_of_heap HX0.out.2.2.1)).trans HX0.out.2.2.1; have ha5 := (hbp.block _ (lt_of_heap HX0.out.2.2.2.1)).trans HX0.out.2.2.2.1; have HW5 := Lib.hid (And.intro hsp (And.intro hs5 (And.intro ha5 hbp))); have sc0 := cell_of_heap (j := 0) hs5; have fz := frozen_of_heap hs5; simp at sc0; clear hbp hs5 ha5 hsp))
            go_meet
            refine ⟨rfl, ?_⟩
            have hch : -1 ≤ t1 ∧ t1 ≤ 1114111 := by
              obtain ⟨pre, hp⟩ := HSB.out.suf
              have h1 := chOf_range hp.symm
              rw [hz2] at h1
              omega
            have hw64 : wrap64 t1 = t1 := wrap64_id (by omega) (by omega)
            rw [hw64, ← HZ1.out]
            have hqs1 := HQS.out
            obtain ⟨hsp, hs5, ha5, hbp⟩ := HW5.out
            have hM := (Mw.refl (fun k => k = qs) wp).set rfl 0 (.int .i64 t1)
            refine ⟨hsp.moved hM (by rw [HE.out.2.1]; exact fun e => hqs1.1 e.symm) (by rw [HE.out.1]; intro k hk; rw [hk]; exact hqs1.2.2), ?_, Go.Lib.heap_setCell_same (i := 0) hs5 (.int .i64 t1), (Mw.of hbp).trans (hM.sub fun k _ hk => .inr (.inr hk))⟩
            rw [Below.heap_setCell _ _ _ _ (by exact fun e => hqs1.2.1 e.symm)]; exact ha5
          · have hst : z.step s.cfg.I src ⟨3, ar⟩ = (⟨z.l, bits .and .u64 ar 255, z.white, z.at_⟩, 0, ⟨#[]⟩) := by unfold Rs.step; rw [if_neg (by simp), if_neg (by simp), if_neg (by simp), if_pos rfl]
            have hz := HZ.out
            rw [hst] at hz
            simp only [Prod.mk.injEq] at hz
            obtain ⟨hz1, rfl, rfl⟩ := hz
            have HZ1 := Lib.hid hz1
            have c2 : wb.cell? ⟨q, 2, none⟩ = some (.int .i64 z.mode) := by have := HSB.out.cells.2.2.1; rw [HE.out.2.1] at this; exact this
            have fq : ∀ j, wb.frozen? ⟨q, j, none⟩ = false := by have := frozen_of_heap HSB.out.blk; rw [HE.out.2.1] at this; exact this
            have hqs1 : qs ≠ q ∧ qa ≠ q := by have h1 := HQ.out.1; have h2 := HX0.out.2.2.2.2; omega
            have hmr : 0 ≤ bits .and .u64 ar 255 ∧ bits .and .u64 ar 255 ≤ 255 := and_range ar 255 (by decide) (by decide)
            clear hst hz1
            go_wp2_with (fail)
            go_meet
            refine ⟨rfl, ?_⟩
            have hw64 : wrap64 (bits .and .u64 ar 255) = bits .and .u64 ar 255 := wrap64_id (by omega) (by omega)
            first | rw [hw64] | skip
            rw [← HZ1.out]
            have hM := (Mw.refl (fun k => k = q ∨ k = qa ∨ k = qs) wb).set (.inl rfl) 2 (.int .i64 (bits .and .u64 ar 255))
            have h2 := HSB.out.set_mode OK.out (bits .and .u64 ar 255)
            rw [HE.out.2.1] at h2
            refine ⟨h2, ?_, ?_, hM⟩
            · rw [Below.heap_setCell _ _ _ _ (by exact hqs1.2)]; exact HX0.out.2.2.2.1
            · rw [Below.heap_setCell _ _ _ _ (by exact hqs1.1)]; exact HX0.out.2.2.1
          · have hst : z.step s.cfg.I src ⟨4, ar⟩ = (⟨z.l, z.mode, bits .and .u64 ar 8589934590, z.at_⟩, 0, ⟨#[]⟩) := by unfold Rs.step; rw [if_neg (by simp), if_neg (by simp), if_neg (by simp), if_neg (by simp)]
            have hz := HZ.out
            rw [hst] at hz
            simp only [Prod.mk.injEq] at hz
            obtain ⟨hz1, rfl, rfl⟩ := hz
            have HZ1 := Lib.hid hz1
            have c3 : wb.cell? ⟨q, 3, none⟩ = some (.int .u64 z.white) := by have := HSB.out.cells.2.2.2.1; rw [HE.out.2.1] at this; exact this
            have fq : ∀ j, wb.frozen? ⟨q, j, none⟩ = false := by have := frozen_of_heap HSB.out.blk; rw [HE.out.2.1] at this; exact this
            have hqs1 : qs ≠ q ∧ qa ≠ q := by have h1 := HQ.out.1; have h2 := HX0.out.2.2.2.2; omega
            clear hst hz1
            go_wp2_with (fail)
            go_meet
            refine ⟨rfl, ?_⟩
            rw [← HZ1.out]
            have hM := (Mw.refl (fun k => k = q ∨ k = qa ∨ k = qs) wb).set (.inl rfl) 3 (.int .u64 (bits .and .u64 ar 8589934590))
            have h2 := HSB.out.set_white OK.out (bits .and .u64 ar 8589934590)
            rw [HE.out.2.1] at h2
            refine ⟨h2, ?_, ?_, hM⟩
            · rw [Below.heap_setCell _ _ _ _ (by exact hqs1.2)]; exact HX0.out.2.2.2.1
            · rw [Below.heap_setCell _ _ _ _ (by exact hqs1.1)]; exact HX0.out.2.2.1
        case rest =>
          obtain ⟨hu6, hcut⟩ := hcut
          have HU6 := Lib.hid hu6
          clear hu6
          have hz1b : (0 ≤ z1.mode ∧ z1.mode ≤ 255) ∧ (0 ≤ z1.white ∧ z1.white ≤ 8589934590) := by
            have h1 := HJ.out.2.2.1
            have h2 := HJ.out.2.2.2.1
            have h3 := Rs.step_range (I := s.cfg.I) (src := src) (p := ⟨d, ar⟩) h1 h2
            rw [HZ.out] at h3
            exact h3
          have hspc := hcut.sp
          have hbx := hspc.base
          have hplc := fun (w' : World) (hw' : Below e.w0.heap.size e.w0 w') => Sp.places OK.out hw' hspc.suf
          have hll : z1.l.length ≤ e.n := hspc.len
          obtain ⟨i3, hi3⟩ : ∃ x, e.n - z1.l.length = x := ⟨_, rfl⟩
          have hcq := (hspc.cellsq HE.out.2.1 hi3).1
          rw [hi3] at hplc
          rw [HE.out.1, HE.out.2.2.1, HE.out.2.2.2.1, HE.out.2.2.2.2.2.1] at hplc
          rw [HE.out.1] at hbx
          obtain ⟨P0, hP0⟩ : ∃ x : Int, ((offOf src z1.l : Nat) : Int) = x := ⟨_, rfl⟩
          obtain ⟨P1, hP1⟩ : ∃ x : Int, ((lineAt src z1.l : Nat) : Int) = x := ⟨_, rfl⟩
          obtain ⟨P2, hP2⟩ : ∃ x : Int, ((colAt src z1.l : Nat) : Int) = x := ⟨_, rfl⟩
          rw [hP0, hP1, hP2] at hplc
          obtain ⟨A0, hA0⟩ : ∃ x, z1.at_.f0 = x := ⟨_, rfl⟩
          obtain ⟨A1, hA1⟩ : ∃ x, z1.at_.f1 = x := ⟨_, rfl⟩
          obtain ⟨A2, hA2⟩ : ∃ x, z1.at_.f2 = x := ⟨_, rfl⟩
          have hatc := hcut.at_
          have HAT := Lib.hid hatc
          rw [hA0, hA1, hA2] at hatc
          have hsaw : z.saw s.cfg.I src ⟨d, ar⟩ = (⟨t1, s1, ⟨A0, A1, A2⟩, ⟨P0, P1, P2⟩⟩ : K.S37) := by
            unfold Rs.saw plc
            rw [HZ.out]
            simp only
            rw [hP0, hP1, hP2, ← hA0, ← hA1, ← hA2]
          have hqs1 : qs ≠ q ∧ qa ≠ q ∧ qs ≠ qa ∧ w2.heap.size ≤ qs ∧ qa + 1 ≤ qs := by have h1 := HQ.out.1; have h2 := HX0.out.2.2.2.2; have h3 := HQ.out.2.2.2; omega
          have HQS := Lib.hid hqs1
          have HCUT := Lib.hid (And.intro hspc (And.intro hatc (And.intro hcut.saw (And.intro hcut.mw (And.intro hsaw hz1b)))))
          have HY := Lib.hid (And.intro (fun (w' : World) (h : Mw (fun k => k = qs) wc w') => show w'.cell? ⟨qa, 0, none⟩ = some (.int .i64 A0) ∧ w'.cell? ⟨qa, 1, none⟩ = some (.int .i64 A1) ∧ w'.cell? ⟨qa, 2, none⟩ = some (.int .i64 A2) from by
              have hb := (h.block qa (lt_of_heap hatc) (fun e => hqs1.2.2.1 e.symm)).trans hatc
              exact ⟨(cell_of_heap hb 0).trans rfl, (cell_of_heap hb 1).trans rfl, (cell_of_heap hb 2).trans rfl⟩)
            (And.intro (fun (w' : World) (h : Mw (fun k => k = qs) wc w') => show w'.cell? ⟨q, 1, none⟩ = _ from (h.cell (p := ⟨q, 1, none⟩) (by have h1 := lt_of_heap hspc.blk; rw [HE.out.2.1] at h1; exact h1) (fun e => hqs1.1 e.symm)).trans hcq)
              (fun (w' : World) (h : Mw (fun k => k = qs) wc w') => hplc w' (hbx.trans (h.below (fun k hk => by rw [hk]; exact hqs1.2.2.2.1) hbx.size)))))
          have hf1 : i3 < N1 := by have := HE.out.2.2.2.2.2.2.2; omega
          have hNb : N1 ≤ 10000000001 := HNb.out.1
          have hNc : N1 ≤ c := HNb.out.2
          have HC0 := Lib.hid (Mw.of (S := fun k => k = qs) (Below.refl _ wc).drew)
          clear hcut hspc hbx hplc hll hi3 hcq hP0 hP1 hP2 hA0 hA1 hA2 hatc hsaw hqs1 hz1b e66 e67
          go_upto_region 25 with (fail)
          refine wp_region_mix3 (fun w' => Mw (fun k => k = qs) wc w') [(false, 0), (false, 1), (false, 2), (false, 3), (false, 4), (false, 5), (false, 6), (false, 7), (false, 8), (false, 9), (true, 10), (false, 11), (true, 12)] (by kernel_rfl) (by kernel_rfl) HC0.out ?_
          obtain ⟨wd, hwd⟩ : ∃ W, wc.drew = W := ⟨_, rfl⟩
          have hmd : Mw (fun k => k = qs) wc wd := by rw [← hwd]; exact HC0.out
          have hsw : wd.heap[qs]? = some (Obj.cells #[.int .i64 t1, .string s1, .int .i64 0, .int .i64 0, .int .i64 0, .int .i64 0, .int .i64 0, .int .i64 0] 70 (0, 0)) := by rw [← hwd]; exact HCUT.out.2.2.1
          rw [hwd]
          have s2 := cell_of_heap (j := 2) hsw
          have s3 := cell_of_heap (j := 3) hsw
          have s4 := cell_of_heap (j := 4) hsw
          have s5 := cell_of_heap (j := 5) hsw
          have s6 := cell_of_heap (j := 6) hsw
          have s7 := cell_of_heap (j := 7) hsw
          have fs := frozen_of_heap hsw
          simp at s2 s3 s4 s5 s6 s7
          have HD0 := Lib.hid (And.intro hmd hsw)
          clear hmd hsw hwd
          rw [wpMix3]
          simp only [List.getElem?_toArray, List.getElem?_cons_zero, List.getElem?_cons_succ]
          refine wpQuiet_want rfl ?_
          intro Kx hKx
          refine ⟨.agg #[.int .i64 A0, .int .i64 A1, .int .i64 A2], fun w' hw' => ?_, hKx _ ?_⟩
          · obtain ⟨x0, x1, x2⟩ := HY.out.1 w' hw'
            unfold Oper.quietAt
            go_simp
          clear hKx Kx
          refine wpQuiet_nil ?_
          go_simp
          rw [wpMix3]
          simp only [List.getElem?_toArray, List.getElem?_cons_zero, List.getElem?_cons_succ]
          refine wpQuiet_want rfl ?_
          intro Kx hKx
          refine ⟨.slice (some ⟨g, o, none⟩) N1 c, fun w' hw' => ?_, hKx _ ?_⟩
          · unfold Oper.quietAt
            go_simp
          clear hKx Kx
          refine wpQuiet_nil ?_
          go_simp
          rw [wpMix3]
          simp only [List.getElem?_toArray, List.getElem?_cons_zero, List.getElem?_cons_succ]
          refine wpQuiet_want rfl ?_
          intro Kx hKx
          refine ⟨.pointer (some ⟨q, 0, none⟩), fun w' hw' => ?_, hKx _ ?_⟩
          · unfold Oper.quietAt
            go_simp
          clear hKx Kx
          refine wpQuiet_nil ?_
          go_simp
          rw [wpMix3]
          simp only [List.getElem?_toArray, List.getElem?_cons_zero, List.getElem?_cons_succ]
          refine wpQuiet_want rfl ?_
          intro Kx hKx
          refine ⟨.pointer (some ⟨q, 0, none⟩), fun w' hw' => ?_, hKx _ ?_⟩
          · unfold Oper.quietAt
            go_simp
          clear hKx Kx
          refine wpQuiet_nil ?_
          go_simp
          rw [wpMix3]
          simp only [List.getElem?_toArray, List.getElem?_cons_zero, List.getElem?_cons_succ]
          refine wpQuiet_want rfl ?_
          intro Kx hKx
          refine ⟨.pointer (some ⟨q, 1, none⟩), fun w' hw' => ?_, hKx _ ?_⟩
          · unfold Oper.quietAt
            go_simp
          clear hKx Kx
          refine wpQuiet_nil ?_
          go_simp
          rw [wpMix3]
          simp only [List.getElem?_toArray, List.getElem?_cons_zero, List.getElem?_cons_succ]
          refine wpQuiet_want rfl ?_
          intro Kx hKx
          refine ⟨.int .i64 (i3 : Nat), fun w' hw' => ?_, hKx _ ?_⟩
          · have x1 := HY.out.2.1 w' hw'
            unfold Oper.quietAt
            go_simp
          clear hKx Kx
          refine wpQuiet_nil ?_
          go_simp
          rw [wpMix3]
          simp only [List.getElem?_toArray, List.getElem?_cons_zero, List.getElem?_cons_succ]
          refine wpQuiet_want rfl ?_
          intro Kx hKx
          refine ⟨.pointer (some ⟨g, o + i3 * 5, none⟩), fun w' hw' => ?_, hKx _ ?_⟩
          · unfold Oper.quietAt
            go_simp
            all_goals (first | done | omega | (rw [if_pos (by omega)]; exact ⟨rfl, rfl⟩))
          clear hKx Kx
          refine wpQuiet_nil ?_
          go_simp
          rw [wpMix3]
          simp only [List.getElem?_toArray, List.getElem?_cons_zero, List.getElem?_cons_succ]
          refine wpQuiet_want rfl ?_
          intro Kx hKx
          refine ⟨.pointer (some ⟨g, o + i3 * 5 + 2, none⟩), fun w' hw' => ?_, hKx _ ?_⟩
          · unfold Oper.quietAt
            go_simp
          clear hKx Kx
          refine wpQuiet_nil ?_
          go_simp
          rw [wpMix3]
          simp only [List.getElem?_toArray, List.getElem?_cons_zero, List.getElem?_cons_succ]
          refine wpQuiet_want rfl ?_
          intro Kx hKx
          refine ⟨.agg #[.int .i64 P0, .int .i64 P1, .int .i64 P2], fun w' hw' => ?_, hKx _ ?_⟩
          · obtain ⟨y0, y1, y2⟩ := HY.out.2.2 w' hw'
            unfold Oper.quietAt
            go_simp
          clear hKx Kx
          refine wpQuiet_nil ?_
          go_simp
          rw [wpMix3]
          simp only [List.getElem?_toArray, List.getElem?_cons_zero, List.getElem?_cons_succ]
          refine wpQuiet_want rfl ?_
          intro Kx hKx
          refine ⟨.pointer (some ⟨qs, 2, none⟩), fun w' hw' => ?_, hKx _ ?_⟩
          · unfold Oper.quietAt
            go_simp
          clear hKx Kx
          refine wpQuiet_nil ?_
          go_simp
          rw [wpMix3]
          simp only [List.getElem?_toArray, List.getElem?_cons_zero, List.getElem?_cons_succ]
          go_wp2_with (fail)
          refine ⟨((HD0.out.1.set rfl 2 _).set rfl 3 _).set rfl 4 _, ?_⟩
          rw [wpMix3]
          simp only [List.getElem?_toArray, List.getElem?_cons_zero, List.getElem?_cons_succ]
          refine wpQuiet_want rfl ?_
          intro Kx hKx
          refine ⟨.pointer (some ⟨qs, 5, none⟩), fun w' hw' => ?_, hKx _ ?_⟩
          · unfold Oper.quietAt
            go_simp
          clear hKx Kx
          refine wpQuiet_nil ?_
          go_simp
          rw [wpMix3]
          simp only [List.getElem?_toArray, List.getElem?_cons_zero, List.getElem?_cons_succ]
          go_wp2_with (fail)
          refine ⟨((((((HD0.out.1.set rfl 2 _).set rfl 3 _).set rfl 4 _).set rfl 5 _).set rfl 6 _).set rfl 7 _), ?_⟩
          rw [wpMix3]
          obtain ⟨wD, hwD⟩ : ∃ W, (((((wd.setCell ⟨qs, 2, none⟩ (.int .i64 A0)).setCell ⟨qs, 3, none⟩ (.int .i64 A1)).setCell ⟨qs, 4, none⟩ (.int .i64 A2)).setCell ⟨qs, 5, none⟩ (.int .i64 P0)).setCell ⟨qs, 6, none⟩ (.int .i64 P1)).setCell ⟨qs, 7, none⟩ (.int .i64 P2) = W := ⟨_, rfl⟩
          rw [hwD]
          obtain ⟨q5, o5, b5, z5⟩ := saw_stores (w4 := wd) HD0.out.2 _ _ _ _ _ _ hwD
          have hMD : Mw (fun k => k = qs) wc wD := by rw [← hwD]; exact ((((((HD0.out.1.set rfl 2 _).set rfl 3 _).set rfl 4 _).set rfl 5 _).set rfl 6 _).set rfl 7 _)
          clear hwD s2 s3 s4 s5 s6 s7 fs
          have hrs := HJ.out.2.2.2.2.2.2.2.2.2
          have hsD : wr.heap.size ≤ wD.heap.size := Nat.le_trans HX0.out.1.size (Nat.le_trans HCUT.out.2.2.2.1.size hMD.size)
          have hR0 := HJ.out.2.2.2.2.2.2.1
          rw [← HU6.out] at hR0
          have hRD : Kd.R K.k37 70 wD (qa + 1) (fun k => qa + 1 ≤ k) u6 xs := R70_keep hR0 fun g' cs hg' h => by
            have hlt := (R70_block hR0 hg').1
            have hge : qa + 1 ≤ g' := hR0.1 g' hg'
            have hq1 := HQ.out.1
            have hx := HX0.out.2.2.2.2
            have h1 := (HX0.out.1.block g' hlt).trans h
            have h2 := (HCUT.out.2.2.2.1.block g' (lt_of_heap h1) (by omega)).trans h1
            exact (hMD.block g' (lt_of_heap h2) (by omega)).trans h2
          have c0 := cell_of_heap (j := 0) q5
          have c1 := cell_of_heap (j := 1) q5
          have c2 := cell_of_heap (j := 2) q5
          have c3 := cell_of_heap (j := 3) q5
          have c4 := cell_of_heap (j := 4) q5
          have c5 := cell_of_heap (j := 5) q5
          have c6 := cell_of_heap (j := 6) q5
          have c7 := cell_of_heap (j := 7) q5
          simp at c0 c1 c2 c3 c4 c5 c6 c7
          have HDD := Lib.hid (And.intro hMD (And.intro hRD (Nat.le_trans hrs hsD)))
          have hxj : xs.length ≤ 2147483647 := by have h1 := HJ.out.2.2.2.2.2.2.2.2.1; have h2 := hjb; omega
          clear q5 o5 b5 z5 hMD hrs hsD hR0 hRD
          go_upto_region 27 with (first | ((with_reducible refine gate_builtin (b := .append) (xs := #[.tmp 115, .tmp 117]) rfl ?_); at_builtin; refine Kd.R_append K.k37 (w0 := wD) (qa + 1) rfl (.tmp 115) (.tmp 117) 67 70 (.agg #[.int .i64 0, .string ⟨#[]⟩, .int .i64 0, .int .i64 0, .int .i64 0, .int .i64 0, .int .i64 0, .int .i64 0]) 72 rfl Tryd.underlying67 K.info70 rfl (by decide) (by omega) u6 xs ⟨t1, s1, ⟨A0, A1, A2⟩, ⟨P0, P1, P2⟩⟩ [.int .i64 t1, .string s1, .int .i64 A0, .int .i64 A1, .int .i64 A2, .int .i64 P0, .int .i64 P1, .int .i64 P2] (fun k_ => qa + 1 ≤ k_) (fun _ => False) rfl rfl ?aP (fun _ hk => hk.elim) ?aF ?aO ?aB ?aS ?aL ?_; (case aP => exact K.k37_mkM _ _ _ (⟨t1, s1, ⟨A0, A1, A2⟩, ⟨P0, P1, P2⟩⟩ : K.S37)); (case aF => intro k_ hk; exact Nat.le_trans HDD.out.2.2 hk); (case aO => exact HDD.out.2.1); (case aB => exact Below.refl _ _); (case aS => exact HDD.out.2.2); (case aL => omega); intro v1 w6 ho hb hg hat; have HAP := Lib.hid (And.intro ho hb); clear ho hb hg hat))
          clear c0 c1 c2 c3 c4 c5 c6 c7
          go_wp2_with (fail)
          obtain ⟨hj, hsp, hzm, hzw, hat, hmw, hR, hru, hxl, hrs⟩ := HJ.out
          obtain ⟨hspc, hatc, hsaw0, hmwc, hsaw, hz1b⟩ := HCUT.out
          obtain ⟨hMD, hRD, hsD⟩ := HDD.out
          obtain ⟨ho, hb⟩ := HAP.out
          have hqs1 := HQS.out
          have hx := HX0.out.2.2.2.2
          have hq1 := HQ.out
          have spD : Sp e wD z1.mode z1.white z1.l := hspc.moved hMD (by rw [HE.out.2.1]; exact fun e => hqs1.1 e.symm) (by rw [HE.out.1]; intro k hk; rw [hk]; exact hqs1.2.2.2.1)
          have sp6 : Sp e w6 z1.mode z1.white z1.l := spD.thru OK.out (n := qa + 1) (by rw [HE.out.2.1]; omega) hb
          have at6 : w6.heap[qa]? = some (Obj.cells #[.int .i64 z1.at_.f0, .int .i64 z1.at_.f1, .int .i64 z1.at_.f2] 35 (0, 0)) := (hb.block qa (by omega)).trans ((hMD.block qa (lt_of_heap HAT.out) (fun e => hqs1.2.2.1 e.symm)).trans HAT.out)
          have mw6 : Mw (fun k => k = q ∨ k = qa) w4 w6 := by
            refine ⟨hb.os.trans (hMD.os.trans (hmwc.os.trans (HX0.out.1.os.trans hmw.os))), hb.tape.trans (hMD.tape.trans (hmwc.tape.trans (HX0.out.1.tape.trans hmw.tape))), hb.output.trans (hMD.output.trans (hmwc.output.trans (HX0.out.1.output.trans hmw.output))), Nat.le_trans hmw.size (Nat.le_trans HX0.out.1.size (Nat.le_trans hmwc.size (Nat.le_trans hMD.size hb.size))), fun k hk hn => ?_⟩
            have hk1 : k < qa + 1 := by have := hq1.2.1; omega
            have hk2 : k < wr.heap.size := Nat.lt_of_lt_of_le hk hmw.size
            have hk3 : k < wb.heap.size := Nat.lt_of_lt_of_le hk2 HX0.out.1.size
            have hk4 : k < wc.heap.size := Nat.lt_of_lt_of_le hk3 hmwc.size
            refine (hb.block k hk1).trans ((hMD.block k hk4 (by omega)).trans ((hmwc.block k hk3 (by omega)).trans ((HX0.out.1.block k hk2).trans (hmw.block k hk hn))))
          rw [HD.out] at hru
          simp only [Rs.run] at hru
          rw [hsaw, HZ.out] at hru
          go_roundg (N3 - (j + 1))
          case measure => omega
          case rel => exact ⟨j + 1, z1, xs ++ [⟨t1, s1, ⟨A0, A1, A2⟩, ⟨P0, P1, P2⟩⟩], by omega, by go_num, sp6, hz1b.1, hz1b.2, at6, mw6, ho, by rw [← hru]; simp, by rw [List.length_append]; simp [hxl]⟩
      · have hje : ps.drop j = [] := List.drop_eq_nil_of_le (by have := HP0.out.2.2.2; omega)
        rw [hje] at hru
        simp only [Rs.run, List.append_nil] at hru
        have hjn : j = N3 := by omega
        subst hjn
        have HE2 := Lib.hid (And.intro hru (And.intro hR (And.intro hsp hxl)))
        clear hru hR hsp hzm hzw hat hmw hxl
        go_wp2_with (fail)
        obtain ⟨hru, hR, hsp, hxl⟩ := HE2.out
        obtain ⟨A', c', ev, hc', hC'⟩ := Kd.R_reads hR
        rw [hxl] at ev hc' hC'
        have hbx := hsp.base
        rw [HE.out.1] at hbx
        refine bodyPost_ret (v := .tuple #[.slice A' j c', .bool true]) (by simp [results, Tryd.results35, go_sem, ev]) rfl (.inr ⟨HC1.out.1, A', c', rfl, hc', ?_, ?_⟩)
        · rw [HZ0.out, ← hru]; exact hC'
        · first | exact HALL.out _ hbx | (rw [HB.out]; exact HALL.out _ hbx)
end Go.Proofs.YtmfihkgbfoapaaaDoor
