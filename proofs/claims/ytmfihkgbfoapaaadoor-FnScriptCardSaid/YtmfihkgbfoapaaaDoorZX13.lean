/- Own texts X13 X14 of this claim, cut to what the claim uses. -/
import Derived.Test.YtmfihkgbfoapaaaDoorZX10
import Derived.Test.YtmfihkgbfoapaaaDoorZX11
import Derived.Test.YtmfihkgbfoapaaaDoorZM1
namespace Go.Proofs.YtmfihkgbfoapaaaDoor
set_option linter.unusedVariables false
set_option linter.unusedSimpArgs false
open Go Go.RowKit Go.Lib Go.BigFrame Go.Proofs.YtmfihkgbfoapaaaDoorW.PrintWords
def tokT (src : List UInt8) (g : Got) : K.S37 :=
  ⟨g.tok, ⟨(txt src (offOf src g.at_) g.l).toArray⟩, ⟨offOf src g.at_, lineAt src g.at_, colAt src g.at_⟩, ⟨offOf src g.l, lineAt src g.l, colAt src g.l⟩⟩
def SpecTok (w : World) (src : List UInt8) (C : Cfg) (en : Ending) (w' : World) : Prop :=
  (en = .returned (.tuple #[.slice none 0 0, .bool false]) ∧ Below w.heap.size w w') ∨
  (sureL (items src) = true ∧ errsOf (toks C src (items src)) = 0 ∧ ∃ A c, en = .returned (.tuple #[.slice A ((toks C src (items src)).map (tokT src)).length c, .bool true]) ∧ ((toks C src (items src)).map (tokT src)).length ≤ c ∧
    Kd.C K.k37 w' A ((toks C src (items src)).map (tokT src)).length ((toks C src (items src)).map (tokT src)) ∧ Below w.heap.size w w')
theorem Sp.places {e : SpE} (ok : SpOk e) {w : World} (hb : Below e.w0.heap.size e.w0 w) {l : List Item} (hl : l <:+ items e.src) :
    w.cell? ⟨e.g, e.o + (e.n - l.length) * 5 + 2, none⟩ = some (.int .i64 (offOf e.src l : Nat)) ∧ w.cell? ⟨e.g, e.o + (e.n - l.length) * 5 + 3, none⟩ = some (.int .i64 (lineAt e.src l : Nat)) ∧ w.cell? ⟨e.g, e.o + (e.n - l.length) * 5 + 4, none⟩ = some (.int .i64 (colAt e.src l : Nat)) := by
  have hC := Kd.C_below ok.row hb
  have hfl : l.length ≤ e.n := hl.length_le
  have hdf : (items e.src).drop (e.n - l.length) = l := by
    obtain ⟨pre, hp⟩ := hl
    unfold SpE.n
    rw [← hp, List.length_append, Nat.add_sub_cancel, List.drop_left]
  obtain ⟨ad, e1, -, -, x2, x3, x4⟩ := K.at_T90 hC ((e.n - l.length : Nat) : Int) (by omega) (by rw [charsOf_len]; unfold SpE.n at hfl ⊢; omega)
  injection e1 with e1
  subst e1
  rw [chars_rd e.src (items e.src) (e.n - l.length) (Nat.sub_le _ _), hdf] at x2 x3 x4
  simp only [Int.toNat_natCast, Addr.add_lit] at x2 x3 x4
  exact ⟨x2, x3, x4⟩
theorem spCfg_eq {e : SpE} : spCfg e (spMode e.s) (spWhite e.s) = e.s.cfg := by
  unfold spCfg spMode spWhite Stp.cfg
  cases e.s.d <;> rfl
theorem spMode_range {s : Stp} (h : s.Ok) : 0 ≤ spMode s ∧ spMode s ≤ 255 := by
  have h0 := h.m0; have h1 := h.m1; unfold spMode; split <;> omega
theorem tokenq {e : SpE} (ok : SpOk e) (fo : FitOk e.s) (hI : IdClean e.s.cfg.I) {q : Nat} (hq : e.q = q) {w : World} {mode white : Int} (hm : 0 ≤ mode ∧ mode ≤ 255) (hw : 0 ≤ white ∧ white ≤ 8589934590) {l : List Item} (h : Sp e w mode white l) :
    Calls Tryd.prog 41 #[.pointer (some ⟨q, 0, none⟩)] w (TokSp e w mode white l) := by
  subst hq; exact token_sp e ok fo hI w mode white hm hw l h
set_option maxRecDepth 100000 in
set_option maxHeartbeats 6400000 in
theorem spec_tokens (w : World) (a : Option Addr) (k : Nat) (src : List UInt8) (hs : SrcAt w.heap.size w a k src) (hl10 : src.length ≤ 10000000000) (s : Stp) (fo : FitOk s) (hwh : 0 ≤ spWhite s ∧ spWhite s ≤ 8589934590) (hI : IdClean s.cfg.I) (hv : Vars w.heap.size w) :
    Calls Tryd.prog 22 #[.slice a src.length k, .agg #[.bool s.d, .int .i64 s.m, .int .u64 s.wh, .bool s.cu, .string s.f1, .string s.f2]] w (SpecTok w src s.cfg) := by
  have hbox := boxed w s
  have hblt := boxed_lt w (Obj.cells #[.bool s.d, .int .i64 s.m, .int .u64 s.wh, .bool s.cu, .string s.f1, .string s.f2] 25)
  have hq0 := heap_alloc_new w (Obj.cells #[.bool s.d, .int .i64 s.m, .int .u64 s.wh, .bool s.cu, .string s.f1, .string s.f2] 25)
  go_enter Tryd.func22, Tryd.ntmps22
  go_upto_region 1 with (fail)
  generalize w.alloc (Obj.cells #[.bool s.d, .int .i64 s.m, .int .u64 s.wh, .bool s.cu, .string s.f1, .string s.f2] 25) = w1 at *
  have hs1 := hs.up hbox hbox.size
  have HCH := Lib.hid (chars_spec w1 a k src hs1 hl10)
  have HH := Lib.hid (And.intro hbox (And.intro hblt (And.intro hq0 (And.intro hs1 ((hv.move hbox).mono hbox.size)))))
  obtain ⟨b, hb⟩ : ∃ b, w.heap.size = b := ⟨_, rfl⟩
  rw [hb] at hq0 ⊢
  have HB := Lib.hid hb
  clear hbox hblt hs hs1 hv hb
  obtain ⟨L, hL⟩ : ∃ x, src.length = x := ⟨_, rfl⟩
  have HL := Lib.hid (And.intro hL hl10)
  rw [hL] at HCH ⊢
  clear hl10
  go_upto_region 2 with (go_at_call 39; refine (HCH.out).mono ?_; rintro en w2 (⟨hsure, rfl, hb2⟩ | ⟨hsure, A, c, rfl, hc, hC, hb2⟩))
  · have HB2 := Lib.hid hb2
    clear hb2 hsure
    go_wp2_with (fail)
    refine bodyPost_ret (v := .tuple #[.slice none 0 0, .bool false]) (by simp [results, Tryd.results22, go_sem]) rfl (.inl ⟨rfl, ?_⟩)
    exact HH.out.1.trans (HB2.out.mono HH.out.1.size)
  · obtain ⟨ad, cs, e1, -, -, hc0⟩ := Kd.C_get hC K.z90 0 (by omega) (by rw [charsOf_len]; omega)
    obtain ⟨ad', e1', z0, -⟩ := K.at_T90 hC 0 (by omega) (by rw [charsOf_len]; omega)
    rw [e1] at e1'
    injection e1' with e1'
    subst e1'
    obtain ⟨g, o, spot⟩ := ad
    have hspot : spot = none := by simpa [Addr.add] using World.cell?_spot z0
    subst hspot
    subst e1
    clear z0 hc0 cs
    have hcl := charsOf_len src (items src)
    have HC1 := Lib.hid (And.intro hsure (And.intro hC (And.intro hb2 (And.intro hc hcl))))
    obtain ⟨N1, hN1⟩ : ∃ x, (charsOf src (items src)).length = x := ⟨_, rfl⟩
    rw [hN1]
    have HN1 := Lib.hid hN1
    have hq2 := (hb2.block _ (lt_of_heap hq0)).trans hq0
    have hset := set_loads hq2
    obtain ⟨z0, z1, z2, z3, z4, z5⟩ := hset
    clear hsure hC hc hcl hN1 hq2 hq0
    go_upto_region 5 with (go_at_call 40; refine (newScanner_spec w2 g o N1 c s).mono ?_; rintro en w3 ⟨q, rfl, hqs, hblk, hb3⟩; have H3 := Lib.hid (And.intro hqs (And.intro hblk hb3)); clear hqs hblk hb3)
    obtain ⟨e, he⟩ : ∃ e : SpE, (⟨w2, q, g, o, c, src, s⟩ : SpE) = e := ⟨_, rfl⟩
    have hn1 : (items src).length + 1 = N1 := by rw [← HN1.out]; exact HC1.out.2.2.2.2.symm
    have hb2 := HC1.out.2.2.1
    have ok : SpOk e := by
      rw [← he]
      refine ⟨HC1.out.2.1, ?_, H3.out.1, by rw [HL.out.1] at *; exact HL.out.2, (HH.out.2.2.2.2.move hb2).mono hb2.size⟩
      show (items src).length + 1 ≤ c
      rw [hn1, ← HN1.out]; exact HC1.out.2.2.2.1
    have hsp : Sp e w3 (spMode s) (spWhite s) (items src) := by
      rw [← he]
      refine ⟨?_, H3.out.2.2, List.suffix_refl _⟩
      have h1 := H3.out.2.1
      rw [← hn1] at h1
      rw [h1]
      unfold spCells SpE.n
      simp
    have HE := Lib.hid (show e.w0 = w2 ∧ e.q = q ∧ e.g = g ∧ e.o = o ∧ e.c = c ∧ e.src = src ∧ e.s = s ∧ e.n + 1 = N1 from by rw [← he]; exact ⟨rfl, rfl, rfl, rfl, rfl, rfl, rfl, hn1⟩)
    have OK := Lib.hid ok
    have SP := Lib.hid hsp
    obtain ⟨bR, hbR⟩ : ∃ x, w3.heap.size = x := ⟨_, rfl⟩
    have hqR : q < bR := by rw [← hbR]; exact lt_of_heap H3.out.2.1
    have HQR := Lib.hid (And.intro hqR hbR)
    have hNb : N1 ≤ 10000000001 := by have := items_le src; have := HL.out.1; have := HL.out.2; omega
    have hNc : N1 ≤ c := by rw [← HN1.out]; exact HC1.out.2.2.2.1
    have HFO := Lib.hid (And.intro fo (And.intro hwh hI))
    have hall : ∀ wy, Below w2.heap.size w2 wy → Below b w wy := fun wy hy => by
      have h1 := HH.out.1
      rw [HB.out] at h1
      have h2 := HH.out.1.size
      have h3 := HC1.out.2.2.1.size
      have h4 := HB.out
      exact (h1.trans (HC1.out.2.2.1.mono (by omega))).trans (hy.mono (by omega))
    have HALL := Lib.hid hall
    clear ok hsp hqR hbR hn1 hb2 he fo hwh hI z0 z1 z2 z3 z4 z5 hall
    go_wp2_with (fail)
    go_loopg [4] (items src).length (fun kk v wr => ∃ (l1 : List Item) (xs : List K.S37), l1.length ≤ kk ∧ Sp e wr (spMode s) (spWhite s) l1 ∧ Mv q w3 wr ∧ Kd.R K.k37 37 wr bR (fun k => bR ≤ k) v xs ∧
      xs ++ (toks s.cfg src l1).map (tokT src) = (toks s.cfg src (items src)).map (tokT src) ∧ errsOf (toks s.cfg src (items src)) = errsOf (toks s.cfg src l1) ∧ xs.length + l1.length ≤ N1)
    case atStart => exact ⟨items src, [], Nat.le_refl _, SP.out, Mv.refl _ _, Kd.R_nil _ _ _ _ _, by simp, rfl, by have := HE.out.2.2.2.2.2.2.2; have h2 : e.n = (items e.src).length := rfl; rw [HE.out.2.2.2.2.2.1] at h2; simp; omega⟩
    case round =>
      obtain ⟨l1, xs, hk, hs1, hm1, hR, hxs, her, hxl⟩ := hrel
      have S1 := Lib.hid (And.intro hs1 (And.intro hm1 hR))
      have HK := Lib.hid (And.intro hk (And.intro hxs (And.intro her hxl)))
      have HXL := Lib.hid (show xs.length ≤ 10000000001 by omega)
      clear hk hs1 hm1 hR hxs her hxl
      go_upto_region 6 with (go_at_call 41; refine (tokenq OK.out (by rw [HE.out.2.2.2.2.2.2.1]; exact HFO.out.1) (by rw [HE.out.2.2.2.2.2.2.1]; exact HFO.out.2.2) HE.out.2.1 (spMode_range HFO.out.1.ok) HFO.out.2.1 S1.out.1).mono ?_; rintro en wx ⟨kk, fr, sure, rfl, hmx, l2, hs2, hsu⟩; have SX := Lib.hid (And.intro hmx (And.intro hs2 hsu)); clear hmx hs2 hsu)
      have hmv : Mv q w3 wx := S1.out.2.1.trans (by rw [← HE.out.2.1]; exact SX.out.1)
      have HMV := Lib.hid hmv
      clear hmv
      cases sure with
      | false =>
        go_wp2_with (fail)
        refine bodyPost_ret (v := .tuple #[.slice none 0 0, .bool false]) (by simp [results, Tryd.results22, go_sem]) rfl (.inl ⟨rfl, ?_⟩)
        have hbx := SX.out.2.1.base
        rw [HE.out.1] at hbx
        first | exact HALL.out _ hbx | (rw [HB.out]; exact HALL.out _ hbx)
      | true =>
        obtain ⟨a', hsc, rfl⟩ := SX.out.2.2 rfl
        rw [← HE.out.2.2.2.2.2.2.1, spCfg_eq, HE.out.2.2.2.2.2.2.1, HE.out.2.2.2.2.2.1] at hsc
        obtain ⟨hsf1, hsf2, hsf3⟩ := scanGo_suffix s.cfg src l1
        rw [hsc] at hsf1 hsf2 hsf3
        simp only at hsf1 hsf2 hsf3
        have hbx := SX.out.2.1.base
        have hsl1 := S1.out.1.suf
        have haf : a' <:+ items e.src := hsf1.trans hsl1
        have hafl : a'.length ≤ e.n := haf.length_le
        have hlfl : l2.length ≤ e.n := (hsf2.trans haf).length_le
        have hplf := fun (w' : World) (hw' : Below e.w0.heap.size e.w0 w') => Sp.places OK.out hw' haf
        have hpll := fun (w' : World) (hw' : Below e.w0.heap.size e.w0 w') => Sp.places OK.out hw' (hsf2.trans haf)
        have htx := fun (w' : World) (hw' : Below e.w0.heap.size e.w0 w') => text_at e OK.out a k (by rw [HE.out.1, HE.out.2.2.2.2.2.1]; exact HH.out.2.2.2.1.up HC1.out.2.2.1 HC1.out.2.2.1.size) w' hw' a' l2 haf hsf2
        obtain ⟨i2, hi2⟩ : ∃ x, e.n - l2.length = x := ⟨_, rfl⟩
        obtain ⟨f, hf⟩ : ∃ x, e.n - a'.length = x := ⟨_, rfl⟩
        have hcq := (SX.out.2.1.cellsq HE.out.2.1 hi2).1
        have hcf := (SX.out.2.1.cellsq HE.out.2.1 hi2).2
        rw [hf] at hplf htx ⊢
        rw [hi2] at hpll htx
        rw [HE.out.1, HE.out.2.2.1, HE.out.2.2.2.1, HE.out.2.2.2.2.2.1] at hplf hpll
        rw [HE.out.1, HE.out.2.2.1, HE.out.2.2.2.1, HE.out.2.2.2.2.1, HE.out.2.2.2.2.2.1, HE.out.2.2.2.2.2.2.2, HL.out.1] at htx
        rw [HE.out.1] at hbx
        have hw23 : w2.heap.size ≤ bR := by have := H3.out.2.2.size; have := HQR.out.2; omega
        have hRx : bR ≤ wx.heap.size := by have := HMV.out.size; have := HQR.out.2; omega
        obtain ⟨pf0, hpf0⟩ : ∃ x : Int, ((offOf src a' : Nat) : Int) = x := ⟨_, rfl⟩
        obtain ⟨pf1, hpf1⟩ : ∃ x : Int, ((lineAt src a' : Nat) : Int) = x := ⟨_, rfl⟩
        obtain ⟨pf2, hpf2⟩ : ∃ x : Int, ((colAt src a' : Nat) : Int) = x := ⟨_, rfl⟩
        obtain ⟨pl0, hpl0⟩ : ∃ x : Int, ((offOf src l2 : Nat) : Int) = x := ⟨_, rfl⟩
        obtain ⟨pl1, hpl1⟩ : ∃ x : Int, ((lineAt src l2 : Nat) : Int) = x := ⟨_, rfl⟩
        obtain ⟨pl2, hpl2⟩ : ∃ x : Int, ((colAt src l2 : Nat) : Int) = x := ⟨_, rfl⟩
        obtain ⟨tx, htx0⟩ : ∃ x, (⟨(txt src (offOf src a') l2).toArray⟩ : ByteArray) = x := ⟨_, rfl⟩
        rw [htx0] at htx
        rw [hpf0, hpf1, hpf2] at hplf
        rw [hpl0, hpl1, hpl2] at hpll
        have htok : tokT src ⟨kk, a', l2, 0⟩ = (⟨kk, tx, ⟨pf0, pf1, pf2⟩, ⟨pl0, pl1, pl2⟩⟩ : K.S37) := by
          unfold tokT
          simp only
          rw [htx0, hpf0, hpf1, hpf2, hpl0, hpl1, hpl2]
        have HTOK := Lib.hid (And.intro htok (And.intro hsc hsf3))
        have HTX := Lib.hid htx
        have HBX := Lib.hid hbx
        have HBR := Lib.hid hRx
        have HX := Lib.hid (And.intro (fun (w' : World) (h : Below bR wx w') => (h.cell (show (⟨q, 1, none⟩ : Addr).block < bR from HQR.out.1)).trans hcq) (And.intro (fun (w' : World) (h : Below bR wx w') => hplf w' (hbx.trans (h.mono hw23))) (fun (w' : World) (h : Below bR wx w') => hpll w' (hbx.trans (h.mono hw23)))))
        have HROW := Lib.hid (show Kd.R K.k37 37 wx bR (fun k => bR ≤ k) u4 xs from R_keep S1.out.2.2 fun g' cs hg' hx => by
          have h1 : bR ≤ g' := S1.out.2.2.1 g' hg'
          have hgq : g' ≠ e.q := by rw [HE.out.2.1]; have := HQR.out.1; omega
          exact (SX.out.1.block g' (lt_of_heap hx) hgq).trans hx)
        have hf1 : f < N1 := by have := HE.out.2.2.2.2.2.2.2; omega
        have hi21 : i2 < N1 := by have := HE.out.2.2.2.2.2.2.2; omega
        clear hsf1 hsf2 hsf3 hbx hsl1 haf hafl hlfl hplf hpll htx hi2 hf hcq hcf hw23 hRx hpf0 hpf1 hpf2 hpl0 hpl1 hpl2 htx0 htok hsc
        go_upto_region 8 with (fail)
        refine wp_region_mix3 (fun w' => Below bR wx w') [(false, 0), (false, 1), (false, 2), (false, 3), (false, 4), (false, 5), (false, 6), (false, 7), (false, 8), (false, 10), (false, 11), (false, 12), (false, 13), (false, 14), (false, 15), (false, 16), (false, 17), (false, 18), (false, 19), (false, 20), (false, 21), (false, 22), (true, 9), (false, 23), (true, 24), (true, 25), (false, 26)] (by kernel_rfl) (by kernel_rfl) (Below.refl bR wx).drew ?_
        · skip
          rw [wpMix3]
          simp only [List.getElem?_toArray, List.getElem?_cons_zero, List.getElem?_cons_succ]
          refine wpQuiet_want rfl ?_
          intro Kx hKx
          refine ⟨u4, fun w' hw' => ?_, hKx _ ?_⟩
          · unfold Oper.quietAt
            go_simp
          clear hKx Kx
          refine wpQuiet_nil ?_
          go_simp
          rw [wpMix3]
          simp only [List.getElem?_toArray, List.getElem?_cons_zero, List.getElem?_cons_succ]
          refine wpQuiet_want rfl ?_
          intro Kx hKx
          refine ⟨.int .i64 kk, fun w' hw' => ?_, hKx _ ?_⟩
          · unfold Oper.quietAt
            go_simp
          clear hKx Kx
          refine wpQuiet_nil ?_
          go_simp
          rw [wpMix3]
          simp only [List.getElem?_toArray, List.getElem?_cons_zero, List.getElem?_cons_succ]
          refine wpQuiet_want rfl ?_
          intro Kx hKx
          refine ⟨.slice (some ⟨g, o, none⟩) N1 c, fun w' hw' => ?_, hKx _ ?_⟩
          · unfold Oper.quietAt
            go_simp
          clear hKx Kx
          refine wpQuiet_nil ?_
          go_simp
          rw [wpMix3]
          simp only [List.getElem?_toArray, List.getElem?_cons_zero, List.getElem?_cons_succ]
          refine wpQuiet_want rfl ?_
          intro Kx hKx
          refine ⟨.slice a L k, fun w' hw' => ?_, hKx _ ?_⟩
          · unfold Oper.quietAt
            go_simp
          clear hKx Kx
          refine wpQuiet_nil ?_
          go_simp
          rw [wpMix3]
          simp only [List.getElem?_toArray, List.getElem?_cons_zero, List.getElem?_cons_succ]
          refine wpQuiet_want rfl ?_
          intro Kx hKx
          refine ⟨.int .i64 (f : Nat), fun w' hw' => ?_, hKx _ ?_⟩
          · unfold Oper.quietAt
            go_simp
          clear hKx Kx
          refine wpQuiet_nil ?_
          go_simp
          rw [wpMix3]
          simp only [List.getElem?_toArray, List.getElem?_cons_zero, List.getElem?_cons_succ]
          refine wpQuiet_want rfl ?_
          intro Kx hKx
          refine ⟨.pointer (some ⟨q, 0, none⟩), fun w' hw' => ?_, hKx _ ?_⟩
          · unfold Oper.quietAt
            go_simp
          clear hKx Kx
          refine wpQuiet_nil ?_
          go_simp
          rw [wpMix3]
          simp only [List.getElem?_toArray, List.getElem?_cons_zero, List.getElem?_cons_succ]
          refine wpQuiet_want rfl ?_
          intro Kx hKx
          refine ⟨.pointer (some ⟨q, 0, none⟩), fun w' hw' => ?_, hKx _ ?_⟩
          · unfold Oper.quietAt
            go_simp
          clear hKx Kx
          refine wpQuiet_nil ?_
          go_simp
          rw [wpMix3]
          simp only [List.getElem?_toArray, List.getElem?_cons_zero, List.getElem?_cons_succ]
          refine wpQuiet_want rfl ?_
          intro Kx hKx
          refine ⟨.pointer (some ⟨q, 1, none⟩), fun w' hw' => ?_, hKx _ ?_⟩
          · unfold Oper.quietAt
            go_simp
          clear hKx Kx
          refine wpQuiet_nil ?_
          go_simp
          rw [wpMix3]
          simp only [List.getElem?_toArray, List.getElem?_cons_zero, List.getElem?_cons_succ]
          refine wpQuiet_want rfl ?_
          intro Kx hKx
          refine ⟨.int .i64 (i2 : Nat), fun w' hw' => ?_, hKx _ ?_⟩
          · have x1 := HX.out.1 w' hw'
            unfold Oper.quietAt
            go_simp
          clear hKx Kx
          refine wpQuiet_nil ?_
          go_simp
          rw [wpMix3]
          simp only [List.getElem?_toArray, List.getElem?_cons_zero, List.getElem?_cons_succ]
          refine wpQuiet_want rfl ?_
          intro Kx hKx
          refine ⟨.slice (some ⟨g, o, none⟩) N1 c, fun w' hw' => ?_, hKx _ ?_⟩
          · unfold Oper.quietAt
            go_simp
          clear hKx Kx
          refine wpQuiet_nil ?_
          go_simp
          rw [wpMix3]
          simp only [List.getElem?_toArray, List.getElem?_cons_zero, List.getElem?_cons_succ]
          refine wpQuiet_want rfl ?_
          intro Kx hKx
          refine ⟨.int .i64 (f : Nat), fun w' hw' => ?_, hKx _ ?_⟩
          · unfold Oper.quietAt
            go_simp
          clear hKx Kx
          refine wpQuiet_nil ?_
          go_simp
          rw [wpMix3]
          simp only [List.getElem?_toArray, List.getElem?_cons_zero, List.getElem?_cons_succ]
          refine wpQuiet_want rfl ?_
          intro Kx hKx
          refine ⟨.pointer (some ⟨g, o + f * 5, none⟩), fun w' hw' => ?_, hKx _ ?_⟩
          · unfold Oper.quietAt
            go_simp
            all_goals (first | done | omega | (rw [if_pos (by omega)]; exact ⟨rfl, rfl⟩))
          clear hKx Kx
          refine wpQuiet_nil ?_
          go_simp
          rw [wpMix3]
          simp only [List.getElem?_toArray, List.getElem?_cons_zero, List.getElem?_cons_succ]
          refine wpQuiet_want rfl ?_
          intro Kx hKx
          refine ⟨.pointer (some ⟨g, o + f * 5 + 2, none⟩), fun w' hw' => ?_, hKx _ ?_⟩
          · unfold Oper.quietAt
            go_simp
          clear hKx Kx
          refine wpQuiet_nil ?_
          go_simp
          rw [wpMix3]
          simp only [List.getElem?_toArray, List.getElem?_cons_zero, List.getElem?_cons_succ]
          refine wpQuiet_want rfl ?_
          intro Kx hKx
          refine ⟨.agg #[.int .i64 pf0, .int .i64 pf1, .int .i64 pf2], fun w' hw' => ?_, hKx _ ?_⟩
          · obtain ⟨y0, y1, y2⟩ := HX.out.2.1 w' hw'
            unfold Oper.quietAt
            go_simp
          clear hKx Kx
          refine wpQuiet_nil ?_
          go_simp
          rw [wpMix3]
          simp only [List.getElem?_toArray, List.getElem?_cons_zero, List.getElem?_cons_succ]
          refine wpQuiet_want rfl ?_
          intro Kx hKx
          refine ⟨.slice (some ⟨g, o, none⟩) N1 c, fun w' hw' => ?_, hKx _ ?_⟩
          · unfold Oper.quietAt
            go_simp
          clear hKx Kx
          refine wpQuiet_nil ?_
          go_simp
          rw [wpMix3]
          simp only [List.getElem?_toArray, List.getElem?_cons_zero, List.getElem?_cons_succ]
          refine wpQuiet_want rfl ?_
          intro Kx hKx
          refine ⟨.pointer (some ⟨q, 0, none⟩), fun w' hw' => ?_, hKx _ ?_⟩
          · unfold Oper.quietAt
            go_simp
          clear hKx Kx
          refine wpQuiet_nil ?_
          go_simp
          rw [wpMix3]
          simp only [List.getElem?_toArray, List.getElem?_cons_zero, List.getElem?_cons_succ]
          refine wpQuiet_want rfl ?_
          intro Kx hKx
          refine ⟨.pointer (some ⟨q, 0, none⟩), fun w' hw' => ?_, hKx _ ?_⟩
          · unfold Oper.quietAt
            go_simp
          clear hKx Kx
          refine wpQuiet_nil ?_
          go_simp
          rw [wpMix3]
          simp only [List.getElem?_toArray, List.getElem?_cons_zero, List.getElem?_cons_succ]
          refine wpQuiet_want rfl ?_
          intro Kx hKx
          refine ⟨.pointer (some ⟨q, 1, none⟩), fun w' hw' => ?_, hKx _ ?_⟩
          · unfold Oper.quietAt
            go_simp
          clear hKx Kx
          refine wpQuiet_nil ?_
          go_simp
          rw [wpMix3]
          simp only [List.getElem?_toArray, List.getElem?_cons_zero, List.getElem?_cons_succ]
          refine wpQuiet_want rfl ?_
          intro Kx hKx
          refine ⟨.int .i64 (i2 : Nat), fun w' hw' => ?_, hKx _ ?_⟩
          · have x1 := HX.out.1 w' hw'
            unfold Oper.quietAt
            go_simp
          clear hKx Kx
          refine wpQuiet_nil ?_
          go_simp
          rw [wpMix3]
          simp only [List.getElem?_toArray, List.getElem?_cons_zero, List.getElem?_cons_succ]
          refine wpQuiet_want rfl ?_
          intro Kx hKx
          refine ⟨.pointer (some ⟨g, o + i2 * 5, none⟩), fun w' hw' => ?_, hKx _ ?_⟩
          · unfold Oper.quietAt
            go_simp
            all_goals (first | done | omega | (rw [if_pos (by omega)]; exact ⟨rfl, rfl⟩))
          clear hKx Kx
          refine wpQuiet_nil ?_
          go_simp
          rw [wpMix3]
          simp only [List.getElem?_toArray, List.getElem?_cons_zero, List.getElem?_cons_succ]
          refine wpQuiet_want rfl ?_
          intro Kx hKx
          refine ⟨.pointer (some ⟨g, o + i2 * 5 + 2, none⟩), fun w' hw' => ?_, hKx _ ?_⟩
          · unfold Oper.quietAt
            go_simp
          clear hKx Kx
          refine wpQuiet_nil ?_
          go_simp
          rw [wpMix3]
          simp only [List.getElem?_toArray, List.getElem?_cons_zero, List.getElem?_cons_succ]
          refine wpQuiet_want rfl ?_
          intro Kx hKx
          refine ⟨.agg #[.int .i64 pl0, .int .i64 pl1, .int .i64 pl2], fun w' hw' => ?_, hKx _ ?_⟩
          · obtain ⟨y0, y1, y2⟩ := HX.out.2.2 w' hw'
            unfold Oper.quietAt
            go_simp
          clear hKx Kx
          refine wpQuiet_nil ?_
          go_simp
          rw [wpMix3]
          simp only [List.getElem?_toArray, List.getElem?_cons_zero, List.getElem?_cons_succ]
          go_wp2_with (go_at_call 42; refine (HTX.out _ HBX.out.drew).mono ?_; rintro en w4 ⟨rfl, hb4⟩; have H4X := Lib.hid (show Below wx.heap.size wx w4 from (Below.refl _ wx).drew.trans hb4); have H4 := Lib.hid ((Below.refl bR wx).drew.trans (hb4.mono (by have := HBR.out; show bR ≤ wx.heap.size; omega))); clear hb4)
          refine ⟨H4.out, ?_⟩
          rw [wpMix3]
          simp only [List.getElem?_toArray, List.getElem?_cons_zero, List.getElem?_cons_succ]
          refine wpQuiet_want rfl ?_
          intro Kx hKx
          refine ⟨.agg #[.int .i64 kk, .string tx, .int .i64 pf0, .int .i64 pf1, .int .i64 pf2, .int .i64 pl0, .int .i64 pl1, .int .i64 pl2], fun w' hw' => ?_, hKx _ ?_⟩
          · unfold Oper.quietAt
            go_simp
          clear hKx Kx
          refine wpQuiet_nil ?_
          go_simp
          rw [wpMix3]
          simp only [List.getElem?_toArray, List.getElem?_cons_zero, List.getElem?_cons_succ]
          go_wp2_with (fail)
          have hsz4 : bR ≤ w4.heap.size := by have h1 := H4.out.size; have h2 := HBR.out; omega
          refine ⟨H4.out.alloc hsz4 _, ?_⟩
          rw [wpMix3]
          simp only [List.getElem?_toArray, List.getElem?_cons_zero, List.getElem?_cons_succ]
          (((with_reducible refine gate_builtin (b := .append) (xs := #[.tmp 30, .tmp 54]) rfl ?_); at_builtin; refine Kd.R_append K.k37 (w0 := wx) bR rfl (.tmp 30) (.tmp 54) 28 37 (.agg #[.int .i64 0, .string ⟨#[]⟩, .int .i64 0, .int .i64 0, .int .i64 0, .int .i64 0, .int .i64 0, .int .i64 0]) 72 rfl Tryd.underlying28 info37 rfl (by decide) (by omega) u4 xs (⟨kk, tx, ⟨pf0, pf1, pf2⟩, ⟨pl0, pl1, pl2⟩⟩ : K.S37) [.int .i64 kk, .string tx, .int .i64 pf0, .int .i64 pf1, .int .i64 pf2, .int .i64 pl0, .int .i64 pl1, .int .i64 pl2] (fun k_ => bR ≤ k_) (fun _ => False) rfl rfl ?aP (fun _ hk => hk.elim) ?aF ?aO ?aB ?aS ?aL ?_; (case aP => exact K.k37_mkM _ _ _ (⟨kk, tx, ⟨pf0, pf1, pf2⟩, ⟨pl0, pl1, pl2⟩⟩ : K.S37)); (case aF => intro k_ hk; have : w4.heap.size ≤ k_ := hk; omega); (case aO => exact (Kd.R_below HROW.out H4X.out)); (case aB => exact H4.out); (case aS => exact hsz4); (case aL => have := HXL.out; omega); intro v1 wz ho hb hg hat; have HAP := Lib.hid (And.intro ho (And.intro hb hg)); clear ho hb hg hat))
          go_wp2_with (fail)
          refine ⟨HAP.out.2.1, ?_⟩
          rw [wpMix3]
          simp only [List.getElem?_toArray, List.getElem?_cons_zero, List.getElem?_cons_succ]
          refine wpQuiet_want rfl ?_
          intro Kx hKx
          refine ⟨v1, fun w' hw' => ?_, hKx _ ?_⟩
          · unfold Oper.quietAt
            go_simp
          clear hKx Kx
          refine wpQuiet_nil ?_
          go_simp
          rw [wpMix3]
          obtain ⟨hk, hxs, her, hxl⟩ := HK.out
          obtain ⟨htok, hsc, hsf3⟩ := HTOK.out
          obtain ⟨ho, hb, hg⟩ := HAP.out
          rw [← htok] at ho
          by_cases hke : kk = -1
          · have hkb : (kk == -1) = true := by rw [hke]; rfl
            have htoks := toks_end (C := s.cfg) (src := src) (l := l1) (by rw [hsc]; exact hke)
            rw [htoks, hsc] at hxs her
            simp only [List.map_cons, List.map_nil] at hxs
            rw [hxs] at ho
            have HO := Lib.hid ho
            have HER := Lib.hid her
            have HBZ := Lib.hid hb
            clear hk hxs her hxl htok hsc hsf3 ho hb hg htoks hke
            go_wp2_with (fail)
            obtain ⟨A', c', ev, hc', hC'⟩ := Kd.R_reads HO.out
            refine bodyPost_ret (v := .tuple #[v1, .bool true]) (by simp [results, Tryd.results22, go_sem]) rfl (.inr ⟨HC1.out.1, by rw [HER.out]; rfl, A', c', by rw [ev], hc', hC', ?_⟩)
            first | exact HALL.out _ (HBX.out.trans (HBZ.out.mono (by have := H3.out.2.2.size; have := HQR.out.2; omega))) | (rw [HB.out]; exact HALL.out _ (HBX.out.trans (HBZ.out.mono (by have := H3.out.2.2.size; have := HQR.out.2; omega))))
          · have hkb : (kk == -1) = false := beq_eq_false_iff_ne.2 hke
            have hlt : l2.length < l1.length := by
              have := (scanGo_lt s.cfg src l1).resolve_left (fun h => by rw [hsc] at h; exact hke h.1)
              rw [hsc] at this; exact this.2
            have htoks := toks_step (C := s.cfg) (src := src) (l := l1) (by rw [hsc]; exact hke) (by rw [hsc]; exact hlt)
            rw [htoks, hsc] at hxs her
            have hsz : Sp e wz (spMode s) (spWhite s) l2 := SX.out.2.1.thru OK.out (by rw [HE.out.2.1]; exact HQR.out.1) hb
            have hmz : Mv q w3 wz := HMV.out.below2 (by rw [HQR.out.2]; exact hb)
            have HFIN := Lib.hid (And.intro hsz (And.intro hmz (And.intro ho (And.intro hxs her))))
            have HLL := Lib.hid (And.intro hk (And.intro hlt hxl))
            clear hk hxs her hxl htok hsc hsf3 ho hb hg htoks hke hsz hmz hlt
            go_wp2_with (fail)
            obtain ⟨hsz, hmz, ho, hxs, her⟩ := HFIN.out
            obtain ⟨hk, hlt, hxl⟩ := HLL.out
            go_roundg l2.length
            case measure => omega
            case rel => exact ⟨l2, xs ++ [tokT src ⟨kk, a', l2, 0⟩], Nat.le_refl _, hsz, hmz, ho, by rw [← hxs]; simp, by rw [her]; unfold errsOf; simp, by rw [List.length_append]; simp only [List.length_cons, List.length_nil]; omega⟩
end Go.Proofs.YtmfihkgbfoapaaaDoor
namespace Go.Proofs.YtmfihkgbfoapaaaDoor
set_option linter.unusedVariables false
set_option linter.unusedSimpArgs false
open Go Go.RowKit Go.Lib Go.BigFrame Go.Proofs.YtmfihkgbfoapaaaDoorW.PrintWords
theorem sure_all2 {src : List UInt8} (h : sureL (items src) = true) : lexErrs (items src) = 0 ∧ startL src = items src := by
  have hok : ∀ c ∈ items src, okc c = true := by simpa [sureL] using h
  constructor
  · unfold lexErrs
    have : ∀ l : List Item, (∀ c ∈ l, okc c = true) → (l.map lexErr).sum = 0 := by
      intro l
      induction l with
      | nil => intro _; rfl
      | cons c l ih =>
        intro hl
        have h1 := hl c List.mem_cons_self
        rw [List.map_cons, List.sum_cons, ih fun x hx => hl x (List.mem_cons_of_mem _ hx)]
        unfold okc at h1
        simp at h1
        unfold lexErr
        simp [h1]
    exact this _ hok
  · unfold startL
    rw [if_neg]
    intro hc
    cases hi : items src with
    | nil => rw [hi] at hc; cases hc
    | cons c l =>
      rw [hi] at hc
      have := hok c (by rw [hi]; exact List.mem_cons_self)
      have hr : c.r = 65279 := by have : ((c.r : Nat) : Int) = 65279 := hc; omega
      unfold okc at this
      rw [hr] at this
      simp at this
theorem let_low : ((List.range 128).all fun k => !isLetterU (k : Int) || decide (65 ≤ k ∧ k ≠ 96)) = true := by kernel_rfl
theorem idGo_clean : IdClean idGo := by
  intro r h
  have h' : ((r == 95) || isLetterU r) = true := h
  by_cases h95 : r = 95
  · subst h95; exact ⟨rfl, by decide, by decide, by decide, by decide, by decide, by decide⟩
  · have hb : (r == 95) = false := beq_eq_false_iff_ne.2 h95
    rw [hb, Bool.false_or] at h'
    have hm1 : r ≠ -1 := by rintro rfl; rw [letter_end] at h'; cases h'
    by_cases hlo : 0 ≤ r ∧ r < 128
    · have ht := List.all_eq_true.1 let_low r.toNat (List.mem_range.2 (by omega))
      rw [show ((r.toNat : Nat) : Int) = r by omega, h'] at ht
      simp at ht
      refine ⟨by unfold isDec; simp; omega, hm1, by omega, by omega, by omega, by omega, by omega⟩
    · exact ⟨by unfold isDec; simp; omega, hm1, by omega, by omega, by omega, by omega, by omega⟩
theorem fit_clean (s : Stp) : IdClean s.fit.cfg.I := by
  show IdClean (if s.fit.d = false ∧ s.fit.cu = true then idCustom s.fit.f1 s.fit.f2 else idGo)
  split
  · rename_i hc
    unfold Stp.fit at hc ⊢
    by_cases hd : s.d = true
    · rw [if_pos hd] at hc; cases hc.1
    · rw [if_neg hd] at hc ⊢
      have hcu : s.cu = true := hc.2
      intro r hr
      have hr' : hasRune (if s.cu = true then keepS false s.f1 else ⟨#[]⟩) 0 r = true := hr
      rw [if_pos hcu, keepS_has] at hr'
      have hk := (Bool.and_eq_true_iff.1 hr').2
      unfold keepCh at hk
      simp at hk
      obtain ⟨⟨⟨⟨⟨⟨⟨h32, h34⟩, h39⟩, h96⟩, h46⟩, h47⟩, -⟩, hdec⟩ := hk
      exact ⟨hdec, by omega, h34, h39, h46, h47, h96⟩
  · exact idGo_clean
theorem keepS_size (d : Bool) (f : ByteArray) : (keepS d f).size ≤ f.size := by
  have : ∀ n, ∀ l : List UInt8, l.length ≤ n → (keepL d l).length ≤ l.length := by
    intro n
    induction n with
    | zero => intro l hl; have : l = [] := by cases l with | nil => rfl | cons => simp at hl
              subst this; rw [keepL_nil]; exact Nat.le_refl _
    | succ n ih =>
      intro l hl
      by_cases h : 0 < l.length
      · have hp := hd_pos l
        have hle := hd_le h
        rw [keepL_step d h, List.length_append]
        have := ih (l.drop (hd l).2) (by rw [List.length_drop]; omega)
        rw [List.length_drop] at this
        split
        · rw [List.length_take]; omega
        · simp; omega
      · have : l = [] := by cases l with | nil => rfl | cons => simp at h
        subst this; rw [keepL_nil]; exact Nat.le_refl _
  have h := this _ f.data.toList (Nat.le_refl _)
  rw [data_length] at h
  exact h
theorem fit_fitOk (s : Stp) (h1 : s.f1.size ≤ 2147483647) (h2 : s.f2.size ≤ 2147483647) : FitOk s.fit := by
  have k1 := keepS_size false s.f1
  have k2 := keepS_size true s.f2
  refine ⟨s.fit_ok, ?_, ?_, ?_⟩
  all_goals (unfold Stp.fit; split)
  · intro _; rfl
  · intro h; cases h
  · show (⟨#[]⟩ : ByteArray).size ≤ _; decide
  · show (if s.cu = true then keepS false s.f1 else ⟨#[]⟩).size ≤ _
    split
    · omega
    · decide
  · show (⟨#[]⟩ : ByteArray).size ≤ _; decide
  · show (if s.cu = true then keepS true s.f2 else ⟨#[]⟩).size ≤ _
    split
    · omega
    · decide
theorem fit_white (s : Stp) : 0 ≤ spWhite s.fit ∧ spWhite s.fit ≤ 8589934590 := by
  have h := fitW_range s.wh
  unfold spWhite Stp.fit
  by_cases hd : s.d = true
  · rw [if_pos hd]; exact ⟨by decide, by decide⟩
  · rw [if_neg hd]; exact h
theorem sure_err {C : Cfg} {src : List UInt8} (h : sureL (items src) = true) (h2 : errsOf (toks C src (items src)) = 0) : errNum C src = 0 := by
  unfold errNum
  rw [(sure_all2 h).1, (sure_all2 h).2, h2]
end Go.Proofs.YtmfihkgbfoapaaaDoor
namespace Go.Proofs.YtmfihkgbfoapaaaDoor
set_option linter.unusedVariables false
set_option linter.unusedSimpArgs false
open Go Go.RowKit Go.Lib Go.BigFrame Go.Proofs.YtmfihkgbfoapaaaDoorW.PrintWords
end Go.Proofs.YtmfihkgbfoapaaaDoor
