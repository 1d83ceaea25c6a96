/- Own texts Q1 Q4 of this claim, cut to what the claim uses. -/
import Derived.Test.YtmfihkgbfoapaaaDoorZX13
import Derived.Test.YtmfihkgbfoapaaaDoorZM5
import Derived.Test.YtmfihkgbfoapaaaDoorZY1
import Derived.Deep.Upon
import Derived.Lib.SlBytesConst
namespace Go.Proofs.YtmfihkgbfoapaaaDoor
set_option linter.unusedVariables false
set_option linter.unusedSimpArgs false
open Go Go.RowKit Go.Lib Go.BigFrame Go.Proofs.YtmfihkgbfoapaaaDoorW.PrintWords
theorem txt_same {s1 s2 : List UInt8} {l l2 : List Item} (h1 : l <:+ items s1) (h2 : l <:+ items s2) (h : l2 <:+ l) : txt s1 (offOf s1 l) l2 = txt s2 (offOf s2 l) l2 := by
  obtain ⟨t, rfl⟩ := h
  obtain ⟨p1, h1⟩ := h1
  obtain ⟨p2, h2⟩ := h2
  rw [txt_bytes h1.symm, txt_bytes h2.symm]
theorem num_src {s1 s2 : List UInt8} {l l2 : List Item} (h1 : l <:+ items s1) (h2 : l <:+ items s2) (hl : l2 <:+ l) (fl dot : Bool) : numRun s1 (offOf s1 l) fl dot l2 = numRun s2 (offOf s2 l) fl dot l2 := by
  have h := (numRun_suffix s1 (offOf s1 l) fl dot l2).trans hl
  unfold numRun at h ⊢
  rw [(Num.sep_l _ _ _).1] at h
  unfold Num.sep
  rw [txt_same h1 h2 h]
theorem oneAt_src {C : Cfg} {s1 s2 : List UInt8} {l : List Item} (h1 : l <:+ items s1) (h2 : l <:+ items s2) : oneAt C s1 l = oneAt C s2 l := by
  unfold oneAt oneNum oneDot
  rw [num_src h1 h2 (List.suffix_refl l), num_src h1 h2 (List.tail_suffix l)]
theorem scanGo_src {C : Cfg} {s1 s2 : List UInt8} {l : List Item} (h1 : l <:+ items s1) (h2 : l <:+ items s2) : scanGo C s1 l = scanGo C s2 l := by
  induction hn : l.length using Nat.strongRecOn generalizing l with
  | _ n ih =>
    subst hn
    have hs := more_suffix (isWh C.white) l
    have e := oneAt_src (C := C) (hs.trans h1) (hs.trans h2)
    cases hr : (oneAt C s1 (more (isWh C.white) l)).redo with
    | true =>
      have hlt := (oneAt_redo hr).1
      have hsf := (oneAt_suffix C s1 (more (isWh C.white) l)).trans hs
      have hr2 : (oneAt C s2 (more (isWh C.white) l)).redo = true := by rw [← e]; exact hr
      rw [scanGo_redo (C := C) (src := s1) (l := l) hr, scanGo_redo (C := C) (src := s2) (l := l) hr2, ← e, ih _ (by have := more_le (isWh C.white) l; omega) (hsf.trans h1) (hsf.trans h2) rfl]
    | false =>
      have hr2 : (oneAt C s2 (more (isWh C.white) l)).redo = false := by rw [← e]; exact hr
      rw [scanGo_stop hr, scanGo_stop hr2, e]
theorem toks_src {C : Cfg} {s1 s2 : List UInt8} {l : List Item} (h1 : l <:+ items s1) (h2 : l <:+ items s2) : toks C s1 l = toks C s2 l := by
  induction hn : l.length using Nat.strongRecOn generalizing l with
  | _ n ih =>
    subst hn
    have e := scanGo_src (C := C) h1 h2
    have hsf := scanGo_suffix C s1 l
    have hs2 := hsf.2.1.trans hsf.1
    rcases scanGo_lt C s1 l with h | h
    · rw [toks_end h.1, toks_end (e ▸ h.1), e]
    · have h' : (scanGo C s2 l).tok ≠ -1 ∧ (scanGo C s2 l).l.length < l.length := by rw [← e]; exact h
      rw [toks_step (C := C) (src := s1) (l := l) h.1 h.2, toks_step (C := C) (src := s2) (l := l) h'.1 h'.2, ← e, ih _ h.2 (hs2.trans h1) (hs2.trans h2) rfl]
theorem toks_mem (C : Cfg) (src : List UInt8) (l : List Item) : ∀ g ∈ toks C src l, g.at_ <:+ l ∧ g.l <:+ g.at_ ∧ (g.tok = -1 → g.at_ = [] ∧ g.l = []) := by
  induction hn : l.length using Nat.strongRecOn generalizing l with
  | _ n ih =>
    subst hn
    obtain ⟨h1, h2, h3⟩ := scanGo_suffix C src l
    have key : (scanGo C src l).at_ <:+ l ∧ (scanGo C src l).l <:+ (scanGo C src l).at_ ∧ ((scanGo C src l).tok = -1 → (scanGo C src l).at_ = [] ∧ (scanGo C src l).l = []) := ⟨h1, h2, fun h => by
      rcases h3 with h3 | h3
      · exact h3.2
      · exact absurd h h3.1⟩
    rcases scanGo_lt C src l with h | h
    · rw [toks_end h.1]
      intro g hg
      rw [List.mem_singleton] at hg
      rw [hg]; exact key
    · rw [toks_step h.1 h.2]
      intro g hg
      rcases List.mem_cons.1 hg with rfl | hg
      · exact key
      · obtain ⟨k1, k2, k3⟩ := ih _ h.2 _ rfl g hg
        exact ⟨k1.trans (h2.trans h1), k2, k3⟩
def bomB : List UInt8 := [239, 187, 191]
def bomI : Item := ⟨65279, bomB⟩
theorem hd_bom (src : List UInt8) : hd (bomB ++ src) = (65279, 3) := by
  rw [hd_prefix (p := bomB) (by decide) (.inr (.inl (by kernel_rfl)))]
  kernel_rfl
theorem items_bom (src : List UInt8) : items (bomB ++ src) = bomI :: items src := by
  rw [items_cons (by unfold bomB; simp)]
  unfold hdItem
  rw [hd_bom]
  rfl
theorem startL_bom2 (src : List UInt8) : startL (bomB ++ src) = items src := by
  unfold startL
  rw [items_bom, if_pos (show chOf (bomI :: items src) = 65279 from rfl)]; rfl
theorem bom_toks (C : Cfg) (src : List UInt8) : toks C (bomB ++ src) (startL (bomB ++ src)) = toks C src (items src) := by
  rw [startL_bom2]
  exact toks_src (C := C) (s1 := bomB ++ src) (s2 := src) (l := items src) (by rw [items_bom]; exact List.suffix_cons _ _) (List.suffix_refl _)
theorem bom_err {C : Cfg} {src : List UInt8} (h : sureL (items src) = true) (h2 : errsOf (toks C src (items src)) = 0) : errNum C (bomB ++ src) = 0 := by
  unfold errNum
  rw [bom_toks, h2, items_bom]
  have h0 := (sure_all2 h).1
  unfold lexErrs at h0 ⊢
  rw [List.map_cons, List.sum_cons, h0]
  rfl
theorem bom_same (C : Cfg) (src : List UInt8) : ∀ g ∈ toks C src (items src), (tokOf (bomB ++ src) g).f0 = (tokT src g).f0 ∧ (tokOf (bomB ++ src) g).f1 = (tokT src g).f1 := by
  intro g hg
  obtain ⟨h1, h2, -⟩ := toks_mem C src (items src) g hg
  refine ⟨rfl, ?_⟩
  unfold tokOf tokT
  simp only
  rw [txt_same (h1.trans (by rw [items_bom]; exact List.suffix_cons _ _)) h1 h2]
end Go.Proofs.YtmfihkgbfoapaaaDoor
namespace Go.Proofs.YtmfihkgbfoapaaaDoor
set_option linter.unusedVariables false
set_option linter.unusedSimpArgs false
open Go Go.RowKit Go.Lib Go.BigFrame Go.Proofs.YtmfihkgbfoapaaaDoorW.PrintWords
theorem inf5i : ∃ i, Tryd.prog.info? 5 = some i ∧ i.zero = some (.int .u8 0) ∧ i.size = 1 ∧ i.bytes = 1 := by
  obtain ⟨i, h1, h2⟩ := Option.map_eq_some_iff.1 inf5
  simp only [Prod.mk.injEq] at h2
  exact ⟨i, h1, h2⟩
set_option maxRecDepth 100000 in
theorem append_bom {ops : Array Oper} {rest : List Oper} {o : Oper} {a : Act} {Q : Exit → Act → World → Prop} {W : World} (hgd : o.guard = none) (s x : Operand)
    (ho : o.op = .call { callee := .builtin .append, args := #[s, x], argTypes := #[22, 22] }) (g : Nat) (hg : W.heap[g]? = some (.cells #[.int .u8 239, .int .u8 187, .int .u8 191] 5 (3, 4)))
    {B : Nat} {A : Option Addr} {k L M : Nat} {src : List UInt8} (hM : (bomB ++ src).length = M) (hs : a.eval s = .slice (some ⟨g, 0, none⟩) 3 3) (hx : a.eval x = .slice A L k) (hL : src.length = L) (HS : SrcAt B W A k src) (hl : L ≤ 10000000000)
    (h : ∀ A1 c1 w1, SrcAt w1.heap.size w1 A1 c1 (bomB ++ src) → Below W.heap.size W w1 → wpList Tryd.prog ops Q rest (a.put o.dst (.slice A1 M c1)) w1) : wpList Tryd.prog ops Q (o :: rest) a W := by
  subst hL hM
  obtain ⟨i, hi, hz, hsz, hby⟩ := inf5i
  have hc0 := cell_of_heap (j := 0) hg
  have hc1 := cell_of_heap (j := 1) hg
  have hc2 := cell_of_heap (j := 2) hg
  by_cases h0 : src = []
  · subst h0
    refine wpList_plain hgd fun K hK => ?_
    have hsrc : Src Tryd.prog i.size 22 (.slice A 0 k) 0 [] W := by
      cases A with
      | none => exact Src.ofNil W Tryd.underlying22 k
      | some ad => exact Src.ofSlice W Tryd.underlying22 ad 0 k [] (by simp) (fun j u hj => by simp at hj) (fun u hu => by cases hu)
    have hrun := run_append_nothing (P := Tryd.prog) W 22 22 o.type 5 i Tryd.underlying22 hi (some ⟨g, 0, none⟩) 3 3 (Nat.le_refl _) (.slice A 0 k) hsrc
    have hx' : a.eval x = .slice A 0 k := hx
    unfold Oper.wp
    simp [execOp, ho, resolve, invoke, builtin, hs, hx', hrun, Result.andThen]
    refine hK _ _ (h (some ⟨g, 0, none⟩) 3 W ⟨by decide, by decide, fun _ => ⟨g, 0, rfl, lt_of_heap hg, fun j hj => ?_⟩⟩ (Below.refl _ _))
    have hj3 : j < 3 := hj
    rcases j with _ | _ | _ | j
    · exact hc0
    · exact hc1
    · exact hc2
    · omega
  · obtain ⟨g', o', rfl, hlt, hc⟩ := HS.2.2 (List.length_pos_iff.2 h0)
    have hpos : 0 < src.length := List.length_pos_iff.2 h0
    refine wpList_append_grows W hgd s x 22 ho 5 i (.int .u8 0) 1 1 Tryd.underlying22 hi hz hsz hby rfl (by decide) (some ⟨g, 0, none⟩) 3 3 (encs (Value.int .u8) (ints bomB)) hs (fun h => by cases h) rfl ?_ ⟨g', o', none⟩ src.length k (encs (Value.int .u8) (ints src)) hx ?_ ?_ ?_ (by omega) (by unfold maxLen; omega) (by omega) ?_
    · rintro b hb j u hj
      injection hb with hb
      subst hb
      rcases j with _ | _ | _ | j
      · rw [← Option.some.inj hj]; exact hc0
      · rw [← Option.some.inj hj]; exact hc1
      · rw [← Option.some.inj hj]; exact hc2
      · simp [encs, ints, bomB] at hj
    · rw [encs_length, ints_length, Nat.mul_one]
    · intro j u hj
      have hjl : j < src.length := by
        have := (List.getElem?_eq_some_iff.1 hj).1
        rwa [encs_length, ints_length] at this
      have := hc j hjl
      rw [Addr.add_lit, this]
      have e : (encs (Value.int .u8) (ints src))[j]? = some (.int .u8 ((gb src j : Nat) : Int)) := by
        unfold encs ints
        rw [List.getElem?_map, List.getElem?_map, List.getElem?_eq_getElem hjl, gb_get hjl]; rfl
      rw [e] at hj
      exact hj
    · intro u hu
      unfold encs at hu
      obtain ⟨n, -, rfl⟩ := List.mem_map.1 hu
      rfl
    · intro v w1 ho' hgr
      have hR : Kd.R (Kd.int .u8) 5 w1 W.heap.size (fun _ => True) v (ints (bomB ++ src)) := Kd.R_of_own (enc := Value.int .u8) (h1 := fun _ => rfl) (by
        rw [ints_append, List.length_append, encs_append, ints_length, ints_length]
        exact ho') (fun _ _ => trivial)
      obtain ⟨A1, c1, rfl, hsrc⟩ := R_src hR
      exact h A1 c1 w1 hsrc ⟨hgr.os, hgr.tape, hgr.output, hgr.size, fun k hk => hgr.block k hk (by simp)⟩
theorem tokens_atm (w : World) (a1 : Option Addr) (k1 m : Nat) (src : List UInt8) (hm : src.length = m) (s : Stp) (h : s.Ok) (hs : SrcAt w.heap.size w a1 k1 src) (hl : src.length ≤ 10000000000) (hv : Vars w.heap.size w) :
    Calls Tryd.prog 24 #[.slice a1 m k1, .slice none 0 0, .agg #[.bool s.d, .int .i64 s.m, .int .u64 s.wh, .bool s.cu, .string s.f1, .string s.f2]] w (TokPost w s.cfg src) := by
  subst hm
  exact tokens_at w w a1 none k1 0 src [] s h (Below.refl _ _) hs (SzAt.nil _ _) hl hv
def BomOk (ll lw : List K.S37) : Prop := ll.length = lw.length ∧ ∀ i : Nat, i < lw.length → (K.rd_T37 ll (i : Int)).f0 = (K.rd_T37 lw (i : Int)).f0 ∧ (K.rd_T37 ll (i : Int)).f1 = (K.rd_T37 lw (i : Int)).f1
theorem rd_map (f : Got → K.S37) (l : List Got) (i : Nat) (h : i < l.length) : K.rd_T37 (l.map f) (i : Int) = f l[i] := by
  unfold K.rd_T37
  rw [Int.toNat_natCast, List.getD_eq_getElem?_getD, List.getElem?_map, List.getElem?_eq_getElem h]; rfl
theorem bom_ok (C : Cfg) (src : List UInt8) : BomOk ((toks C (bomB ++ src) (startL (bomB ++ src))).map (tokOf (bomB ++ src))) ((toks C src (items src)).map (tokT src)) := by
  rw [bom_toks]
  refine ⟨by rw [List.length_map, List.length_map], fun i hi => ?_⟩
  rw [List.length_map] at hi
  rw [rd_map _ _ _ hi, rd_map _ _ _ hi]
  exact bom_same C src _ (List.getElem_mem hi)
set_option maxRecDepth 100000 in
set_option maxHeartbeats 3200000 in
theorem fnbom (w : World) (a : Option Addr) (k : Nat) (src : List UInt8) (s : Stp) (hs : SrcAt w.heap.size w a k src) (hv : Vars w.heap.size w) :
    Calls Tryd.prog 3 #[.slice a src.length k, .agg #[.bool s.d, .int .i64 s.m, .int .u64 s.wh, .bool s.cu, .string s.f1, .string s.f2]] w fun e w' => e = .returned (.bool true) ∧ Below w.heap.size w w' := by
  by_cases hbig : (2147483647 : Int) < src.length
  · clear hs hv
    go_enter Tryd.func3, Tryd.ntmps3
    go_wp2_with (fail)
    go_ret
    exact ⟨rfl, boxed w s⟩
  by_cases hf : s.f1.size ≤ 2147483647 ∧ s.f2.size ≤ 2147483647
  · have hfo := fit_fitOk s hf.1 hf.2
    have hcl := fit_clean s
    have hfw := fit_white s
    have HH := Lib.hid (And.intro hs (And.intro hv (And.intro hf hbig)))
    clear hs hv hf
    go_enter Tryd.func3, Tryd.ntmps3
    go_upto_region 3 with (first
      | (go_at_call 20; refine (fits_yes _ s HH.out.2.2.1.1 HH.out.2.2.1.2).mono ?_; rintro e w1 ⟨rfl, hb1⟩))
    have hB1 : Below w.heap.size w w1 := (boxed w s).trans (hb1.mono (Nat.le_of_lt (boxed_lt _ _)))
    have hn1 := (hb1.block _ (boxed_lt _ _)).trans (heap_alloc_new w _)
    obtain ⟨c0, c1, c2, c3, c4, c5⟩ := set_loads hn1
    have HB := Lib.hid (And.intro hB1 hn1)
    clear hb1 hB1 hn1
    obtain ⟨F, hF⟩ : ∃ F, s.fit = F := ⟨_, rfl⟩
    rw [hF] at hfo hcl hfw
    have HF := Lib.hid (And.intro hF (And.intro hfo (And.intro hcl hfw)))
    clear hF hfo hcl hfw
    go_upto_region 4 with (first
      | (go_at_call 21; refine (fit_spec _ s (by have := HH.out.2.2.1.1; omega) (by have := HH.out.2.2.1.2; omega)).mono ?_; rw [HF.out.1]; rintro e w2 ⟨rfl, hb2⟩; have hn2 := (hb2.block _ (lt_of_heap HB.out.2)).trans HB.out.2; have f2 := frozen_of_heap hn2; have g := set_loads hn2; obtain ⟨g0, g1, g2, g3, g4, g5⟩ := g; have HB2 := Lib.hid (And.intro (HB.out.1.trans (hb2.mono HB.out.1.size)) hn2); clear hb2 c0 c1 c2 c3 c4 c5 hn2))
    obtain ⟨w3, hw3⟩ : ∃ W, (((((w2.setCell ⟨w.heap.size, 0, none⟩ (.bool F.d)).setCell ⟨w.heap.size, 1, none⟩ (.int .i64 F.m)).setCell ⟨w.heap.size, 2, none⟩ (.int .u64 F.wh)).setCell ⟨w.heap.size, 3, none⟩ (.bool F.cu)).setCell ⟨w.heap.size, 4, none⟩ (.string F.f1)).setCell ⟨w.heap.size, 5, none⟩ (.string F.f2) = W := ⟨_, rfl⟩
    rw [hw3]
    obtain ⟨n3, b3, z3⟩ := set_stores HB2.out.2 _ _ _ _ _ _ hw3
    clear hw3 f2 g0 g1 g2 g3 g4 g5
    obtain ⟨c0, c1, c2, c3, c4, c5⟩ := set_loads n3
    have HB3 := Lib.hid (And.intro (HB2.out.1.trans b3) n3)
    clear n3 b3 z3
    have hl10 : src.length ≤ 10000000000 := by have := HH.out.2.2.2; omega
    have HT := Lib.hid (spec_tokens w3 a k src (HH.out.1.up HB3.out.1 HB3.out.1.size) hl10 F HF.out.2.1 HF.out.2.2.2 HF.out.2.2.1 ((HH.out.2.1.move HB3.out.1).mono HB3.out.1.size))
    go_upto_region 5 with (first
      | (go_at_call 22; refine HT.out.mono ?_; rintro e w4 (⟨rfl, hb4⟩ | ⟨hsu, her, A, c, rfl, hc, hC, hb4⟩); all_goals (have hn4 := (hb4.block _ (lt_of_heap HB3.out.2)).trans HB3.out.2; have HN4 := Lib.hid hn4; have HB4 := Lib.hid (HB3.out.1.trans (hb4.mono HB3.out.1.size)); clear hb4 hn4 c0 c1 c2 c3 c4 c5)))
    · go_wp2_with (first
        | (go_at_call 23; refine (works_at w _ HB4.out HH.out.2.1).mono ?_; rintro e w5 ⟨rfl, hb5⟩; have HB5 := Lib.hid (HB4.out.trans (hb5.mono HB4.out.size)); clear hb5))
      go_ret
      exact ⟨rfl, HB5.out⟩
    · have hlaw := bom_ok F.cfg src
      have herr := bom_err hsu her
      obtain ⟨LW, hLW⟩ : ∃ x, (toks F.cfg src (items src)).map (tokT src) = x := ⟨_, rfl⟩
      obtain ⟨LL, hLL⟩ : ∃ x, (toks F.cfg (bomB ++ src) (startL (bomB ++ src))).map (tokOf (bomB ++ src)) = x := ⟨_, rfl⟩
      rw [List.length_map] at hC hc
      rw [hLW] at hlaw hC
      rw [hLL] at hlaw
      have HLAW := Lib.hid (And.intro herr (And.intro hLL hlaw))
      have hlen := hlaw.1
      have hlb : LW.length ≤ 10000000001 := by
        have h1 := toks_len F.cfg src (items src)
        have h2 := items_le src
        rw [← hLW, List.length_map]; omega
      obtain ⟨N, hNN⟩ : ∃ x, (toks F.cfg src (items src)).length = x := ⟨_, rfl⟩
      have hN : LW.length = N := by rw [← hLW, List.length_map, hNN]
      rw [hNN] at hC hc ⊢
      rw [hN] at hlen hlb
      clear hNN
      have HCW := Lib.hid (And.intro hC (And.intro hc (And.intro hN hlen)))
      have HL10 := Lib.hid hl10
      obtain ⟨L, hL⟩ : ∃ x, src.length = x := ⟨_, rfl⟩
      have HL := Lib.hid hL
      rw [hL] at HL10
      rw [hL]
      obtain ⟨M, hM⟩ : ∃ x, (bomB ++ src).length = x := ⟨_, rfl⟩
      have HM := Lib.hid hM
      clear hM
      clear hsu her hlaw herr hLW hLL hC hc hN hlen hl10 hL
      go_upto_region 7 with (fail)
      refine wp_region_mix3 (fun w' => Below w4.heap.size w4 w') [(false, 2), (false, 4), (true, 0), (true, 1), (true, 3), (true, 5), (false, 6), (false, 7), (false, 8), (false, 9), (false, 10), (false, 11), (false, 12)] (by kernel_rfl) (by kernel_rfl) (Below.refl _ w4).drew ?_
      obtain ⟨wd, hwd⟩ : ∃ W, w4.drew = W := ⟨_, rfl⟩
      have hbd : Below w4.heap.size w4 wd := by rw [← hwd]; exact (Below.refl _ w4).drew
      have hsd : w4.heap.size = wd.heap.size := by rw [← hwd]; rfl
      rw [hwd]
      have HD := Lib.hid (And.intro hbd hsd)
      clear hwd hbd hsd
      rw [wpMix3]
      simp only [List.getElem?_toArray, List.getElem?_cons_zero, List.getElem?_cons_succ]
      refine wpQuiet_want rfl ?_
      intro Kx hKx
      refine ⟨.slice a L k, fun w' hw' => ?_, hKx _ ?_⟩
      · unfold Oper.quietAt
        go_simp
      clear hKx Kx
      refine wpQuiet_nil ?_
      go_simp
      rw [wpMix3]
      simp only [List.getElem?_toArray, List.getElem?_cons_zero, List.getElem?_cons_succ]
      refine wpQuiet_want rfl ?_
      intro Kx hKx
      refine ⟨.agg #[.bool F.d, .int .i64 F.m, .int .u64 F.wh, .bool F.cu, .string F.f1, .string F.f2], fun w' hw' => ?_, hKx _ ?_⟩
      · obtain ⟨g0, g1, g2, g3, g4, g5⟩ := set_loads ((hw'.block _ (lt_of_heap HN4.out)).trans HN4.out)
        unfold Oper.quietAt
        go_simp
      clear hKx Kx
      refine wpQuiet_nil ?_
      go_simp
      rw [wpMix3]
      simp only [List.getElem?_toArray, List.getElem?_cons_zero, List.getElem?_cons_succ]
      go_wp2_with (fail)
      have kc := Lib.run_convert_bytes_const (P := Tryd.prog) wd 22 5 #[.int .u8 239, .int .u8 187, .int .u8 191] 3 3 Tryd.underlying22 Tryd.underlying5
      refine ⟨HD.out.1.alloc (by rw [HD.out.2]; exact Nat.le_refl _) _, ?_⟩
      rw [wpMix3]
      simp only [List.getElem?_toArray, List.getElem?_cons_zero, List.getElem?_cons_succ]
      go_wp2_with (fail)
      clear kc
      obtain ⟨w5, hw5⟩ : ∃ W, wd.alloc (Obj.cells #[.int .u8 239, .int .u8 187, .int .u8 191] 5 (3, 4)) = W := ⟨_, rfl⟩
      have hb5 : Below w4.heap.size w4 w5 := by rw [← hw5]; exact HD.out.1.alloc (by rw [HD.out.2]; exact Nat.le_refl _) _
      have hq5 : w5.heap[wd.heap.size]? = some (Obj.cells #[.int .u8 239, .int .u8 187, .int .u8 191] 5 (3, 4)) := by rw [← hw5]; exact heap_alloc_new _ _
      first | rw [hw5] | (have e5 : wd.alloc (Obj.cells #[.int .u8 239, .int .u8 187, .int .u8 191] 5 (#[Value.int .u8 239, Value.int .u8 187, Value.int .u8 191].size, #[Value.int .u8 239, Value.int .u8 187, Value.int .u8 191].size + 1)) = w5 := hw5; rw [e5])
      refine ⟨hb5, ?_⟩
      have H5 := Lib.hid (And.intro hb5 hq5)
      clear hb5 hq5 hw5
      rw [wpMix3]
      simp only [List.getElem?_toArray, List.getElem?_cons_zero, List.getElem?_cons_succ]
      go_wp2_with (first | ((with_reducible refine gate_builtin (b := .append) (xs := #[.tmp 33, .tmp 34]) rfl ?_); at_builtin; refine append_bom rfl (.tmp 33) (.tmp 34) rfl wd.heap.size H5.out.2 (k := k) (L := L) (A := a) HM.out rfl rfl HL.out (HH.out.1.up (HB4.out.trans (H5.out.1.mono HB4.out.size)) (Nat.le_refl _)) HL10.out ?_; intro A6 c6 wy hr hb; have HV := Lib.hid (And.intro hr (H5.out.1.trans (hb.mono H5.out.1.size))); clear hr hb))
      refine ⟨HV.out.2, ?_⟩
      rw [wpMix3]
      simp only [List.getElem?_toArray, List.getElem?_cons_zero, List.getElem?_cons_succ]
      have htk := tokens_atm wy A6 c6 M (bomB ++ src) HM.out F HF.out.2.1.ok HV.out.1 (by have := HL10.out; have := HL.out; rw [List.length_append]; show 3 + src.length ≤ _; omega) ((HH.out.2.1.move (HB4.out.trans (HV.out.2.mono HB4.out.size))).mono (HB4.out.trans (HV.out.2.mono HB4.out.size)).size)
      unfold TokPost at htk
      rw [HLAW.out.2.1, HLAW.out.1] at htk
      have HTK := Lib.hid htk
      clear htk
      go_wp2_with (first
        | (go_at_call 24; refine HTK.out.mono ?_; rintro e wz ⟨A7, c7, rfl, hc7, hC7, hb7⟩; have HZ := Lib.hid (And.intro hc7 (And.intro hC7 (And.intro hb7 (HV.out.2.trans (hb7.mono HV.out.2.size))))); clear hc7 hC7 hb7))
      refine ⟨HZ.out.2.2.2, ?_⟩
      rw [wpMix3]
      simp only [List.getElem?_toArray, List.getElem?_cons_zero, List.getElem?_cons_succ]
      refine wpQuiet_want rfl ?_
      intro Kx hKx
      refine ⟨.tuple #[.slice A7 LL.length c7, .int .i64 ((0 : Nat) : Int), .int .i64 ((0 : Nat) : Int)], fun w' hw' => ?_, hKx _ ?_⟩
      · unfold Oper.quietAt
        go_simp
      clear hKx Kx
      refine wpQuiet_nil ?_
      go_simp
      rw [wpMix3]
      simp only [List.getElem?_toArray, List.getElem?_cons_zero, List.getElem?_cons_succ]
      refine wpQuiet_want rfl ?_
      intro Kx hKx
      refine ⟨.slice A7 LL.length c7, fun w' hw' => ?_, hKx _ ?_⟩
      · unfold Oper.quietAt
        go_simp
      clear hKx Kx
      refine wpQuiet_nil ?_
      go_simp
      rw [wpMix3]
      simp only [List.getElem?_toArray, List.getElem?_cons_zero, List.getElem?_cons_succ]
      refine wpQuiet_want rfl ?_
      intro Kx hKx
      refine ⟨.int .i64 ((0 : Nat) : Int), fun w' hw' => ?_, hKx _ ?_⟩
      · unfold Oper.quietAt
        go_simp
      clear hKx Kx
      refine wpQuiet_nil ?_
      go_simp
      rw [wpMix3]
      simp only [List.getElem?_toArray, List.getElem?_cons_zero, List.getElem?_cons_succ]
      refine wpQuiet_want rfl ?_
      intro Kx hKx
      refine ⟨.int .i64 ((0 : Nat) : Int), fun w' hw' => ?_, hKx _ ?_⟩
      · unfold Oper.quietAt
        go_simp
      clear hKx Kx
      refine wpQuiet_nil ?_
      go_simp
      rw [wpMix3]
      simp only [List.getElem?_toArray, List.getElem?_cons_zero, List.getElem?_cons_succ]
      refine wpQuiet_want rfl ?_
      intro Kx hKx
      refine ⟨.slice A7 LL.length c7, fun w' hw' => ?_, hKx _ ?_⟩
      · unfold Oper.quietAt
        go_simp
      clear hKx Kx
      refine wpQuiet_nil ?_
      go_simp
      rw [wpMix3]
      simp only [List.getElem?_toArray, List.getElem?_cons_zero, List.getElem?_cons_succ]
      refine wpQuiet_want rfl ?_
      intro Kx hKx
      refine ⟨.int .i64 ((0 : Nat) : Int), fun w' hw' => ?_, hKx _ ?_⟩
      · unfold Oper.quietAt
        go_simp
      clear hKx Kx
      refine wpQuiet_nil ?_
      go_simp
      rw [wpMix3]
      simp only [List.getElem?_toArray, List.getElem?_cons_zero, List.getElem?_cons_succ]
      refine wpQuiet_want rfl ?_
      intro Kx hKx
      refine ⟨.int .i64 ((0 : Nat) : Int), fun w' hw' => ?_, hKx _ ?_⟩
      · unfold Oper.quietAt
        go_simp
      clear hKx Kx
      refine wpQuiet_nil ?_
      go_simp
      rw [wpMix3]
      rw [HCW.out.2.2.2]
      have HC7 := Lib.hid (And.intro HZ.out.1 (And.intro HZ.out.2.1 (And.intro (HB4.out.trans (HZ.out.2.2.2.mono HB4.out.size)) (Kd.C_below HCW.out.1 (HZ.out.2.2.2)))))
      rw [HCW.out.2.2.2] at HC7
      go_wp2_with (fail)
      have hNb : N ≤ 10000000001 := hlb
      go_loopg [52] N (fun kk t wr => ∃ i : Nat, i + kk = N ∧ t = .int .i64 (i : Nat) ∧ Below wz.heap.size wz wr)
      case atStart => exact ⟨0, by omega, rfl, Below.refl _ _⟩
      case round =>
        obtain ⟨i, hi, rfl, hb⟩ := hrel
        by_cases hlt : i < N
        · obtain ⟨g, o, rfl⟩ := row_spot HC7.out.2.2.2 (by omega)
          obtain ⟨g7, o7, rfl⟩ := row_spot HC7.out.2.1 (by omega)
          obtain ⟨⟨t0, t1, ⟨t2, t3, t4⟩, ⟨t5, t6, t7⟩⟩, hT⟩ : ∃ T, K.rd_T37 LW (i : Int) = T := ⟨_, rfl⟩
          obtain ⟨⟨e0, e1, ⟨e2, e3, e4⟩, ⟨e5, e6, e7⟩⟩, hTL⟩ : ∃ T, K.rd_T37 LL (i : Int) = T := ⟨_, rfl⟩
          have hl := HLAW.out.2.2.2 i (by rw [HCW.out.2.2.1]; exact hlt)
          rw [hT, hTL] at hl
          obtain ⟨hl0, hl1⟩ := hl
          simp only at hl0 hl1
          subst hl0 hl1
          obtain ⟨x0, x1, x2, x3, x4, x5, x6, x7⟩ := row_reads (Kd.C_below HC7.out.2.2.2 hb) i hlt hT
          have HI := Lib.hid (And.intro hi (And.intro hb (And.intro hTL hlt)))
          have hij : (i : Int) ≤ 10000000001 := by omega
          clear hi hb hT hTL
          go_upto_region 13 with (first
            | ((with_reducible refine gate_dst (N := 11) rfl ?_); refine box_event ?hg (N := 11) ?hd (cs := #[.int .i64 0, .string (⟨#[]⟩ : ByteArray), .int .i64 0, .int .i64 0, .int .i64 0, .int .i64 0, .int .i64 0, .int .i64 0]) (t := 37) ?hr ?_; (case hd => rfl); (case hg => rfl); (case hr => first | (go_simp; done) | (go_simp; rfl)); intro gb hg wb hbox hbb; clear x0 x1 x2 x3 x4 x5 x6 x7; have HBX := Lib.hid (And.intro hg (And.intro hbox hbb)); have fb := frozen_of_heap hbox; have z0 := cell_of_heap (j := 0) hbox; have z1 := cell_of_heap (j := 1) hbox; have z2 := cell_of_heap (j := 2) hbox; have z3 := cell_of_heap (j := 3) hbox; have z4 := cell_of_heap (j := 4) hbox; have z5 := cell_of_heap (j := 5) hbox; have z6 := cell_of_heap (j := 6) hbox; have z7 := cell_of_heap (j := 7) hbox; simp at z0 z1 z2 z3 z4 z5 z6 z7; clear hg hbox hbb))
          obtain ⟨wq, hwq⟩ : ∃ W, ((((((((wb.setCell ⟨gb, 0, none⟩ (.int .i64 e0)).setCell ⟨gb, 1, none⟩ (.string e1)).setCell ⟨gb, 2, none⟩ (.int .i64 t2)).setCell ⟨gb, 3, none⟩ (.int .i64 t3)).setCell ⟨gb, 4, none⟩ (.int .i64 t4)).setCell ⟨gb, 5, none⟩ (.int .i64 t5)).setCell ⟨gb, 6, none⟩ (.int .i64 t6)).setCell ⟨gb, 7, none⟩ (.int .i64 t7)) = W := ⟨_, rfl⟩
          rw [hwq]
          obtain ⟨q5, b5, s5⟩ := box8 HBX.out.2.1 _ _ _ _ _ _ _ _ hwq
          have hbq : Below wr.heap.size wr wq := HBX.out.2.2.trans (b5.mono (by rw [HBX.out.1]; exact Nat.le_refl _))
          have hB5 : Below wz.heap.size wz wq := HI.out.2.1.trans (hbq.mono HI.out.2.1.size)
          clear hwq fb z0 z1 z2 z3 z4 z5 z6 z7
          have z0 : wq.cell? ⟨gb, 0, none⟩ = some (.int .i64 e0) := (cell_of_heap q5 0).trans rfl
          have z1 : wq.cell? ⟨gb, 1, none⟩ = some (.string e1) := (cell_of_heap q5 1).trans rfl
          obtain ⟨y0, y1, -⟩ := row_reads (Kd.C_below HC7.out.2.1 hB5) i HI.out.2.2.2 HI.out.2.2.1
          have HQ := Lib.hid hB5
          clear q5 b5 s5 hbq hB5
          have hlt := HI.out.2.2.2
          refine wp_region_quiet_lit (by kernel_rfl) (by kernel_rfl) ?_
          repeat (go_big_quiet_step (fail))
          all_goals (refine wpQuiet_nil ?_; intro _ hw'; obtain ⟨nq, hw''⟩ := hw'; subst hw'')
          have HQ2 := Lib.hid (show Below wz.heap.size wz (wq.drewN nq) from ⟨HQ.out.os, HQ.out.tape, HQ.out.output, HQ.out.size, HQ.out.block⟩)
          clear y0 y1 z0 z1
          generalize wq.drewN nq = wy2 at HQ2 ⊢
          go_wp2_with (fail)
          go_roundg (N - (i + 1))
          case measure => have h1 := HI.out.1; have h2 := HI.out.2.2.2; omega
          case rel => exact ⟨i + 1, Nat.add_sub_of_le HI.out.2.2.2, by go_num, HQ2.out⟩
        · have HW := Lib.hid (HC7.out.2.2.1.trans (hb.mono HC7.out.2.2.1.size))
          clear hb
          go_wp2_with (first
            | (go_at_call 23; refine (works_at w _ HW.out HH.out.2.1).mono ?_; rintro e w9 ⟨rfl, hb9⟩))
          go_ret
          exact ⟨rfl, HW.out.trans (hb9.mono HW.out.size)⟩
  · have HH := Lib.hid hf
    clear hs hv hf
    go_enter Tryd.func3, Tryd.ntmps3
    go_wp2_with (first
      | (go_at_call 20; refine (fits_no _ s HH.out).mono ?_; rintro e w1 ⟨rfl, hb1⟩))
    go_ret
    exact ⟨rfl, (boxed w s).trans (hb1.mono (Nat.le_of_lt (boxed_lt _ _)))⟩
end Go.Proofs.YtmfihkgbfoapaaaDoor
