/- laws.FnSingle, walked. impl.Runes. laws.FnRunes, walked. -/
import Derived.Test.YtmfihkgbfoapaaaDoorV1
import Derived.Test.YtmfihkgbfoapaaaDoorU2
namespace Go.Proofs.YtmfihkgbfoapaaaDoor
set_option linter.unusedVariables false
set_option linter.unusedSimpArgs false
open Go Go.RowKit Go.Lib Go.BigFrame Go.Proofs.YtmfihkgbfoapaaaDoorW.PrintWords

def bare : Stp := ⟨false, 0, 0, false, ⟨#[]⟩, ⟨#[]⟩⟩
theorem bare_ok : bare.Ok := by constructor <;> (first | decide | (simp [bare]; done))
theorem hasBit_none (b : Int) : hasBit 0 b = false := by
  unfold hasBit bits
  simp
  rfl
theorem bare_mode : bare.cfg.mode = 0 := rfl
theorem bare_white : bare.cfg.white = 0 := rfl
theorem bare_one (src : List UInt8) (c : Item) (l : List Item) : oneAt bare.cfg src (c :: l) = One.self (c :: l) := by
  unfold oneAt oneId oneNum oneStr oneDot oneChr oneCom oneRaw
  simp only [bare_mode, hasBit_none]
  have h : ¬ chOf (c :: l) = -1 := by show ¬ ((c.r : Nat) : Int) = -1; omega
  rw [if_neg h]
  simp
theorem bare_end (src : List UInt8) : oneAt bare.cfg src [] = ⟨-1, [], 0, false⟩ := by
  unfold oneAt
  rw [chOf_nil, if_neg (by rw [bare.cfg.I.e0]; simp), if_neg (by decide), if_pos rfl]
theorem bare_more (l : List Item) : more (isWh bare.cfg.white) l = l := by
  cases l with
  | nil => rfl
  | cons c l =>
    unfold more
    rw [List.dropWhile_cons, if_neg]
    rw [bare_white]
    unfold isWh
    simp
theorem bare_scan (src : List UInt8) (c : Item) (l : List Item) : scanGo bare.cfg src (c :: l) = ⟨(c.r : Int), c :: l, l, 0⟩ := by
  rw [scanGo, dif_neg (by rw [bare_more, bare_one]; rintro ⟨h, -⟩; cases h), bare_more, bare_one]
  rfl
theorem bare_scan0 (src : List UInt8) : scanGo bare.cfg src [] = ⟨-1, [], [], 0⟩ := by
  rw [scanGo, dif_neg (by rw [bare_more, bare_end]; rintro ⟨h, -⟩; cases h), bare_more, bare_end]
theorem bare_toks (src : List UInt8) (l : List Item) : (toks bare.cfg src l).length = l.length + 1 ∧ errsOf (toks bare.cfg src l) = 0 ∧
    ((toks bare.cfg src l).map (tokOf src)).map (fun t => (⟨t.f0, t.f3⟩ : K.S48)) = runesOf src l := by
  induction l with
  | nil =>
    rw [toks, dif_neg (by rw [bare_scan0]; simp), bare_scan0]
    exact ⟨rfl, rfl, rfl⟩
  | cons c l ih =>
    rw [toks, dif_pos (by rw [bare_scan]; exact ⟨by show ((c.r : Nat) : Int) ≠ -1; omega, by simp⟩), bare_scan]
    refine ⟨by simp [ih.1], ?_, ?_⟩
    · have := ih.2.1
      unfold errsOf at this ⊢
      simpa using this
    · rw [List.map_cons, List.map_cons, ih.2.2]
      rfl
theorem sure_all {src : List UInt8} (h : sureL (items src) = true) : lexErrs (items src) = 0 ∧ startL src = items src := by
  have hok : ∀ c ∈ items src, okc c = true := by simpa [sureL] using h
  constructor
  · unfold lexErrs
    have : ∀ l : List Item, (∀ c ∈ l, okc c = true) → (l.map lexErr).sum = 0 := by
      intro l
      induction l with
      | nil => intro _; rfl
      | cons c l ih =>
        intro hl
        have h1 := hl c List.mem_cons_self
        rw [List.map_cons, List.sum_cons, ih fun x hx => hl x (List.mem_cons_of_mem _ hx)]
        unfold okc at h1
        simp at h1
        unfold lexErr
        simp [h1]
    exact this _ hok
  · unfold startL
    rw [if_neg]
    intro hc
    cases hi : items src with
    | nil => rw [hi] at hc; cases hc
    | cons c l =>
      rw [hi] at hc
      have := hok c (by rw [hi]; exact List.mem_cons_self)
      have hr : c.r = 65279 := by have : ((c.r : Nat) : Int) = 65279 := hc; omega
      unfold okc at this
      rw [hr] at this
      simp at this
theorem bare_err {src : List UInt8} (h : sureL (items src) = true) : errNum bare.cfg src = 0 := by
  unfold errNum
  rw [(sure_all h).1, (sure_all h).2, (bare_toks src _).2.1]
theorem rune_box {w4 : World} {q : Nat} (h : w4.heap[q]? = some (Obj.cells #[.int .i64 0, .int .i64 0, .int .i64 0, .int .i64 0] 48 (0, 0))) (a b c d : Int) {w5 : World}
    (hw : ((((w4.setCell ⟨q, 0, none⟩ (.int .i64 a)).setCell ⟨q, 1, none⟩ (.int .i64 b)).setCell ⟨q, 2, none⟩ (.int .i64 c)).setCell ⟨q, 3, none⟩ (.int .i64 d)) = w5) :
    w5.heap[q]? = some (Obj.cells #[.int .i64 a, .int .i64 b, .int .i64 c, .int .i64 d] 48 (0, 0)) ∧ Below q w4 w5 ∧ w5.heap.size = w4.heap.size := by
  have h0 := Go.Lib.heap_setCell_same (i := 0) h (.int .i64 a)
  have h1 := Go.Lib.heap_setCell_same (i := 1) h0 (.int .i64 b)
  have h2 := Go.Lib.heap_setCell_same (i := 2) h1 (.int .i64 c)
  have h3 := Go.Lib.heap_setCell_same (i := 3) h2 (.int .i64 d)
  rw [hw] at h3
  refine ⟨h3, ?_, ?_⟩
  · rw [← hw]
    exact ((((Below.refl q w4).setCell (p := ⟨q, 0, none⟩) (Nat.le_refl q) _).setCell (p := ⟨q, 1, none⟩) (Nat.le_refl q) _).setCell (p := ⟨q, 2, none⟩) (Nat.le_refl q) _).setCell (p := ⟨q, 3, none⟩) (Nat.le_refl q) _
  · rw [← hw]; simp only [World.size_setCell]
theorem rune_loads {W : World} {q : Nat} {a b c d : Int} (h : W.heap[q]? = some (Obj.cells #[.int .i64 a, .int .i64 b, .int .i64 c, .int .i64 d] 48 (0, 0))) :
    W.cell? ⟨q, 0, none⟩ = some (.int .i64 a) ∧ W.cell? ⟨q, 1, none⟩ = some (.int .i64 b) ∧ W.cell? ⟨q, 2, none⟩ = some (.int .i64 c) ∧ W.cell? ⟨q, 3, none⟩ = some (.int .i64 d) :=
  ⟨(cell_of_heap h 0).trans rfl, (cell_of_heap h 1).trans rfl, (cell_of_heap h 2).trans rfl, (cell_of_heap h 3).trans rfl⟩
set_option maxRecDepth 100000 in
set_option maxHeartbeats 1600000 in
theorem fnsingle (w : World) (a : Option Addr) (k : Nat) (src : List UInt8) (hs : SrcAt w.heap.size w a k src) (hv : Vars w.heap.size w) :
    Calls Tryd.prog 11 #[.slice a src.length k] w fun e w' => e = .returned (.bool true) ∧ Below w.heap.size w w' := by
  by_cases hbig : (2147483647 : Int) < src.length
  · clear hs hv
    go_enter Tryd.func11, Tryd.ntmps11
    go_wp2_with (fail)
    go_ret
    exact ⟨rfl, Below.refl _ _⟩
  have hl10 : src.length ≤ 10000000000 := by omega
  have HH := Lib.hid (And.intro hs (And.intro hv (And.intro hl10 hbig)))
  have hru := Lib.hid (runes_spec w a k src hs hl10)
  clear hs hv hl10
  obtain ⟨ts, hts⟩ : ∃ ts, (toks bare.cfg src (startL src)).map (tokOf src) = ts := ⟨_, rfl⟩
  obtain ⟨er, her⟩ : ∃ er, errNum bare.cfg src = er := ⟨_, rfl⟩
  have HT := Lib.hid (And.intro hts her)
  clear hts her
  go_enter Tryd.func11, Tryd.ntmps11
  go_upto_region 4 with (go_at_call 27; refine (hru.out).mono ?_; rintro e w1 (⟨hsure, rfl, hb1⟩ | ⟨hsure, A, c, rfl, hc, hC, hb1⟩))
  · have HB := Lib.hid (And.intro hsure hb1)
    clear hsure hb1
    go_wp2_with (first
      | (go_at_call 24; refine (tokens_at w _ a none k 0 src [] bare bare_ok HB.out.2 HH.out.1 (SzAt.nil _ _) HH.out.2.2.1 HH.out.2.1).mono ?_; unfold TokPost; rw [HT.out.1, HT.out.2]; rintro e w3 ⟨A, c, rfl, hc, hC, hb3⟩; have HB3 := Lib.hid (And.intro (HB.out.2.trans (hb3.mono HB.out.2.size)) (And.intro hc hC)); clear hb3 hC hc)
      | (go_at_call 23; refine (works_at w _ (HB3.out.1) HH.out.2.1).mono ?_; rintro e w7 ⟨rfl, hb7⟩))
    go_ret
    exact ⟨rfl, HB3.out.1.trans (hb7.mono HB3.out.1.size)⟩
  · have he0 := bare_err hsure
    rw [HT.out.2] at he0
    subst he0
    obtain ⟨L, hL⟩ : ∃ L, items src = L := ⟨_, rfl⟩
    have hst := (sure_all hsure).2
    have hts := HT.out.1
    rw [hst] at hts
    have hbt := bare_toks src (items src)
    rw [← List.length_map (f := tokOf src), hts] at hbt
    rw [hL] at hbt hC hc ⊢
    obtain ⟨rs, hrs⟩ : ∃ rs, runesOf src L = rs := ⟨_, rfl⟩
    have hrl := runesOf_len src L
    rw [hrs] at hbt hrl hC hc ⊢
    have hil := items_le src
    rw [hL] at hil
    have hle : rs.length = ts.length := by rw [hrl, hbt.1]
    rw [hle] at hC hc ⊢
    have hlb : (ts.length : Int) ≤ 2147483648 := by rw [hbt.1]; omega
    have HB := Lib.hid (And.intro hb1 (And.intro hc (And.intro hC (And.intro hbt.2.2 (And.intro hlb hle)))))
    clear hb1 hc hC hbt hrl hil hle hlb hts hst hL hrs hsure
    go_upto_region 9 with (first
      | (go_at_call 24; refine (tokens_at w _ a none k 0 src [] bare bare_ok HB.out.1 HH.out.1 (SzAt.nil _ _) HH.out.2.2.1 HH.out.2.1).mono ?_; unfold TokPost; rw [HT.out.1, HT.out.2]; rintro e w3 ⟨A2, c2, rfl, hc, hC, hb3⟩; have HB3 := Lib.hid (And.intro hb3 (And.intro hc hC)); clear hb3 hC hc))
    go_wp2_with (fail)
    go_loopg [39] ts.length (fun kk i wr => ∃ j : Nat, j + kk = ts.length ∧ i = .int .i64 (j : Nat) ∧ Below w3.heap.size w3 wr)
    case atStart => exact ⟨0, by omega, rfl, Below.refl _ _⟩
    case round =>
      obtain ⟨j, hj, rfl, hb⟩ := hrel
      have HL := Lib.hid hb
      have hjb : (j : Int) ≤ 2147483648 := by have := HB.out.2.2.2.2.1; omega
      by_cases hlt : j < ts.length
      · have HLT := Lib.hid hlt
        have hC1 := Kd.C_below HB.out.2.2.1 (HB3.out.1.trans (hb.mono HB3.out.1.size))
        have hC2 := Kd.C_below HB3.out.2.2 hb
        obtain ⟨ad1, e1, -⟩ := K.at_T48 HB.out.2.2.1 (j : Int) (by omega) (by omega)
        obtain ⟨ad2, e2, -⟩ := K.at_T37 HB3.out.2.2 (j : Int) (by omega) (by omega)
        cases e1
        cases e2
        obtain ⟨ad', e, x0, x1, x2, x3⟩ := K.at_T48 hC1 (j : Int) (by omega) (by omega)
        cases e
        have hread : K.rd_T48 rs (j : Int) = ⟨(K.rd_T37 ts (j : Int)).f0, (K.rd_T37 ts (j : Int)).f3⟩ := by
          unfold K.rd_T48 K.rd_T37
          rw [← HB.out.2.2.2.1]
          simp [List.getD_eq_getElem?_getD, List.getElem?_map, List.getElem?_eq_getElem hlt]
        rw [hread] at x0 x1 x2 x3
        obtain ⟨T, hT⟩ : ∃ T, K.rd_T37 ts (j : Int) = T := ⟨_, rfl⟩
        rw [hT] at x0 x1 x2 x3
        obtain ⟨t0, t1, ⟨t2, t3, t4⟩, ⟨t5, t6, t7⟩⟩ := T
        simp only [Int.toNat_natCast] at x0 x1 x2 x3
        have HTT := Lib.hid hT
        clear hread hT hC1 hC2 hb hlt
        go_upto_region 12 with (first
          | ((with_reducible refine gate_dst (N := 9) rfl ?_); refine box_event ?hg (N := 9) ?hd (cs := #[.int .i64 0, .int .i64 0, .int .i64 0, .int .i64 0]) (t := 48) ?hr ?_; (case hd => rfl); (case hg => rfl); (case hr => first | (go_simp; done) | (go_simp; rfl)); intro gb hg wb hbox hbb; clear x0 x1 x2 x3; have HBX := Lib.hid (And.intro hg (And.intro hbox hbb)); have fb := frozen_of_heap hbox; have z0 := cell_of_heap (j := 0) hbox; have z1 := cell_of_heap (j := 1) hbox; have z2 := cell_of_heap (j := 2) hbox; have z3 := cell_of_heap (j := 3) hbox; simp at z0 z1 z2 z3; clear hg hbox hbb))
        obtain ⟨wq, hwq⟩ : ∃ W, ((((wb.setCell ⟨gb, 0, none⟩ (.int .i64 t0)).setCell ⟨gb, 1, none⟩ (.int .i64 t5)).setCell ⟨gb, 2, none⟩ (.int .i64 t6)).setCell ⟨gb, 3, none⟩ (.int .i64 t7)) = W := ⟨_, rfl⟩
        rw [hwq]
        obtain ⟨q5, b5, s5⟩ := rune_box HBX.out.2.1 t0 t5 t6 t7 hwq
        have hbq : Below wr.heap.size wr wq := HBX.out.2.2.trans (b5.mono (by rw [HBX.out.1]; exact Nat.le_refl _))
        have hB5 : Below w3.heap.size w3 wq := HL.out.trans (hbq.mono HL.out.size)
        clear hwq fb z0 z1 z2 z3
        have HQ := Lib.hid (And.intro q5 hB5)
        have hC2 := Kd.C_below HB3.out.2.2 hB5
        clear q5 b5 s5 hbq hB5
        obtain ⟨ad', e, y0, y1, y2, y3, y4, y5, y6, y7⟩ := K.at_T37 hC2 (j : Int) (by omega) (by have := HLT.out; omega)
        cases e
        rw [HTT.out] at y0 y1 y2 y3 y4 y5 y6 y7
        simp only [Int.toNat_natCast] at y0 y1 y2 y3 y4 y5 y6 y7
        obtain ⟨z0, z1, z2, z3⟩ := rune_loads HQ.out.1
        have hlt := HLT.out
        clear hC2
        refine wp_region_quiet_lit (by kernel_rfl) (by kernel_rfl) ?_
        repeat (go_big_quiet_step (fail))
        all_goals (refine wpQuiet_nil ?_; intro _ hw'; obtain ⟨nq, hw''⟩ := hw'; subst hw'')
        have HQ2 := Lib.hid (show Below w3.heap.size w3 (wq.drewN nq) from ⟨HQ.out.2.os, HQ.out.2.tape, HQ.out.2.output, HQ.out.2.size, HQ.out.2.block⟩)
        clear y0 y1 y2 y3 y4 y5 y6 y7 z0 z1 z2 z3
        generalize wq.drewN nq = wz at HQ2 ⊢
        go_wp2_with (fail)
        go_roundg (ts.length - (j + 1))
        case measure => have := HLT.out; omega
        case rel => exact ⟨j + 1, Nat.add_sub_of_le HLT.out, by go_num, HQ2.out⟩
      · go_wp2_with (fail)
        go_ret
        exact ⟨rfl, HB.out.1.trans ((HB3.out.1.trans (HL.out.mono HB3.out.1.size)).mono HB.out.1.size)⟩
end Go.Proofs.YtmfihkgbfoapaaaDoor
namespace Go.Proofs.YtmfihkgbfoapaaaDoor
set_option linter.unusedVariables false
set_option linter.unusedSimpArgs false
open Go Go.RowKit Go.Lib Go.BigFrame Go.Proofs.YtmfihkgbfoapaaaDoorW.PrintWords

theorem R48_keep {w w1 : World} {base : Nat} {ok : Nat → Prop} {v : Value} {xs : List K.S48} (h : Kd.R K.k48 48 w base ok v xs) (hk : ∀ (g : Nat) (cs : Array Value), v.ownBlock = some g → w.heap[g]? = some (Obj.cells cs 48 (0, 0)) → w1.heap[g]? = some (Obj.cells cs 48 (0, 0))) : Kd.R K.k48 48 w1 base ok v xs := by
  obtain ⟨h0, inner, ⟨hl, ho⟩, hr⟩ := h
  refine ⟨h0, inner, ⟨hl, ?_⟩, ⟨hr.1, fun j p hp => ?_⟩⟩
  · rcases ho with ho | ⟨g, cap, cur, e1, e2, e3, e4⟩
    · exact .inl ho
    · exact .inr ⟨g, cap, cur, e1, e2, hk _ _ (by rw [e1]; rfl) e3, e4⟩
  · have := hr.2 j p hp
    rw [K.k48_openM this]
    exact K.k48_mkM _ _ _ _
theorem R48_block {w : World} {base : Nat} {ok : Nat → Prop} {v : Value} {xs : List K.S48} (h : Kd.R K.k48 48 w base ok v xs) {g : Nat} (hg : v.ownBlock = some g) : g < w.heap.size ∧ ∃ cs, w.heap[g]? = some (Obj.cells cs 48 (0, 0)) := by
  obtain ⟨h0, inner, ho, hr⟩ := h
  obtain ⟨cs, hc⟩ := own_typed ho g hg
  exact ⟨lt_of_heap hc, cs, hc⟩
theorem Fr.row48 {E : Env} {w w1 : World} {r : Regs} (hR : Raw E w r) (h : Fr (E.at w) w1) (g : Nat) (cs : Array Value) (hg : w.heap[g]? = some (.cells cs 48 (0, 0))) : w1.heap[g]? = some (.cells cs 48 (0, 0)) := by
  refine h.2 g _ hg ?_ ?_ ?_ (fun c fz h => by cases h)
  · intro e; obtain ⟨cs', hb⟩ := hR.tagb; have e' : g = E.b := e; rw [e', hb] at hg; cases hg
  · intro e; obtain ⟨a, c, hr, _⟩ := hR.rd; have e' : g = E.bR := e; rw [e', hr] at hg; cases hg
  · intro e; have hr := hR.cnt; have e' : g = E.bC := e; rw [e', hr] at hg; cases hg
theorem Raw.moved48 {E : Env} {w w1 : World} {r : Regs} (h : Raw E w r) (hlow : ∀ k, k < E.B → w1.heap[k]? = w.heap[k]?) (hk : ∀ (k : Nat) (cs : Array Value) (t : TypeId) (fr : Nat × Nat), t ≠ 48 → w.heap[k]? = some (Obj.cells cs t fr) → w1.heap[k]? = some (Obj.cells cs t fr)) : Raw (E.at w1) w1 r := by
  obtain ⟨hB, v, lr, ⟨cs, c1, c2⟩, ⟨hl, ho⟩, hne⟩ := h.buf
  refine ⟨⟨hB, v, lr, ⟨cs, hk _ _ _ _ (by decide) c1, c2⟩, ⟨hl, ?_⟩, hne⟩, h.blen, ?_, hk _ _ _ _ (by decide) h.cnt, hk _ _ _ _ (by decide) h.cap, h.BR, h.BC, h.szs.of hlow, Fr.refl _⟩
  · rcases ho with ho | ⟨g, cap, cur, e1, e2, e3, e4⟩
    · exact .inl ho
    · exact .inr ⟨g, cap, cur, e1, e2, hk _ _ _ _ (by decide) e3, e4⟩
  · have hrd := h.rd
    obtain ⟨a, c, hb, _⟩ := hrd
    exact h.rd.of (E := E) ((hk _ _ _ _ (by decide) hb).trans hb.symm) hlow rfl rfl
theorem Sl.moved48 {E : Env} {src : List UInt8} {w w1 : World} {l : List Item} {x : Sx} (h : Sl E src w l x) (hlow : ∀ k, k < E.B → w1.heap[k]? = w.heap[k]?) (hk : ∀ (k : Nat) (cs : Array Value) (t : TypeId) (fr : Nat × Nat), t ≠ 48 → w.heap[k]? = some (Obj.cells cs t fr) → w1.heap[k]? = some (Obj.cells cs t fr)) : Sl (E.at w1) src w1 l x := by
  obtain ⟨pre, r, h, h1⟩ := h; exact ⟨pre, r, h.moved48 hlow hk, h1⟩
theorem rune_stores {w4 : World} {q : Nat} {a : Int} (h : w4.heap[q]? = some (Obj.cells #[.int .i64 a, .int .i64 0, .int .i64 0, .int .i64 0] 48 (0, 0))) (b c d : Int) {w5 : World}
    (hw : (((w4.setCell ⟨q, 1, none⟩ (.int .i64 b)).setCell ⟨q, 2, none⟩ (.int .i64 c)).setCell ⟨q, 3, none⟩ (.int .i64 d)) = w5) :
    w5.heap[q]? = some (Obj.cells #[.int .i64 a, .int .i64 b, .int .i64 c, .int .i64 d] 48 (0, 0)) ∧ (∀ k, k ≠ q → w5.heap[k]? = w4.heap[k]?) ∧ Below q w4 w5 ∧ w5.heap.size = w4.heap.size := by
  have h1 := Go.Lib.heap_setCell_same (i := 1) h (.int .i64 b)
  have h2 := Go.Lib.heap_setCell_same (i := 2) h1 (.int .i64 c)
  have h3 := Go.Lib.heap_setCell_same (i := 3) h2 (.int .i64 d)
  rw [hw] at h3
  refine ⟨h3, fun k hk => ?_, ?_, ?_⟩
  · rw [← hw]; iterate 3 rw [Below.heap_setCell _ _ _ _ (by exact hk)]
  · rw [← hw]
    exact (((Below.refl q w4).setCell (p := ⟨q, 1, none⟩) (Nat.le_refl q) _).setCell (p := ⟨q, 2, none⟩) (Nat.le_refl q) _).setCell (p := ⟨q, 3, none⟩) (Nat.le_refl q) _
  · rw [← hw]; simp only [World.size_setCell]

set_option maxRecDepth 100000 in
set_option maxHeartbeats 3200000 in
theorem runes_run (w : World) (a1 a2 : Option Addr) (k1 k2 : Nat) (src : List UInt8) (sz : List Int)
    (hs : SrcAt w.heap.size w a1 k1 src) (hsz : SzAt w.heap.size w a2 sz) (hlen : Fits src) (hl10 : src.length ≤ 10000000000) (hv : Vars w.heap.size w) :
    Calls Tryd.prog 33 #[.slice a1 src.length k1, .slice a2 sz.length k2] w fun e w' =>
      ∃ v, e = .returned (.tuple #[v, .int .i64 (wrap64 (lexErrs (items src) : Nat))]) ∧
        Kd.R K.k48 48 w' w.heap.size (fun q => w.heap.size ≤ q) v (runesOf src (startL src)) ∧ Below w.heap.size w w' := by
  go_enter Tryd.func33, Tryd.ntmps33
  go_wp2_with (fail)
  obtain ⟨W, hW⟩ : ∃ W, w.alloc (Obj.cells #[Value.int IntKind.i64 0] 3) = W := ⟨_, rfl⟩
  rw [hW]
  obtain ⟨n, hn⟩ : ∃ n, w.heap.size = n := ⟨_, rfl⟩
  have t1 : W.heap[n]? = some (Obj.cells #[Value.int IntKind.i64 0] 3 (0, 0)) := by rw [← hW, ← hn]; exact heap_alloc_new _ _
  have t2 : Below n w W := by rw [← hW, ← hn]; exact (Below.refl _ w).alloc (Nat.le_refl _) _
  have t3 : W.heap.size = n + 1 := by rw [← hW, ← hn]; exact World.size_alloc _ _
  clear hW
  rw [hn] at hs hsz hv ⊢
  refine (start_spec W n n a1 a2 k1 k2 src sz true 0 0 false ⟨#[]⟩ ⟨#[]⟩ 20 (4 * 0) (mode_val (by omega) (by omega)) t1 (Nat.le_refl n) (hs.of fun k hk => t2.block k hk) (hsz.of fun k hk => t2.block k hk) hlen).mono ?_
  rintro e w3 ⟨E, rfl, hEB, hEp, hEw, hb, hbR, hB3, hS0, hid1, hid2⟩
  have hB : Below n w w3 := t2.trans (hB3.mono (by omega))
  have hE : E.at w3 = E := by rw [← hEw]; rfl
  have hrd : ∃ x, Ready (E.at w3) src w3 (startL src) x ∧ x.e = 0 := by
    rw [hE]; exact ⟨_, .inr ⟨hS0, rfl, rfl⟩, rfl⟩
  have HB := Lib.hid (And.intro hEB hEp)
  have HT := Lib.hid (And.intro hrd (And.intro (show Vars E.B w3 by rw [hEB]; exact hv.move hB) hB))
  have HN := Lib.hid hn
  clear hid1 hid2 hS0 hB3 hb hbR hE hEw t1 t2 t3 hs hsz hv hB hEB hEp hn hrd
  go_wp2_with (fail)
  go_loopg [4] (startL src).length (fun kk v wr => ∃ (l1 : List Item) (xs : List K.S48), l1.length = kk ∧ (∃ x, Ready (E.at wr) src wr l1 x ∧ x.e = 0) ∧ Vars E.B wr ∧ (∃ pre, items src = pre ++ l1) ∧ Kd.R K.k48 48 wr n (fun q => n ≤ q) v xs ∧ Below n w wr ∧
    xs ++ runesOf src l1 = runesOf src (startL src) ∧ xs.length + l1.length ≤ src.length)
  case atStart =>
    obtain ⟨pre, hpre⟩ := startL_pre src
    exact ⟨startL src, [], rfl, HT.out.1, HT.out.2.1, ⟨pre, hpre⟩, Kd.R_nil _ _ _ _ _, HT.out.2.2, by simp, by simpa using suffix_len hpre⟩
  case round =>
    obtain ⟨l1, xs, hk, ⟨x1, hrd, hxe⟩, hvs, hpre, hR, hBw, htk, hlx⟩ := hrel
    have hrng : -1 ≤ chOf l1 ∧ chOf l1 ≤ 1114111 := by obtain ⟨pre, hp⟩ := hpre; exact chOf_range hp
    have h55 := Lib.hid (nextch_sl (E.at wr) src wr l1 x1 hrd hvs.glob hlen)
    have HH := Lib.hid (And.intro hk (And.intro hpre (And.intro hR (And.intro hBw (And.intro htk (And.intro hlx hvs))))))
    have HRAW := Lib.hid hrd.frame
    clear hk hpre hR hBw htk hlx hvs hrd
    obtain ⟨G, hG⟩ : ∃ G, chOf l1 = G := ⟨_, rfl⟩
    rw [hG] at hrng h55
    go_upto_region 4 with (first
      | (go_at_call 55; refine (h55.out).mono ?_; clear h55; rintro e w1 ⟨rfl, h'⟩; have S := Lib.hid h'; clear h')
      | (go_at_call 44; refine (kind_spec _ _ (by omega)).mono ?_; rintro e w2 ⟨rfl, hb2⟩; have HB2 := Lib.hid hb2; clear hb2))
    obtain ⟨X, hX⟩ : ∃ X : Sx, ({ x1 with ch := chOf l1.tail, ln := 0, tok := none } : Sx) = X := ⟨_, rfl⟩
    rw [hX] at S
    have hXc : X.ch = chOf l1.tail ∧ X.e = 0 := by rw [← hX]; exact ⟨rfl, hxe⟩
    have hb3 : Below w2.heap.size w2 (w2.alloc (Obj.cells #[Value.int IntKind.i64 G, Value.int IntKind.i64 0, Value.int IntKind.i64 0, Value.int IntKind.i64 0] 48)) := (Below.refl _ w2).alloc (Nat.le_refl _) _
    have hq := heap_alloc_new w2 (Obj.cells #[Value.int IntKind.i64 G, Value.int IntKind.i64 0, Value.int IntKind.i64 0, Value.int IntKind.i64 0] 48)
    have S3 := (S.out.old HB2.out).old hb3
    generalize w2.alloc (Obj.cells #[Value.int IntKind.i64 G, Value.int IntKind.i64 0, Value.int IntKind.i64 0, Value.int IntKind.i64 0] 48) = wd at hb3 hq S3 ⊢
    obtain ⟨q, hqq⟩ : ∃ q, w2.heap.size = q := ⟨_, rfl⟩
    rw [hqq] at hq ⊢
    have HQ := Lib.hid (And.intro hqq (And.intro hb3 hq))
    have HXX := Lib.hid (And.intro hXc hX)
    have HS3 := Lib.hid S3
    clear hqq hb3 hq hX hXc S3
    have hpos : Calls Tryd.prog 48 #[.pointer (some ⟨E.b, 0, none⟩)] wd fun e w' => e = .returned (.agg #[.string ⟨#[]⟩, .int .i64 (offOf src l1.tail), .int .i64 (lineAt src l1.tail), .int .i64 (colAt src l1.tail)]) ∧ Below wd.heap.size wd w' := by
      obtain ⟨r, hr, hp⟩ := HS3.out.rebase.pos hlen
      exact pos_raw ((E.at wr).at wd) wd r _ _ _ hr hp
    have HP := Lib.hid hpos
    clear hpos
    obtain ⟨pO, hpO⟩ : ∃ z, (offOf src l1.tail) = z := ⟨_, rfl⟩
    obtain ⟨pL, hpL⟩ : ∃ z, (lineAt src l1.tail) = z := ⟨_, rfl⟩
    obtain ⟨pC, hpC⟩ : ∃ z, (colAt src l1.tail) = z := ⟨_, rfl⟩
    rw [hpO, hpL, hpC] at HP
    have HPP := Lib.hid (And.intro hpO (And.intro hpL hpC))
    clear hpO hpL hpC
    go_upto_region 5 with (first
      | (go_at_call 48; refine (HP.out).mono ?_; rintro e w3' ⟨rfl, hb3⟩; have HB3 := Lib.hid hb3; clear hb3)
      | (go_at_call 47; refine (place_spec _ _ _ _ _).mono ?_; rintro e w4 ⟨rfl, hb4⟩; have hq4 := (hb4.block q (Nat.lt_of_lt_of_le (lt_of_heap HQ.out.2.2) HB3.out.size)).trans ((HB3.out.block q (lt_of_heap HQ.out.2.2)).trans HQ.out.2.2); have HB4 := Lib.hid (And.intro (HB3.out.trans (hb4.mono HB3.out.size)) hq4); have d1 := cell_of_heap (j := 1) hq4; have d2 := cell_of_heap (j := 2) hq4; have d3 := cell_of_heap (j := 3) hq4; have f0 := frozen_of_heap hq4; simp at d1 d2 d3; clear hb4 hq4))
    obtain ⟨w5, hw5⟩ : ∃ W, (((w4.setCell ⟨q, 1, none⟩ (Value.int .i64 (pO : Nat))).setCell ⟨q, 2, none⟩ (Value.int .i64 (pL : Nat))).setCell ⟨q, 3, none⟩ (Value.int .i64 (pC : Nat))) = W := ⟨_, rfl⟩
    rw [hw5]
    obtain ⟨q5, o5, b5, s5⟩ := rune_stores HB4.out.2 (pO : Nat) (pL : Nat) (pC : Nat) hw5
    clear hw5 d1 d2 d3 f0
    have F1 : Fr (E.at wr) w1 := S.out.frame
    obtain ⟨r0, hr0⟩ := HRAW.out
    have e12 := HB2.out
    have e23 := HQ.out.2.1
    have e34 := HB4.out.1
    have hqw : w2.heap.size = q := HQ.out.1
    have hsz1 : wr.heap.size ≤ w1.heap.size := F1.1.size
    have hBn : n ≤ wr.heap.size := by
      have h1 := HH.out.2.2.2.1.size; have h2 := HN.out; omega
    have hnq : n ≤ q := by have := e12.size; omega
    have hown : ∀ g, u4.ownBlock = some g → g < q := fun g hg => by have := (R48_block HH.out.2.2.1 hg).1; have := e12.size; omega
    have own5 : ∀ (g : Nat) (cs : Array Value), u4.ownBlock = some g → wr.heap[g]? = some (Obj.cells cs 48 (0, 0)) → w5.heap[g]? = some (Obj.cells cs 48 (0, 0)) := by
      intro g cs hg0 hg
      have g1 := Fr.row48 hr0 F1 g _ hg
      have g2 := (e12.block g (lt_of_heap g1)).trans g1
      have g3 := (e23.block g (lt_of_heap g2)).trans g2
      have g4 := (e34.block g (lt_of_heap g3)).trans g3
      exact (o5 g (by have := hown g hg0; omega)).trans g4
    have hR5 : Kd.R K.k48 48 w5 n (fun q => n ≤ q) u4 xs := R48_keep HH.out.2.2.1 own5
    have hB5 : Below n w w5 := by
      have h1 := HH.out.2.2.2.1
      have hEB := HB.out.1
      have b1 : Below n wr w1 := by have := F1.1; rw [show (E.at wr).B = E.B from rfl, hEB] at this; exact this
      exact ((((h1.trans b1).trans (e12.mono (by omega))).trans (e23.mono (by omega))).trans (e34.mono (by have := e23.size; omega))).trans (b5.mono hnq)
    have S5 : Sl (E.at wr) src w4 l1.tail X := HS3.out.old e34
    have hszz : wr.heap.size ≤ w5.heap.size := by have h2 := e12.size; have h3 := e23.size; have h4 := e34.size; omega
    have c0 := cell_of_heap (j := 0) q5
    have c1 := cell_of_heap (j := 1) q5
    have c2 := cell_of_heap (j := 2) q5
    have c3 := cell_of_heap (j := 3) q5
    simp at c0 c1 c2 c3
    have H5 := Lib.hid (And.intro q5 (And.intro o5 (And.intro s5 (And.intro hR5 (And.intro hB5 (And.intro S5 (And.intro hown (And.intro hnq hszz))))))))
    have HL := Lib.hid hl10
    clear q5 o5 b5 s5 hR5 hB5 hl10 S5 hown hnq hszz own5 F1 hr0 e12 e23 e34 hqw hsz1 hBn
    go_upto_region 6 with (first | ((with_reducible refine gate_builtin (b := .append) (xs := #[.tmp 21, .tmp 23]) rfl ?_); at_builtin; refine Kd.R_append K.k48 (w0 := w) n rfl (.tmp 21) (.tmp 23) 44 48 (.agg #[.int .i64 0, .int .i64 0, .int .i64 0, .int .i64 0]) 32 rfl Tryd.underlying44 K.info48 rfl (by decide) (by omega) u4 xs ⟨G, ⟨(pO : Nat), (pL : Nat), (pC : Nat)⟩⟩ [.int .i64 G, .int .i64 (pO : Nat), .int .i64 (pL : Nat), .int .i64 (pC : Nat)] (fun k_ => (n ≤ k_)) (fun _ => False) rfl rfl ?aP (fun _ hk => hk.elim) ?aF ?aO ?aB ?aS ?aL ?_; (case aP => exact K.k48_mkM _ _ _ ⟨G, ⟨(pO : Nat), (pL : Nat), (pC : Nat)⟩⟩); (case aF => intro k_ hk; have := H5.out.2.2.2.2.1.size; have := HN.out; omega); (case aO => exact H5.out.2.2.2.1); (case aB => exact H5.out.2.2.2.2.1); (case aS => have := H5.out.2.2.2.2.1.size; have := HN.out; omega); (case aL => have h1 := HH.out.2.2.2.2.2.1; have h2 := HL.out; omega); intro v1 w6 ho hb hg hat; have HAP := Lib.hid (And.intro ho (And.intro hb hg)); clear ho hb hg hat))
    clear c0 c1 c2 c3
    obtain ⟨ho, hb, hg⟩ := HAP.out
    have hq6 := after_append H5.out.1 hg (fun e => by have := H5.out.2.2.2.2.2.2.1 q e; omega)
    have c0 : w6.cell? ⟨q, 0, none⟩ = some (.int .i64 G) := (cell_of_heap hq6 0).trans rfl
    have hlow : ∀ k, k < n → w6.heap[k]? = w4.heap[k]? := fun k hk => (hb.block k hk).trans ((H5.out.2.2.2.2.1.block k hk).symm.trans (H5.out.2.1 k (by have := H5.out.2.2.2.2.2.2.2.1; omega)))
    have S6 : Sl (E.at w6) src w6 l1.tail X := by
      refine Sl.moved48 (E := E.at wr) H5.out.2.2.2.2.2.1 (fun k hk => hlow k (by rw [← HB.out.1]; exact hk)) (fun k cs t fr ht h => ?_)
      have hkq : k ≠ q := fun e => by rw [e, HB4.out.2] at h; injection h with h; injection h with _ h _; exact ht h.symm
      have h5 := (H5.out.2.1 k hkq).trans h
      exact after_append h5 hg (fun e => by
        obtain ⟨_, cs', hc⟩ := R48_block H5.out.2.2.2.1 e
        rw [hc] at h5; injection h5 with h5; injection h5 with _ h5 _; exact ht h5.symm)
    have H6 := Lib.hid (And.intro ho (And.intro hb S6))
    have HGG := Lib.hid hG
    clear ho hb hg hq6 S6 hG hlow
    go_wp2_with (fail)
    · have hg1 : G = -1 := eq_of_beq (by with_reducible assumption)
      obtain ⟨ho, hb, S6⟩ := H6.out
      obtain ⟨pre6, r6, hr6, hd6, hX6⟩ := S6
      have c1 : w6.cell? ⟨E.b, 1040, none⟩ = some (.int .i64 r6.ec) := hr6.c_ec
      have HE := Lib.hid (And.intro hg1 (And.intro hd6 hX6))
      clear ho hb hr6 hd6 hX6 hg1 c0
      refine wp_region_quiet_lit (by kernel_rfl) (by kernel_rfl) ?_
      repeat (go_big_quiet_step (fail))
      all_goals (refine wpQuiet_nil ?_; intro _ hw'; obtain ⟨nq, hw''⟩ := hw'; subst hw'')
      clear c1
      go_wp2_with (fail)
      obtain ⟨hg1, hd6, hX6⟩ := HE.out
      have hnil : l1 = [] := comRun_nil (by rw [HGG.out, hg1]; decide)
      subst hnil
      refine bodyPost_ret (v := .tuple #[v1, .int .i64 r6.ec]) (by simp [results, Tryd.results33, go_sem]) rfl ?_
      have hec : r6.ec = wrap64 (lexErrs (items src) : Nat) := by
        have hsp := hd6.split
        have h0 := hX6.ec
        have hle : lexErrs (pre6 ++ ([] : List Item).tail.take 1) = lexErrs (items src) := by
          rw [hsp]; simp
        rw [hle] at h0
        have hXe : X.e = 0 := HXX.out.1.2
        rw [h0]; congr 1; show X.e + _ = _; rw [hXe]; omega
      have htk := HH.out.2.2.2.2.1
      have hR : Kd.R K.k48 48 (w6.drewN nq) n (fun q => n ≤ q) v1 (xs ++ [⟨G, ⟨(pO : Nat), (pL : Nat), (pC : Nat)⟩⟩]) := H6.out.1
      have hb6 : Below n w (w6.drewN nq) := ⟨H6.out.2.1.os, H6.out.2.1.tape, H6.out.2.1.output, H6.out.2.1.size, H6.out.2.1.block⟩
      have hone : runesOf src [] = [⟨G, ⟨(pO : Nat), (pL : Nat), (pC : Nat)⟩⟩] := by
        rw [hg1, ← HPP.out.1, ← HPP.out.2.1, ← HPP.out.2.2]; rfl
      rw [hone] at htk
      rw [htk] at hR
      refine ⟨v1, by rw [hec], ?_, ?_⟩
      · rw [HN.out]; exact hR
      · rw [HN.out]; exact hb6
    · obtain ⟨ho, hb, S6⟩ := H6.out
      have hne : G ≠ -1 := beq_eq_false_iff_ne.1 (by with_reducible assumption)
      obtain ⟨hk, hpre, hR, hBw, htk, hlx, hvs⟩ := HH.out
      cases l1 with
      | nil => exact absurd HGG.out.symm (by rw [chOf_nil]; exact hne)
      | cons c l1 =>
        have hbwr : Below n wr w6 := ⟨hb.os.trans hBw.os.symm, hb.tape.trans hBw.tape.symm, hb.output.trans hBw.output.symm, (by have h1 := H5.out.2.2.2.2.2.2.2.2; have h3 := HAP.out.2.2.size; omega), fun k hk => (hb.block k hk).trans (hBw.block k hk).symm⟩
        have hone : runesOf src (c :: l1) = (⟨G, ⟨(pO : Nat), (pL : Nat), (pC : Nat)⟩⟩ : K.S48) :: runesOf src l1 := by
          rw [← HGG.out, ← HPP.out.1, ← HPP.out.2.1, ← HPP.out.2.2]; rfl
        rw [hone] at htk
        obtain ⟨pre, hpre⟩ := hpre
        go_roundg l1.length
        case measure => rw [← hk]; simp
        case rel => exact ⟨l1, xs ++ [⟨G, ⟨(pO : Nat), (pL : Nat), (pC : Nat)⟩⟩], rfl, ⟨X, .inl ⟨S6, HXX.out.1.1⟩, HXX.out.1.2⟩, hvs.move (by rw [HB.out.1]; exact hbwr), ⟨pre ++ [c], by rw [hpre]; simp⟩, ho, hb, by rw [← htk]; simp, by simp only [List.length_append, List.length_cons, List.length_nil] at hlx ⊢; omega⟩
end Go.Proofs.YtmfihkgbfoapaaaDoor
namespace Go.Proofs.YtmfihkgbfoapaaaDoor
set_option linter.unusedVariables false
set_option linter.unusedSimpArgs false
open Go Go.RowKit Go.Lib Go.BigFrame Go.Proofs.YtmfihkgbfoapaaaDoorW.PrintWords

def RunesPost2 (w : World) (src : List UInt8) (e : Ending) (w' : World) : Prop :=
  ∃ A c, e = .returned (.tuple #[.slice A (runesOf src (startL src)).length c, .int .i64 (wrap64 (lexErrs (items src) : Nat))]) ∧ (runesOf src (startL src)).length ≤ c ∧ Kd.C K.k48 w' A (runesOf src (startL src)).length (runesOf src (startL src)) ∧ Below w.heap.size w w'
theorem runes_at (w0 w : World) (a1 a2 : Option Addr) (k1 k2 n2 : Nat) (src : List UInt8) (sz : List Int) (hn : sz.length = n2) (hb : Below w0.heap.size w0 w)
    (hs : SrcAt w0.heap.size w0 a1 k1 src) (hsz : SzAt w.heap.size w a2 sz) (hl : src.length ≤ 10000000000) (hv : Vars w0.heap.size w0) :
    Calls Tryd.prog 33 #[.slice a1 src.length k1, .slice a2 n2 k2] w (RunesPost2 w src) := by
  subst hn
  refine (runes_run w a1 a2 k1 k2 src sz (hs.up hb hb.size) hsz (by unfold Fits; omega) hl ((hv.move hb).mono hb.size)).mono ?_
  rintro e w' ⟨v, rfl, hR, hb'⟩
  obtain ⟨A, c, rfl, hc, hC⟩ := Kd.R_reads hR
  exact ⟨A, c, rfl, hc, hC, hb'⟩
set_option maxRecDepth 100000 in
set_option maxHeartbeats 1600000 in
theorem fnrunes (w : World) (a : Option Addr) (k : Nat) (src : List UInt8) (a2 : Option Addr) (k2 : Nat) (l : List Int) (hs : SrcAt w.heap.size w a k src) (hz : SzAt w.heap.size w a2 l) (hzc : l.length ≤ k2) (hzw : ∀ z ∈ l, (Lit.int .i64 z).wf = true) (hv : Vars w.heap.size w) :
    Calls Tryd.prog 17 #[.slice a src.length k, .slice a2 l.length k2] w fun e w' => e = .returned (.bool true) ∧ Below w.heap.size w w' := by
  clear hzw
  by_cases hbig : (2147483647 : Int) < src.length
  · clear hs hz hzc hv
    go_enter Tryd.func17, Tryd.ntmps17
    go_wp2_with (fail)
    go_ret
    exact ⟨rfl, Below.refl _ _⟩
  by_cases hbig2 : (2147483647 : Int) < l.length
  · clear hs hz hzc hv
    go_enter Tryd.func17, Tryd.ntmps17
    go_wp2_with (fail)
    go_ret
    exact ⟨rfl, Below.refl _ _⟩
  have hl10 : src.length ≤ 10000000000 := by omega
  have HH := Lib.hid (And.intro hs (And.intro hv (And.intro hl10 (And.intro hz (And.intro hzc (show l.length ≤ 2147483647 by omega))))))
  have hru := Lib.hid (runes_spec w a k src hs hl10)
  clear hs hv hl10 hz hzc
  obtain ⟨rs2, hrs2⟩ : ∃ ts, runesOf src (startL src) = ts := ⟨_, rfl⟩
  obtain ⟨er, her⟩ : ∃ er, wrap64 (lexErrs (items src) : Nat) = er := ⟨_, rfl⟩
  have HT := Lib.hid (And.intro hrs2 her)
  clear hrs2 her
  go_enter Tryd.func17, Tryd.ntmps17
  go_upto_region 4 with (go_at_call 27; refine (hru.out).mono ?_; rintro e w1 (⟨hsure, rfl, hb1⟩ | ⟨hsure, A, c, rfl, hc, hC, hb1⟩))
  · have HB := Lib.hid (And.intro hsure hb1)
    clear hsure hb1
    go_wp2_with (first
      | (go_at_call 28; refine (sizes_at w _ HB.out.2 a2 k2 l HH.out.2.2.2.1 HH.out.2.2.2.2.2 HH.out.2.2.2.2.1).mono ?_; rintro e w5 ⟨A5, c5, rfl, hz5, hb5⟩; have HB5 := Lib.hid (And.intro (HB.out.2.trans (hb5.mono HB.out.2.size)) hz5); clear hz5 hb5)
      | (go_at_call 33; refine (runes_at w _ a A5 k c5 l.length src (l.map size1) (by rw [List.length_map]) HB5.out.1 HH.out.1 HB5.out.2 HH.out.2.2.1 HH.out.2.1).mono ?_; unfold RunesPost2; rw [HT.out.1, HT.out.2]; rintro e w3 ⟨A, c, rfl, hc, hC, hb3⟩; have HB3 := Lib.hid (And.intro (HB5.out.1.trans (hb3.mono HB5.out.1.size)) (And.intro hc hC)); clear hb3 hC hc)
      | (go_at_call 23; refine (works_at w _ (HB3.out.1) HH.out.2.1).mono ?_; rintro e w7 ⟨rfl, hb7⟩))
    go_ret
    exact ⟨rfl, HB3.out.1.trans (hb7.mono HB3.out.1.size)⟩
  · have he0 := (sure_all hsure).1
    have her := HT.out.2
    rw [he0] at her
    have her0 : er = 0 := by rw [← her]; exact wrap64_id (x := ((0 : Nat) : Int)) (by omega) (by omega)
    subst her0
    have hst := (sure_all hsure).2
    have hrs := HT.out.1
    rw [hst] at hrs
    rw [hrs] at hC hc ⊢
    have hrl := runesOf_len src (items src)
    rw [hrs] at hrl
    have hil := items_le src
    have hlb : (rs2.length : Int) ≤ 2147483648 := by rw [hrl]; omega
    have HB := Lib.hid (And.intro hb1 (And.intro hc (And.intro hC hlb)))
    clear hb1 hc hC hlb hrl hil hrs hst her he0 hsure
    go_upto_region 9 with (first
      | (go_at_call 28; refine (sizes_at w _ HB.out.1 a2 k2 l HH.out.2.2.2.1 HH.out.2.2.2.2.2 HH.out.2.2.2.2.1).mono ?_; rintro e w5 ⟨A5, c5, rfl, hz5, hb5⟩; have HB5 := Lib.hid (And.intro (HB.out.1.trans (hb5.mono HB.out.1.size)) (And.intro hz5 hb5)); clear hz5 hb5)
      | (go_at_call 33; refine (runes_at w _ a A5 k c5 l.length src (l.map size1) (by rw [List.length_map]) HB5.out.1 HH.out.1 HB5.out.2.1 HH.out.2.2.1 HH.out.2.1).mono ?_; unfold RunesPost2; rw [HT.out.1, HT.out.2]; rintro e w3 ⟨A2, c2, rfl, hc, hC, hb3⟩; have HB3 := Lib.hid (And.intro (HB5.out.2.2.trans (hb3.mono HB5.out.2.2.size)) (And.intro hc hC)); clear hb3 hC hc))
    go_wp2_with (fail)
    go_loopg [45] rs2.length (fun kk i wr => ∃ j : Nat, j + kk = rs2.length ∧ i = .int .i64 (j : Nat) ∧ Below w3.heap.size w3 wr)
    case atStart => exact ⟨0, by omega, rfl, Below.refl _ _⟩
    case round =>
      obtain ⟨j, hj, rfl, hb⟩ := hrel
      have HL := Lib.hid hb
      have hjb : (j : Int) ≤ 2147483648 := by have := HB.out.2.2.2; omega
      by_cases hlt : j < rs2.length
      · have HLT := Lib.hid hlt
        have hC1 := Kd.C_below HB.out.2.2.1 (HB3.out.1.trans (hb.mono HB3.out.1.size))
        obtain ⟨ad1, e1, -⟩ := K.at_T48 HB.out.2.2.1 (j : Int) (by omega) (by omega)
        obtain ⟨ad2, e2, -⟩ := K.at_T48 HB3.out.2.2 (j : Int) (by omega) (by omega)
        cases e1
        cases e2
        obtain ⟨ad', e, x0, x1, x2, x3⟩ := K.at_T48 hC1 (j : Int) (by omega) (by omega)
        cases e
        obtain ⟨T, hT⟩ : ∃ T, K.rd_T48 rs2 (j : Int) = T := ⟨_, rfl⟩
        rw [hT] at x0 x1 x2 x3
        obtain ⟨t0, ⟨t5, t6, t7⟩⟩ := T
        simp only [Int.toNat_natCast] at x0 x1 x2 x3
        have HTT := Lib.hid hT
        clear hT hC1 hb hlt
        go_upto_region 12 with (first
          | ((with_reducible refine gate_dst (N := 10) rfl ?_); refine box_event ?hg (N := 10) ?hd (cs := #[.int .i64 0, .int .i64 0, .int .i64 0, .int .i64 0]) (t := 48) ?hr ?_; (case hd => rfl); (case hg => rfl); (case hr => first | (go_simp; done) | (go_simp; rfl)); intro gb hg wb hbox hbb; clear x0 x1 x2 x3; have HBX := Lib.hid (And.intro hg (And.intro hbox hbb)); have fb := frozen_of_heap hbox; have z0 := cell_of_heap (j := 0) hbox; have z1 := cell_of_heap (j := 1) hbox; have z2 := cell_of_heap (j := 2) hbox; have z3 := cell_of_heap (j := 3) hbox; simp at z0 z1 z2 z3; clear hg hbox hbb))
        obtain ⟨wq, hwq⟩ : ∃ W, ((((wb.setCell ⟨gb, 0, none⟩ (.int .i64 t0)).setCell ⟨gb, 1, none⟩ (.int .i64 t5)).setCell ⟨gb, 2, none⟩ (.int .i64 t6)).setCell ⟨gb, 3, none⟩ (.int .i64 t7)) = W := ⟨_, rfl⟩
        rw [hwq]
        obtain ⟨q5, b5, s5⟩ := rune_box HBX.out.2.1 t0 t5 t6 t7 hwq
        have hbq : Below wr.heap.size wr wq := HBX.out.2.2.trans (b5.mono (by rw [HBX.out.1]; exact Nat.le_refl _))
        have hB5 : Below w3.heap.size w3 wq := HL.out.trans (hbq.mono HL.out.size)
        clear hwq fb z0 z1 z2 z3
        have HQ := Lib.hid (And.intro q5 hB5)
        have hC2 := Kd.C_below HB3.out.2.2 hB5
        clear q5 b5 s5 hbq hB5
        obtain ⟨ad', e, y0, y5, y6, y7⟩ := K.at_T48 hC2 (j : Int) (by omega) (by have := HLT.out; omega)
        cases e
        rw [HTT.out] at y0 y5 y6 y7
        simp only [Int.toNat_natCast] at y0 y5 y6 y7
        obtain ⟨z0, z1, z2, z3⟩ := rune_loads HQ.out.1
        have hlt := HLT.out
        clear hC2
        refine wp_region_quiet_lit (by kernel_rfl) (by kernel_rfl) ?_
        repeat (go_big_quiet_step (fail))
        all_goals (refine wpQuiet_nil ?_; intro _ hw'; obtain ⟨nq, hw''⟩ := hw'; subst hw'')
        have HQ2 := Lib.hid (show Below w3.heap.size w3 (wq.drewN nq) from ⟨HQ.out.2.os, HQ.out.2.tape, HQ.out.2.output, HQ.out.2.size, HQ.out.2.block⟩)
        clear y0 y5 y6 y7 z0 z1 z2 z3
        generalize wq.drewN nq = wz at HQ2 ⊢
        go_wp2_with (fail)
        go_roundg (rs2.length - (j + 1))
        case measure => have := HLT.out; omega
        case rel => exact ⟨j + 1, Nat.add_sub_of_le HLT.out, by go_num, HQ2.out⟩
      · go_wp2_with (fail)
        go_ret
        exact ⟨rfl, HB.out.1.trans ((HB3.out.1.trans (HL.out.mono HB3.out.1.size)).mono HB.out.1.size)⟩
end Go.Proofs.YtmfihkgbfoapaaaDoor
