/- spec.Runes. -/
import Derived.Test.YtmfihkgbfoapaaaDoorV0
namespace Go.Proofs.YtmfihkgbfoapaaaDoor
set_option linter.unusedVariables false
set_option linter.unusedSimpArgs false
open Go Go.RowKit Go.Lib Go.BigFrame Go.Proofs.YtmfihkgbfoapaaaDoorW.PrintWords

theorem drew_alloc (w : World) (o : Obj) : (w.alloc o).drew = w.drew.alloc o := rfl
/-- What Next gives, by the reference. -/
def runesOf (src : List UInt8) : List Item → List K.S48
  | [] => [⟨-1, (chr src []).f2⟩]
  | c :: l => ⟨(c.r : Int), (chr src l).f2⟩ :: runesOf src l
theorem runesOf_len (src : List UInt8) (l : List Item) : (runesOf src l).length = l.length + 1 := by
  induction l with
  | nil => rfl
  | cons c l ih => simp only [runesOf, List.length_cons, ih]
theorem charsOf_get (src : List UInt8) (l : List Item) (j : Nat) (h : j ≤ l.length) : (charsOf src l)[j]? = some (chr src (l.drop j)) := by
  induction l generalizing j with
  | nil =>
    obtain rfl : j = 0 := by simpa using h
    rfl
  | cons c l ih =>
    cases j with
    | zero => rfl
    | succ j => simpa [charsOf] using ih j (by simpa using h)
theorem rd_chars (src : List UInt8) (l : List Item) (j : Nat) (h : j ≤ l.length) : K.rd_T90 (charsOf src l) (j : Int) = chr src (l.drop j) := by
  unfold K.rd_T90; rw [Int.toNat_natCast, List.getD_eq_getElem?_getD, charsOf_get src l j h]; rfl
theorem runesOf_get (src : List UInt8) (l : List Item) (j : Nat) (h : j ≤ l.length) : (runesOf src l)[j]? = some ⟨chOf (l.drop j), (chr src (l.drop (min (j + 1) l.length))).f2⟩ := by
  induction l generalizing j with
  | nil =>
    obtain rfl : j = 0 := by simpa using h
    rfl
  | cons c l ih =>
    cases j with
    | zero =>
      have : min 1 (l.length + 1) = 1 := by omega
      simp only [List.length_cons, Nat.zero_add, this]
      rfl
    | succ j =>
      have := ih j (by simpa using h)
      simp only [runesOf, List.getElem?_cons_succ, this, List.drop_succ_cons, List.length_cons]
      have e : min (j + 1 + 1) (l.length + 1) = min (j + 1) l.length + 1 := by omega
      rw [e, List.drop_succ_cons]
def RunesPost (w : World) (src : List UInt8) (e : Ending) (w' : World) : Prop :=
  (sureL (items src) = false ∧ e = .returned (.tuple #[.slice none 0 0, .bool false]) ∧ Below w.heap.size w w') ∨
  (sureL (items src) = true ∧ ∃ A c, e = .returned (.tuple #[.slice A (runesOf src (items src)).length c, .bool true]) ∧ (runesOf src (items src)).length ≤ c ∧ Kd.C K.k48 w' A (runesOf src (items src)).length (runesOf src (items src)) ∧ Below w.heap.size w w')
set_option maxRecDepth 100000 in
set_option maxHeartbeats 3200000 in
theorem runes_spec (w : World) (a : Option Addr) (k : Nat) (src : List UInt8) (hs : SrcAt w.heap.size w a k src) (hl10 : src.length ≤ 10000000000) : Calls Tryd.prog 27 #[.slice a src.length k] w (RunesPost w src) := by
  have hch := Lib.hid (chars_spec w a k src hs hl10)
  have hil := items_le src
  have HL := Lib.hid (And.intro hl10 hil)
  clear hs
  go_enter Tryd.func27, Tryd.ntmps27
  go_upto_region 2 with (go_at_call 39; refine (hch.out).mono ?_; rintro e w1 (⟨hsure, rfl, hb1⟩ | ⟨hsure, A, c, rfl, hc, hC, hb1⟩))
  · go_wp2_with (fail)
    exact bodyPost_ret (v := .tuple #[.slice none 0 0, .bool false]) (by simp [results, Tryd.results27, go_sem]) rfl (.inl ⟨hsure, rfl, hb1⟩)
  · have H1 := Lib.hid (And.intro hsure (And.intro hc (And.intro hC hb1)))
    clear hsure hc hC hb1
    obtain ⟨L, hL⟩ : ∃ L, items src = L := ⟨_, rfl⟩
    rw [hL] at H1 hil ⊢
    have HLL := Lib.hid hL
    clear hL
    have hcl := charsOf_len src L
    rw [hcl]
    have HCL := Lib.hid hcl
    clear hcl
    go_wp2_with (fail)
    go_loopg [2, 16] (L.length + 1) (fun kk v t wr => ∃ j : Nat, j + kk = L.length + 1 ∧ t = .int .i64 (j : Nat) ∧ Kd.R K.k48 48 wr w1.heap.size (fun q => w1.heap.size ≤ q) v ((runesOf src L).take j) ∧ Below w1.heap.size w1 wr)
    case atStart => exact ⟨0, by omega, rfl, Kd.R_nil _ _ _ _ _, Below.refl _ _⟩
    case round =>
      obtain ⟨j, hj, rfl, hR, hb⟩ := hrel
      have HR := Lib.hid (And.intro hR hb)
      clear hR hb
      by_cases hlt : j < L.length + 1
      · have HLT := Lib.hid hlt
        have hjb : (j : Int) ≤ 10000000000 := by have := HL.out.2; rw [HLL.out] at this; have := HL.out.1; omega
        have hC := H1.out.2.2.1
        obtain ⟨ad, e, x0, -⟩ := K.at_T90 hC (j : Int) (by omega) (by rw [charsOf_len]; omega)
        obtain ⟨ad', e', -, -, y0, y1, y2⟩ := K.at_T90 hC ((min (j + 1) L.length : Nat) : Int) (by omega) (by rw [charsOf_len]; omega)
        rw [e] at e'
        injection e' with e'
        subst e'
        rw [rd_chars src L j (by omega)] at x0
        rw [rd_chars src L _ (Nat.min_le_right _ _)] at y0 y1 y2
        obtain ⟨g, o, spot⟩ := ad
        obtain ⟨ad0, e0, z0, -⟩ := K.at_T90 hC 0 (by omega) (by rw [charsOf_len]; omega)
        rw [e] at e0
        injection e0 with e0
        subst e0
        have hspot : spot = none := by simpa [Addr.add] using World.cell?_spot z0
        clear z0
        subst hspot
        subst e
        simp only [Int.toNat_natCast, Addr.add_lit] at x0 y0 y1 y2
        obtain ⟨q, hq⟩ : ∃ q, min (j + 1) L.length = q := ⟨_, rfl⟩
        rw [hq] at y0 y1 y2
        have hget := runesOf_get src L j (by omega)
        rw [hq] at hget
        obtain ⟨cr, hcr⟩ : ∃ x, chOf (L.drop j) = x := ⟨_, rfl⟩
        have x0' : w1.cell? ⟨g, o + j * 5, none⟩ = some (.int .i32 cr) := by rw [← hcr]; exact x0
        obtain ⟨P, hP⟩ : ∃ P, (chr src (L.drop q)).f2 = P := ⟨_, rfl⟩
        rw [hP] at y0 y1 y2 hget
        rw [hcr] at hget
        have HG := Lib.hid (And.intro hq hget)
        have HLB := Lib.hid hjb
        have crb : -1 ≤ cr ∧ cr ≤ 1114111 := by rw [← hcr]; exact chOf_range (src := src) (pre := L.take j) (by rw [HLL.out, List.take_append_drop])
        clear x0 hcr hP hget hq hC
        obtain ⟨P0, P1, P2⟩ := P
        have hcr1 := crb
        go_upto_region 7 with (fail)
        have HX := Lib.hid (And.intro (fun (w' : World) (h : Below w1.heap.size w1 w') => (h.cell (World.block_lt_of_cell? w1 _ x0')).trans x0') (fun (w' : World) (h : Below w1.heap.size w1 w') => And.intro ((h.cell (World.block_lt_of_cell? w1 _ y0)).trans y0) (And.intro ((h.cell (World.block_lt_of_cell? w1 _ y1)).trans y1) ((h.cell (World.block_lt_of_cell? w1 _ y2)).trans y2))))
        clear x0' y0 y1 y2
        obtain ⟨crl, crh⟩ := hcr1
        refine wp_region_mix (fun w' => Below w1.heap.size w1 w') [(false, 0), (false, 1), (false, 2), (false, 3), (false, 4), (false, 5), (false, 6), (false, 7), (false, 8), (false, 9), (false, 10), (true, 11), (false, 12), (true, 13), (false, 14), (false, 15), (false, 16), (false, 17), (true, 18), (true, 19), (false, 20)] (by kernel_rfl) (by kernel_rfl) HR.out.2.drew ?_
        by_cases hjl : j < L.length
        · obtain rfl : q = j + 1 := by have := HG.out.1; omega
          have hmn : min ((j : Int) + 1) (L.length : Int) = (j : Int) + 1 := by omega
          rw [wpMix]
          simp only [List.getElem?_toArray, List.getElem?_cons_zero, List.getElem?_cons_succ]
          refine wpQuiet_want rfl ?_
          intro Kx hKx
          refine ⟨u2, fun w' hw' => ?_, hKx _ ?_⟩
          · unfold Oper.quietAt
            go_simp
          clear hKx Kx
          refine wpQuiet_nil ?_
          rw [wpMix]
          simp only [List.getElem?_toArray, List.getElem?_cons_zero, List.getElem?_cons_succ]
          refine wpQuiet_want rfl ?_
          intro Kx hKx
          refine ⟨.slice (some ⟨g, o, none⟩) (L.length + 1) c, fun w' hw' => ?_, hKx _ ?_⟩
          · unfold Oper.quietAt
            go_simp
          clear hKx Kx
          refine wpQuiet_nil ?_
          rw [wpMix]
          simp only [List.getElem?_toArray, List.getElem?_cons_zero, List.getElem?_cons_succ]
          refine wpQuiet_want rfl ?_
          intro Kx hKx
          refine ⟨.int .i64 (j : Nat), fun w' hw' => ?_, hKx _ ?_⟩
          · unfold Oper.quietAt
            go_simp
          clear hKx Kx
          refine wpQuiet_nil ?_
          rw [wpMix]
          simp only [List.getElem?_toArray, List.getElem?_cons_zero, List.getElem?_cons_succ]
          refine wpQuiet_want rfl ?_
          intro Kx hKx
          refine ⟨.pointer (some ⟨g, o + j * 5, none⟩), fun w' hw' => ?_, hKx _ ?_⟩
          · unfold Oper.quietAt
            go_simp
          clear hKx Kx
          refine wpQuiet_nil ?_
          rw [wpMix]
          simp only [List.getElem?_toArray, List.getElem?_cons_zero, List.getElem?_cons_succ]
          refine wpQuiet_want rfl ?_
          intro Kx hKx
          refine ⟨.pointer (some ⟨g, o + j * 5, none⟩), fun w' hw' => ?_, hKx _ ?_⟩
          · unfold Oper.quietAt
            go_simp
          clear hKx Kx
          refine wpQuiet_nil ?_
          rw [wpMix]
          simp only [List.getElem?_toArray, List.getElem?_cons_zero, List.getElem?_cons_succ]
          refine wpQuiet_want rfl ?_
          intro Kx hKx
          refine ⟨.int .i32 cr, fun w' hw' => ?_, hKx _ ?_⟩
          · have x0 := HX.out.1 w' hw'
            unfold Oper.quietAt
            go_simp
          clear hKx Kx
          refine wpQuiet_nil ?_
          rw [wpMix]
          simp only [List.getElem?_toArray, List.getElem?_cons_zero, List.getElem?_cons_succ]
          refine wpQuiet_want rfl ?_
          intro Kx hKx
          refine ⟨.int .i64 cr, fun w' hw' => ?_, hKx _ ?_⟩
          · unfold Oper.quietAt
            go_simp
            all_goals (first | done | (rw [IntKind.wrap_i64]; omega))
          clear hKx Kx
          refine wpQuiet_nil ?_
          rw [wpMix]
          simp only [List.getElem?_toArray, List.getElem?_cons_zero, List.getElem?_cons_succ]
          refine wpQuiet_want rfl ?_
          intro Kx hKx
          refine ⟨.slice (some ⟨g, o, none⟩) (L.length + 1) c, fun w' hw' => ?_, hKx _ ?_⟩
          · unfold Oper.quietAt
            go_simp
          clear hKx Kx
          refine wpQuiet_nil ?_
          rw [wpMix]
          simp only [List.getElem?_toArray, List.getElem?_cons_zero, List.getElem?_cons_succ]
          refine wpQuiet_want rfl ?_
          intro Kx hKx
          refine ⟨.int .i64 (j : Nat), fun w' hw' => ?_, hKx _ ?_⟩
          · unfold Oper.quietAt
            go_simp
          clear hKx Kx
          refine wpQuiet_nil ?_
          rw [wpMix]
          simp only [List.getElem?_toArray, List.getElem?_cons_zero, List.getElem?_cons_succ]
          refine wpQuiet_want rfl ?_
          intro Kx hKx
          refine ⟨.int .i64 ((j : Int) + 1), fun w' hw' => ?_, hKx _ ?_⟩
          · unfold Oper.quietAt
            go_simp
            all_goals (first | done | (rw [IntKind.wrap_i64]; omega))
          clear hKx Kx
          refine wpQuiet_nil ?_
          rw [wpMix]
          simp only [List.getElem?_toArray, List.getElem?_cons_zero, List.getElem?_cons_succ]
          refine wpQuiet_want rfl ?_
          intro Kx hKx
          refine ⟨.slice (some ⟨g, o, none⟩) (L.length + 1) c, fun w' hw' => ?_, hKx _ ?_⟩
          · unfold Oper.quietAt
            go_simp
          clear hKx Kx
          refine wpQuiet_nil ?_
          rw [wpMix]
          simp only [List.getElem?_toArray, List.getElem?_cons_zero, List.getElem?_cons_succ]
          go_wp2_with (fail)
          refine ⟨HR.out.2.drew, ?_⟩
          rw [wpMix]
          simp only [List.getElem?_toArray, List.getElem?_cons_zero, List.getElem?_cons_succ]
          refine wpQuiet_want rfl ?_
          intro Kx hKx
          refine ⟨.int .i64 (L.length : Nat), fun w' hw' => ?_, hKx _ ?_⟩
          · unfold Oper.quietAt
            go_simp
            all_goals (first | done | (rw [IntKind.wrap_i64]; omega))
          clear hKx Kx
          refine wpQuiet_nil ?_
          rw [wpMix]
          simp only [List.getElem?_toArray, List.getElem?_cons_zero, List.getElem?_cons_succ]
          go_wp2_with (fail)
          refine ⟨HR.out.2.drew, ?_⟩
          rw [wpMix]
          simp only [List.getElem?_toArray, List.getElem?_cons_zero, List.getElem?_cons_succ]
          refine wpQuiet_want rfl ?_
          intro Kx hKx
          refine ⟨.pointer (some ⟨g, o + (j + 1) * 5, none⟩), fun w' hw' => ?_, hKx _ ?_⟩
          · unfold Oper.quietAt
            go_simp
            all_goals (first | done | omega | (rw [if_pos (by omega)]; exact ⟨rfl, rfl⟩))
          clear hKx Kx
          refine wpQuiet_nil ?_
          rw [wpMix]
          simp only [List.getElem?_toArray, List.getElem?_cons_zero, List.getElem?_cons_succ]
          refine wpQuiet_want rfl ?_
          intro Kx hKx
          refine ⟨.pointer (some ⟨g, o + (j + 1) * 5 + 2, none⟩), fun w' hw' => ?_, hKx _ ?_⟩
          · unfold Oper.quietAt
            go_simp
          clear hKx Kx
          refine wpQuiet_nil ?_
          rw [wpMix]
          simp only [List.getElem?_toArray, List.getElem?_cons_zero, List.getElem?_cons_succ]
          refine wpQuiet_want rfl ?_
          intro Kx hKx
          refine ⟨.agg #[.int .i64 P0, .int .i64 P1, .int .i64 P2], fun w' hw' => ?_, hKx _ ?_⟩
          · obtain ⟨y0, y1, y2⟩ := HX.out.2 w' hw'
            unfold Oper.quietAt
            go_simp
          clear hKx Kx
          refine wpQuiet_nil ?_
          rw [wpMix]
          simp only [List.getElem?_toArray, List.getElem?_cons_zero, List.getElem?_cons_succ]
          refine wpQuiet_want rfl ?_
          intro Kx hKx
          refine ⟨.agg #[.int .i64 cr, .int .i64 P0, .int .i64 P1, .int .i64 P2], fun w' hw' => ?_, hKx _ ?_⟩
          · unfold Oper.quietAt
            go_simp
          clear hKx Kx
          refine wpQuiet_nil ?_
          rw [wpMix]
          simp only [List.getElem?_toArray, List.getElem?_cons_zero, List.getElem?_cons_succ]
          go_wp2_with (fail)
          refine ⟨(HR.out.2.alloc HR.out.2.size _).drew, ?_⟩
          rw [wpMix]
          simp only [List.getElem?_toArray, List.getElem?_cons_zero, List.getElem?_cons_succ]
          rw [drew_alloc]
          (((with_reducible refine gate_builtin (b := .append) (xs := #[.tmp 19, .tmp 37]) rfl ?_); at_builtin; refine Kd.R_append K.k48 (w0 := w1) w1.heap.size rfl (.tmp 19) (.tmp 37) 44 48 (.agg #[(.int .i64 0), (.int .i64 0), (.int .i64 0), (.int .i64 0)]) 32 rfl Tryd.underlying44 K.info48 rfl (by decide) (by omega) u2 ((runesOf src L).take j) ⟨cr, ⟨P0, P1, P2⟩⟩ [.int .i64 cr, .int .i64 P0, .int .i64 P1, .int .i64 P2] (fun k_ => w1.heap.size ≤ k_) (fun _ => False) rfl rfl ?aP (fun _ hk => hk.elim) ?aF ?aO ?aB ?aS ?aL ?_; (case aP => exact K.k48_mkM _ _ _ ⟨cr, ⟨P0, P1, P2⟩⟩); (case aF => intro k_ hk; have := HR.out.2.drew.size; omega); (case aO => exact HR.out.1); (case aB => exact HR.out.2.drew); (case aS => have := HR.out.2.drew.size; omega); (case aL => have := HL.out; have := HLB.out; rw [List.length_take]; omega); intro v1 wz ho hb hg hat; have HAP := Lib.hid (And.intro ho (And.intro hb hg)); clear ho hb hg hat))
          go_wp2_with (fail)
          refine ⟨HAP.out.2.1, ?_⟩
          rw [wpMix]
          simp only [List.getElem?_toArray, List.getElem?_cons_zero, List.getElem?_cons_succ]
          refine wpQuiet_want rfl ?_
          intro Kx hKx
          refine ⟨v1, fun w' hw' => ?_, hKx _ ?_⟩
          · unfold Oper.quietAt
            go_simp
          clear hKx Kx
          refine wpQuiet_nil ?_
          rw [wpMix]
          go_wp2_with (fail)
          have hRn : Kd.R K.k48 48 wz w1.heap.size (fun q => w1.heap.size ≤ q) v1 ((runesOf src L).take (j + 1)) := by
            have e : (runesOf src L).take (j + 1) = (runesOf src L).take j ++ [⟨cr, ⟨P0, P1, P2⟩⟩] := by rw [List.take_add_one, HG.out.2]; rfl
            rw [e]; exact HAP.out.1
          go_roundg (L.length - j)
          case measure => have := HLT.out; omega
          case rel => exact ⟨j + 1, by have := HLT.out; omega, rfl, hRn, HAP.out.2.1⟩
        · obtain rfl : q = j := by have := HG.out.1; omega
          have hmn : min ((q : Int) + 1) (L.length : Int) = (q : Int) := by omega
          rw [wpMix]
          simp only [List.getElem?_toArray, List.getElem?_cons_zero, List.getElem?_cons_succ]
          refine wpQuiet_want rfl ?_
          intro Kx hKx
          refine ⟨u2, fun w' hw' => ?_, hKx _ ?_⟩
          · unfold Oper.quietAt
            go_simp
          clear hKx Kx
          refine wpQuiet_nil ?_
          rw [wpMix]
          simp only [List.getElem?_toArray, List.getElem?_cons_zero, List.getElem?_cons_succ]
          refine wpQuiet_want rfl ?_
          intro Kx hKx
          refine ⟨.slice (some ⟨g, o, none⟩) (L.length + 1) c, fun w' hw' => ?_, hKx _ ?_⟩
          · unfold Oper.quietAt
            go_simp
          clear hKx Kx
          refine wpQuiet_nil ?_
          rw [wpMix]
          simp only [List.getElem?_toArray, List.getElem?_cons_zero, List.getElem?_cons_succ]
          refine wpQuiet_want rfl ?_
          intro Kx hKx
          refine ⟨.int .i64 (q : Nat), fun w' hw' => ?_, hKx _ ?_⟩
          · unfold Oper.quietAt
            go_simp
          clear hKx Kx
          refine wpQuiet_nil ?_
          rw [wpMix]
          simp only [List.getElem?_toArray, List.getElem?_cons_zero, List.getElem?_cons_succ]
          refine wpQuiet_want rfl ?_
          intro Kx hKx
          refine ⟨.pointer (some ⟨g, o + q * 5, none⟩), fun w' hw' => ?_, hKx _ ?_⟩
          · unfold Oper.quietAt
            go_simp
          clear hKx Kx
          refine wpQuiet_nil ?_
          rw [wpMix]
          simp only [List.getElem?_toArray, List.getElem?_cons_zero, List.getElem?_cons_succ]
          refine wpQuiet_want rfl ?_
          intro Kx hKx
          refine ⟨.pointer (some ⟨g, o + q * 5, none⟩), fun w' hw' => ?_, hKx _ ?_⟩
          · unfold Oper.quietAt
            go_simp
          clear hKx Kx
          refine wpQuiet_nil ?_
          rw [wpMix]
          simp only [List.getElem?_toArray, List.getElem?_cons_zero, List.getElem?_cons_succ]
          refine wpQuiet_want rfl ?_
          intro Kx hKx
          refine ⟨.int .i32 cr, fun w' hw' => ?_, hKx _ ?_⟩
          · have x0 := HX.out.1 w' hw'
            unfold Oper.quietAt
            go_simp
          clear hKx Kx
          refine wpQuiet_nil ?_
          rw [wpMix]
          simp only [List.getElem?_toArray, List.getElem?_cons_zero, List.getElem?_cons_succ]
          refine wpQuiet_want rfl ?_
          intro Kx hKx
          refine ⟨.int .i64 cr, fun w' hw' => ?_, hKx _ ?_⟩
          · unfold Oper.quietAt
            go_simp
            all_goals (first | done | (rw [IntKind.wrap_i64]; omega))
          clear hKx Kx
          refine wpQuiet_nil ?_
          rw [wpMix]
          simp only [List.getElem?_toArray, List.getElem?_cons_zero, List.getElem?_cons_succ]
          refine wpQuiet_want rfl ?_
          intro Kx hKx
          refine ⟨.slice (some ⟨g, o, none⟩) (L.length + 1) c, fun w' hw' => ?_, hKx _ ?_⟩
          · unfold Oper.quietAt
            go_simp
          clear hKx Kx
          refine wpQuiet_nil ?_
          rw [wpMix]
          simp only [List.getElem?_toArray, List.getElem?_cons_zero, List.getElem?_cons_succ]
          refine wpQuiet_want rfl ?_
          intro Kx hKx
          refine ⟨.int .i64 (q : Nat), fun w' hw' => ?_, hKx _ ?_⟩
          · unfold Oper.quietAt
            go_simp
          clear hKx Kx
          refine wpQuiet_nil ?_
          rw [wpMix]
          simp only [List.getElem?_toArray, List.getElem?_cons_zero, List.getElem?_cons_succ]
          refine wpQuiet_want rfl ?_
          intro Kx hKx
          refine ⟨.int .i64 ((q : Int) + 1), fun w' hw' => ?_, hKx _ ?_⟩
          · unfold Oper.quietAt
            go_simp
            all_goals (first | done | (rw [IntKind.wrap_i64]; omega))
          clear hKx Kx
          refine wpQuiet_nil ?_
          rw [wpMix]
          simp only [List.getElem?_toArray, List.getElem?_cons_zero, List.getElem?_cons_succ]
          refine wpQuiet_want rfl ?_
          intro Kx hKx
          refine ⟨.slice (some ⟨g, o, none⟩) (L.length + 1) c, fun w' hw' => ?_, hKx _ ?_⟩
          · unfold Oper.quietAt
            go_simp
          clear hKx Kx
          refine wpQuiet_nil ?_
          rw [wpMix]
          simp only [List.getElem?_toArray, List.getElem?_cons_zero, List.getElem?_cons_succ]
          go_wp2_with (fail)
          refine ⟨HR.out.2.drew, ?_⟩
          rw [wpMix]
          simp only [List.getElem?_toArray, List.getElem?_cons_zero, List.getElem?_cons_succ]
          refine wpQuiet_want rfl ?_
          intro Kx hKx
          refine ⟨.int .i64 (L.length : Nat), fun w' hw' => ?_, hKx _ ?_⟩
          · unfold Oper.quietAt
            go_simp
            all_goals (first | done | (rw [IntKind.wrap_i64]; omega))
          clear hKx Kx
          refine wpQuiet_nil ?_
          rw [wpMix]
          simp only [List.getElem?_toArray, List.getElem?_cons_zero, List.getElem?_cons_succ]
          go_wp2_with (fail)
          refine ⟨HR.out.2.drew, ?_⟩
          rw [wpMix]
          simp only [List.getElem?_toArray, List.getElem?_cons_zero, List.getElem?_cons_succ]
          refine wpQuiet_want rfl ?_
          intro Kx hKx
          refine ⟨.pointer (some ⟨g, o + (q) * 5, none⟩), fun w' hw' => ?_, hKx _ ?_⟩
          · unfold Oper.quietAt
            go_simp
            all_goals (first | done | omega | (rw [if_pos (by omega)]; exact ⟨rfl, rfl⟩))
          clear hKx Kx
          refine wpQuiet_nil ?_
          rw [wpMix]
          simp only [List.getElem?_toArray, List.getElem?_cons_zero, List.getElem?_cons_succ]
          refine wpQuiet_want rfl ?_
          intro Kx hKx
          refine ⟨.pointer (some ⟨g, o + (q) * 5 + 2, none⟩), fun w' hw' => ?_, hKx _ ?_⟩
          · unfold Oper.quietAt
            go_simp
          clear hKx Kx
          refine wpQuiet_nil ?_
          rw [wpMix]
          simp only [List.getElem?_toArray, List.getElem?_cons_zero, List.getElem?_cons_succ]
          refine wpQuiet_want rfl ?_
          intro Kx hKx
          refine ⟨.agg #[.int .i64 P0, .int .i64 P1, .int .i64 P2], fun w' hw' => ?_, hKx _ ?_⟩
          · obtain ⟨y0, y1, y2⟩ := HX.out.2 w' hw'
            unfold Oper.quietAt
            go_simp
          clear hKx Kx
          refine wpQuiet_nil ?_
          rw [wpMix]
          simp only [List.getElem?_toArray, List.getElem?_cons_zero, List.getElem?_cons_succ]
          refine wpQuiet_want rfl ?_
          intro Kx hKx
          refine ⟨.agg #[.int .i64 cr, .int .i64 P0, .int .i64 P1, .int .i64 P2], fun w' hw' => ?_, hKx _ ?_⟩
          · unfold Oper.quietAt
            go_simp
          clear hKx Kx
          refine wpQuiet_nil ?_
          rw [wpMix]
          simp only [List.getElem?_toArray, List.getElem?_cons_zero, List.getElem?_cons_succ]
          go_wp2_with (fail)
          refine ⟨(HR.out.2.alloc HR.out.2.size _).drew, ?_⟩
          rw [wpMix]
          simp only [List.getElem?_toArray, List.getElem?_cons_zero, List.getElem?_cons_succ]
          rw [drew_alloc]
          (((with_reducible refine gate_builtin (b := .append) (xs := #[.tmp 19, .tmp 37]) rfl ?_); at_builtin; refine Kd.R_append K.k48 (w0 := w1) w1.heap.size rfl (.tmp 19) (.tmp 37) 44 48 (.agg #[(.int .i64 0), (.int .i64 0), (.int .i64 0), (.int .i64 0)]) 32 rfl Tryd.underlying44 K.info48 rfl (by decide) (by omega) u2 ((runesOf src L).take q) ⟨cr, ⟨P0, P1, P2⟩⟩ [.int .i64 cr, .int .i64 P0, .int .i64 P1, .int .i64 P2] (fun k_ => w1.heap.size ≤ k_) (fun _ => False) rfl rfl ?aP (fun _ hk => hk.elim) ?aF ?aO ?aB ?aS ?aL ?_; (case aP => exact K.k48_mkM _ _ _ ⟨cr, ⟨P0, P1, P2⟩⟩); (case aF => intro k_ hk; have := HR.out.2.drew.size; omega); (case aO => exact HR.out.1); (case aB => exact HR.out.2.drew); (case aS => have := HR.out.2.drew.size; omega); (case aL => have := HL.out; have := HLB.out; rw [List.length_take]; omega); intro v1 wz ho hb hg hat; have HAP := Lib.hid (And.intro ho (And.intro hb hg)); clear ho hb hg hat))
          go_wp2_with (fail)
          refine ⟨HAP.out.2.1, ?_⟩
          rw [wpMix]
          simp only [List.getElem?_toArray, List.getElem?_cons_zero, List.getElem?_cons_succ]
          refine wpQuiet_want rfl ?_
          intro Kx hKx
          refine ⟨v1, fun w' hw' => ?_, hKx _ ?_⟩
          · unfold Oper.quietAt
            go_simp
          clear hKx Kx
          refine wpQuiet_nil ?_
          rw [wpMix]
          go_wp2_with (fail)
          have hRn : Kd.R K.k48 48 wz w1.heap.size (fun q => w1.heap.size ≤ q) v1 ((runesOf src L).take (q + 1)) := by
            have e : (runesOf src L).take (q + 1) = (runesOf src L).take q ++ [⟨cr, ⟨P0, P1, P2⟩⟩] := by rw [List.take_add_one, HG.out.2]; rfl
            rw [e]; exact HAP.out.1
          go_roundg (L.length - q)
          case measure => have := HLT.out; omega
          case rel => exact ⟨q + 1, by have := HLT.out; omega, rfl, hRn, HAP.out.2.1⟩

      · obtain rfl : j = L.length + 1 := by omega
        go_wp2_with (fail)
        obtain ⟨A', c', e', hc', hC'⟩ := Kd.R_reads HR.out.1
        rw [List.take_of_length_le (Nat.le_of_eq (runesOf_len src L))] at e' hc' hC'
        subst e'
        refine bodyPost_ret (v := .tuple #[.slice A' (runesOf src L).length c', .bool true]) (by simp [results, Tryd.results27, go_sem]) rfl (.inr ⟨by rw [HLL.out]; exact H1.out.1, ?_⟩)
        rw [HLL.out]
        exact ⟨A', c', rfl, hc', hC', H1.out.2.2.2.trans (HR.out.2.mono H1.out.2.2.2.size)⟩
end Go.Proofs.YtmfihkgbfoapaaaDoor
