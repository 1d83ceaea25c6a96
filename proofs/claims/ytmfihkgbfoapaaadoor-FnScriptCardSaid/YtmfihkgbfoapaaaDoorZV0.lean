/- Own texts V0 of this claim, cut to what the claim uses. -/
import Derived.Test.YtmfihkgbfoapaaaDoorZU2
import Derived.Test.YtmfihkgbfoapaaaDoorZK4
namespace Go.Proofs.YtmfihkgbfoapaaaDoor
set_option linter.unusedVariables false
set_option linter.unusedSimpArgs false
open Go Go.RowKit Go.Lib Go.BigFrame Go.Proofs.YtmfihkgbfoapaaaDoorW.PrintWords
def chr (src : List UInt8) (l : List Item) : K.S90 := ⟨chOf l, ((match l with | c :: _ => c.n | [] => 0 : Nat) : Int), ⟨offOf src l, lineAt src l, colAt src l⟩⟩
def charsOf (src : List UInt8) : List Item → List K.S90
  | [] => [chr src []]
  | c :: l => chr src (c :: l) :: charsOf src l
def okc (c : Item) : Bool := !c.bad && c.r != 0 && c.r != 65279
def sureL (l : List Item) : Bool := l.all okc
theorem step_pos {src : List UInt8} {pre t : List Item} {c : Item} (h : items src = pre ++ c :: t) :
    offOf src t = offOf src (c :: t) + c.n ∧ lineAt src t = (if c.r = 10 then lineAt src (c :: t) + 1 else lineAt src (c :: t)) ∧ colAt src t = (if c.r = 10 then 1 else colAt src (c :: t) + 1) := by
  have h2 : items src = (pre ++ [c]) ++ t := by rw [h]; simp
  have hp : posOf (pre ++ [c]) = posStep (posOf pre) c := by unfold posOf; rw [List.foldl_append]; rfl
  unfold lineAt colAt
  rw [behind_pre h2, behind_pre h, hp]
  refine ⟨?_, ?_, ?_⟩
  · have hb := bytesOf_items src
    rw [h, bytesOf_append, bytesOf_cons] at hb
    have hl : src.length = (bytesOf pre ++ (c.bs ++ bytesOf t)).length := by rw [hb]
    unfold offOf Item.n
    rw [bytesOf_cons]
    simp only [List.length_append] at hl ⊢
    omega
  · unfold posStep; split <;> rfl
  · unfold posStep; split <;> rfl
theorem pos_bounds {src : List UInt8} {l : List Item} (h : l <:+ items src) : offOf src l ≤ src.length ∧ lineAt src l ≤ src.length + 1 ∧ colAt src l ≤ src.length + 1 := by
  obtain ⟨pre, hp⟩ := h
  have hpl : pre.length ≤ src.length := by
    have := items_le src
    rw [← hp, List.length_append] at this; omega
  have key : ∀ (q : List Item) (p : Nat × Nat × Nat), (q.foldl posStep p).1 ≤ p.1 + q.length ∧ (q.foldl posStep p).2.1 ≤ p.2.1 + q.length := by
    intro q
    induction q with
    | nil => intro p; simp
    | cons c q ih =>
      intro p
      rw [List.foldl_cons]
      have := ih (posStep p c)
      have h1 : (posStep p c).1 ≤ p.1 + 1 ∧ (posStep p c).2.1 ≤ p.2.1 + 1 := by unfold posStep; split <;> simp only <;> omega
      simp only [List.length_cons]; omega
  have hk := key pre (1, 0, 0)
  simp only at hk
  unfold lineAt colAt
  rw [behind_pre hp.symm]
  unfold posOf
  exact ⟨Nat.sub_le _ _, by omega, by omega⟩
theorem box3 {w : World} {q : Nat} {a b c : Int} {fr : Nat × Nat} (h : w.heap[q]? = some (.cells #[.int .i64 a, .int .i64 b, .int .i64 c] 35 fr)) : w.cell? ⟨q, 0, none⟩ = some (.int .i64 a) ∧ w.cell? ⟨q, 1, none⟩ = some (.int .i64 b) ∧ w.cell? ⟨q, 2, none⟩ = some (.int .i64 c) :=
  ⟨(cell_of_heap h 0).trans rfl, (cell_of_heap h 1).trans rfl, (cell_of_heap h 2).trans rfl⟩
theorem charsOf_len (src : List UInt8) (l : List Item) : (charsOf src l).length = l.length + 1 := by
  induction l with
  | nil => rfl
  | cons c l ih => simp only [charsOf, List.length_cons, ih]
theorem R90_keep {w w1 : World} {base : Nat} {ok : Nat → Prop} {v : Value} {xs : List K.S90} (h : Kd.R K.k90 90 w base ok v xs) (hk : ∀ (g : Nat) (cs : Array Value), v.ownBlock = some g → w.heap[g]? = some (Obj.cells cs 90 (0, 0)) → w1.heap[g]? = some (Obj.cells cs 90 (0, 0))) : Kd.R K.k90 90 w1 base ok v xs := by
  obtain ⟨h0, inner, ⟨hl, ho⟩, hr⟩ := h
  refine ⟨h0, inner, ⟨hl, ?_⟩, ⟨hr.1, fun j p hp => ?_⟩⟩
  · rcases ho with ho | ⟨g, cap, cur, e1, e2, e3, e4⟩
    · exact .inl ho
    · exact .inr ⟨g, cap, cur, e1, e2, hk _ _ (by rw [e1]; rfl) e3, e4⟩
  · have := hr.2 j p hp
    rw [K.k90_openM this]
    exact K.k90_mkM _ _ _ _
def CharsPost (w : World) (src : List UInt8) (e : Ending) (w' : World) : Prop :=
  (sureL (items src) = false ∧ e = .returned (.tuple #[.slice none 0 0, .bool false]) ∧ Below w.heap.size w w') ∨
  (sureL (items src) = true ∧ ∃ A c, e = .returned (.tuple #[.slice A (charsOf src (items src)).length c, .bool true]) ∧ (charsOf src (items src)).length ≤ c ∧ Kd.C K.k90 w' A (charsOf src (items src)).length (charsOf src (items src)) ∧ Below w.heap.size w w')
set_option maxRecDepth 100000 in
set_option maxHeartbeats 3200000 in
theorem chars_spec (w : World) (a : Option Addr) (k : Nat) (src : List UInt8) (hs : SrcAt w.heap.size w a k src) (hl10 : src.length ≤ 10000000000) : Calls Tryd.prog 39 #[.slice a src.length k] w (CharsPost w src) := by
  have h1 := hs.1
  have h2 := hs.2.1
  unfold maxLen at h2
  have hr := hs.reads
  have HS := Lib.hid (And.intro hr hl10)
  clear hs hr
  go_enter Tryd.func39, Tryd.ntmps39
  go_wp2_with (fail)
  obtain ⟨w1, hw1⟩ : ∃ W, w.alloc (Obj.cells #[.int .i64 0, .int .i64 1, .int .i64 1] 35) = W := ⟨_, rfl⟩
  obtain ⟨n, hn⟩ : ∃ n, w.heap.size = n := ⟨_, rfl⟩
  have hb1 : Below n w w1 := by rw [← hw1, ← hn]; exact (Below.refl _ _).alloc (Nat.le_refl _) _
  have hx1 : w1.heap[n]? = some (Obj.cells #[.int .i64 0, .int .i64 1, .int .i64 1] 35 (0, 0)) := by rw [← hw1, ← hn]; exact heap_alloc_new _ _
  have hz1 : w1.heap.size = n + 1 := by rw [← hw1, ← hn]; exact World.size_alloc _ _
  rw [hw1, hn]
  have H1 := Lib.hid (And.intro hb1 (And.intro hx1 (And.intro hz1 hn)))
  clear hb1 hx1 hz1 hw1 hn
  go_loopg [0, 2] src.length (fun kk t v wr => ∃ (A : Option Addr) (c m : Nat) (l : List UInt8) (xs : List K.S90), l.length = kk ∧ m = l.length ∧ t = .slice A m c ∧ l.length ≤ c ∧ c ≤ k ∧ ReadsInt w .u8 A l.length (ints l) ∧
    (∃ pre, items src = pre ++ items l) ∧ sureL (items l) = sureL (items src) ∧ xs ++ charsOf src (items l) = charsOf src (items src) ∧ Kd.R K.k90 90 wr n (fun q => n < q) v xs ∧
    wr.heap[n]? = some (Obj.cells #[.int .i64 (offOf src (items l) : Nat), .int .i64 (lineAt src (items l) : Nat), .int .i64 (colAt src (items l) : Nat)] 35 (0, 0)) ∧ Below n w wr)
  case atStart =>
    refine ⟨a, k, src.length, src, [], rfl, rfl, rfl, h1, Nat.le_refl _, ?_, ⟨[], rfl⟩, rfl, rfl, Kd.R_nil _ _ _ _ _, ?_, H1.out.1⟩
    · exact HS.out.1
    · rw [offOf_items]
      have e1 : lineAt src (items src) = 1 := by unfold lineAt; rw [behind_pre (pre := []) rfl]; rfl
      have e2 : colAt src (items src) = 1 := by unfold colAt; rw [behind_pre (pre := []) rfl]; rfl
      rw [e1, e2]; exact H1.out.2.1
  case round =>
    obtain ⟨A, c, m, l, xs, rfl, rfl, rfl, hlc, hck, hr, hpre, hsu, hxs, hR, hbx, hb⟩ := hrel
    have HH := Lib.hid (And.intro hr (And.intro hpre (And.intro hsu (And.intro hxs (And.intro hR (And.intro hbx hb))))))
    have HSZ := Lib.hid (show n < wr.heap.size from lt_of_heap hbx)
    have HXL := Lib.hid (show xs.length ≤ src.length + 1 from by have h3 := congrArg List.length hxs; rw [List.length_append, charsOf_len, charsOf_len] at h3; have := items_le src; omega)
    clear hr hpre hsu hxs hR hbx hb
    by_cases h0 : 0 < l.length
    · have HD := Lib.hid (dec_spec wr A c l (Kd.C_of_reads (readsInt_of.1 (HH.out.1.below (by rw [H1.out.2.2.2]; exact HH.out.2.2.2.2.2.2)))) hlc h0)
      by_cases hbad : (hdItem l).bad = true
      · have HE := Lib.hid (show specDec l = (0, 0) by unfold specDec; rw [if_pos hbad])
        go_wp2_with (go_at_call 37; refine (HD.out).mono ?_; rw [HE.out]; rintro e wd ⟨rfl, hbd⟩; have HBD := Lib.hid hbd; clear hbd)
        refine bodyPost_ret (v := .tuple #[.slice none 0 0, .bool false]) (by simp [results, Tryd.results39, go_sem]) rfl (.inl ⟨?_, rfl, ?_⟩)
        · rw [← HH.out.2.2.1, items_cons h0]
          show (okc (hdItem l) && _) = false
          unfold okc; rw [hbad]; rfl
        · rw [H1.out.2.2.2]; exact HH.out.2.2.2.2.2.2.trans (HBD.out.mono (Nat.le_of_lt HSZ.out))
      · have hbf := Bool.eq_false_iff.2 hbad
        have e0 : specDec l = hd l := by unfold specDec; rw [if_neg hbad]
        have hit := items_cons h0
        have hok : okc (hdItem l) = ((hd l).1 != 0 && (hd l).1 != 65279) := by
          unfold okc; rw [hbf]; simp [hdItem]
        have hdn := hdItem_n h0
        have hrn := hd_rune l
        have hn1 := hd_pos l
        have hn2 := hd_le h0
        have hn4 := hd_le4 l
        generalize hp : hd l = p at *
        obtain ⟨r, nn⟩ := p
        simp only at *
        have HE := Lib.hid e0
        have HI := Lib.hid (And.intro hit (And.intro hok (And.intro hdn hp)))
        clear e0 hit hok hdn hp hbad hbf
        have hbad0 : ∀ (e : r = 0 ∨ r = 65279), sureL (items src) = false := fun e => by
          rw [← HH.out.2.2.1, HI.out.1]
          show (okc (hdItem l) && _) = false
          rw [HI.out.2.1]
          rcases e with e | e <;> rw [e] <;> rfl
        have HBAD := Lib.hid hbad0
        clear hbad0
        by_cases hr0 : r = 0
        · have HZ := Lib.hid (HBAD.out (.inl hr0))
          subst hr0
          go_wp2_with (go_at_call 37; refine (HD.out).mono ?_; rw [HE.out]; rintro e wd ⟨rfl, hbd⟩; have HBD := Lib.hid hbd; clear hbd)
          refine bodyPost_ret (v := .tuple #[.slice none 0 0, .bool false]) (by simp [results, Tryd.results39, go_sem]) rfl (.inl ⟨HZ.out, rfl, ?_⟩)
          rw [H1.out.2.2.2]; exact HH.out.2.2.2.2.2.2.trans (HBD.out.mono (Nat.le_of_lt HSZ.out))
        by_cases hr1 : r = 65279
        · have HZ := Lib.hid (HBAD.out (.inr hr1))
          subst hr1
          go_wp2_with (go_at_call 37; refine (HD.out).mono ?_; rw [HE.out]; rintro e wd ⟨rfl, hbd⟩; have HBD := Lib.hid hbd; clear hbd)
          refine bodyPost_ret (v := .tuple #[.slice none 0 0, .bool false]) (by simp [results, Tryd.results39, go_sem]) rfl (.inl ⟨HZ.out, rfl, ?_⟩)
          rw [H1.out.2.2.2]; exact HH.out.2.2.2.2.2.2.trans (HBD.out.mono (Nat.le_of_lt HSZ.out))
        have hb0 : (((r : Nat) : Int) == 0) = false := beq_eq_false_iff_ne.2 (by omega)
        have hb1 : (((r : Nat) : Int) == 65279) = false := beq_eq_false_iff_ne.2 (by omega)
        have hbn : (((nn : Nat) : Int) == 0) = false := beq_eq_false_iff_ne.2 (by omega)
        go_upto_region 7 with (first
          | (go_at_call 37; refine (HD.out).mono ?_; rw [HE.out]; rintro e wd ⟨rfl, hbd⟩; have HBD := Lib.hid hbd; have hbxd := (hbd.block n HSZ.out).trans HH.out.2.2.2.2.2.1; obtain ⟨b0, b1, b2⟩ := box3 hbxd; have HBX := Lib.hid hbxd; clear hbd hbxd)
          | ((with_reducible refine gate_builtin (b := .append) (xs := #[.tmp 26, .tmp 31]) rfl ?_); at_builtin; refine Kd.R_append K.k90 (w0 := w) n rfl (.tmp 26) (.tmp 31) 79 90 (.agg #[(.int .i32 0), (.int .i64 0), (.int .i64 0), (.int .i64 0), (.int .i64 0)]) 40 rfl Tryd.underlying79 K.info90 rfl (by decide) (by omega) u2 xs ⟨(r : Nat), (nn : Nat), ⟨(offOf src (items l) : Nat), (lineAt src (items l) : Nat), (colAt src (items l) : Nat)⟩⟩ [.int .i32 (r : Nat), .int .i64 (nn : Nat), .int .i64 (offOf src (items l) : Nat), .int .i64 (lineAt src (items l) : Nat), .int .i64 (colAt src (items l) : Nat)] (fun k_ => (n < k_)) (fun _ => False) rfl rfl ?aP (fun _ hk => hk.elim) ?aF ?aO ?aB ?aS ?aL ?_; (case aP => exact K.k90_mkM _ _ _ ⟨(r : Nat), (nn : Nat), ⟨(offOf src (items l) : Nat), (lineAt src (items l) : Nat), (colAt src (items l) : Nat)⟩⟩); (case aF => intro k_ hk; have := HSZ.out; have := HBD.out.size; omega); (case aO => exact (Kd.R_below HH.out.2.2.2.2.1 HBD.out)); (case aB => exact (HH.out.2.2.2.2.2.2.trans (HBD.out.mono (Nat.le_of_lt HSZ.out)))); (case aS => have := HSZ.out; have := HBD.out.size; omega); (case aL => have := HXL.out; have := HS.out.2; omega); intro v1 wz ho hb hg hat; have HAP := Lib.hid (And.intro ho (And.intro hb hg)); clear ho hb hg hat))
        have hne : some n ≠ u2.ownBlock := fun e => absurd (HH.out.2.2.2.2.1.1 n e.symm) (Nat.lt_irrefl n)
        have hbz := (HAP.out.2.2.block n (Nat.lt_of_lt_of_le HSZ.out HBD.out.size) hne).trans HBX.out
        obtain ⟨pre, hpre⟩ := HH.out.2.1
        have hit := HI.out.1
        have hst := step_pos (src := src) (pre := pre) (c := hdItem l) (t := items (l.drop nn)) (by rw [hpre, hit])
        rw [← hit] at hst
        have hrr : (hdItem l).r = r := by show (hd l).1 = r; rw [HI.out.2.2.2]
        rw [hrr, HI.out.2.2.1] at hst
        have hbd2 := pos_bounds (src := src) (l := items l) ⟨pre, hpre.symm⟩
        have hpre2 : ∃ pre, items src = pre ++ items (l.drop nn) := ⟨pre ++ [hdItem l], by rw [hpre, hit]; simp⟩
        have hsu2 : sureL (items (l.drop nn)) = sureL (items src) := by
          rw [← HH.out.2.2.1, hit]
          show _ = (okc (hdItem l) && sureL _)
          rw [HI.out.2.1, bne_iff_ne.2 hr0, bne_iff_ne.2 hr1]; rfl
        have hxs2 : (xs ++ [(⟨(r : Nat), (nn : Nat), ⟨(offOf src (items l) : Nat), (lineAt src (items l) : Nat), (colAt src (items l) : Nat)⟩⟩ : K.S90)]) ++ charsOf src (items (l.drop nn)) = charsOf src (items src) := by
          have hx := HH.out.2.2.2.1
          have e : charsOf src (items l) = (⟨(r : Nat), (nn : Nat), ⟨(offOf src (items l) : Nat), (lineAt src (items l) : Nat), (colAt src (items l) : Nat)⟩⟩ : K.S90) :: charsOf src (items (l.drop nn)) := by
            have c1 : chOf (items l) = (r : Int) := by rw [hit]; show (((hdItem l).r : Nat) : Int) = _; rw [hrr]
            have c2 : ((match items l with | c :: _ => c.n | [] => 0 : Nat)) = nn := by rw [hit]; exact HI.out.2.2.1
            have e1 : charsOf src (items l) = chr src (items l) :: charsOf src (items (l.drop nn)) := by
              conv => lhs; rw [hit]
              show chr src (hdItem l :: items (l.drop nn)) :: _ = _
              rw [hit]
            rw [e1]
            unfold chr
            rw [c1, c2]
          rw [e] at hx
          rw [← hx]; simp
        have hR1 := HAP.out.1
        generalize offOf src (items l) = o at *
        generalize lineAt src (items l) = li at *
        generalize colAt src (items l) = co at *
        have HZ2 := Lib.hid (And.intro hst (And.intro hpre2 (And.intro hsu2 (And.intro hxs2 (And.intro hR1 hbz)))))
        obtain ⟨y0, y1, y2⟩ := box3 hbz
        have fz := frozen_of_heap hbz
        have hl10 := HS.out.2
        obtain ⟨ho1, ho2, ho3⟩ := hbd2
        clear hst hpre2 hsu2 hxs2 hR1 hbz hrr hit hpre hne b0 b1 b2
        have hRd := Lib.hid (HH.out.1.drop_ nn hn2 hlc)
        by_cases h10 : r = 10
        · subst h10
          go_upto_region 11 with (fail)
          obtain ⟨wk, hwk⟩ : ∃ W, ((((wz).setCell ⟨n, 0, none⟩ (.int .i64 ((o : Int) + (nn : Int)))).setCell ⟨n, 2, none⟩ (.int .i64 ((co : Int) + 1))).setCell ⟨n, 1, none⟩ (.int .i64 ((li : Int) + 1))).setCell ⟨n, 2, none⟩ (.int .i64 1) = W := ⟨_, rfl⟩
          rw [hwk]
          have q0 := HZ2.out.2.2.2.2.2
          have q1 := Go.Lib.heap_setCell_same (i := 0) q0 (.int .i64 ((o : Int) + (nn : Int)))
          have q2 := Go.Lib.heap_setCell_same (i := 2) q1 (.int .i64 ((co : Int) + 1))
          have q3 := Go.Lib.heap_setCell_same (i := 1) q2 (.int .i64 ((li : Int) + 1))
          have q4 := Go.Lib.heap_setCell_same (i := 2) q3 (.int .i64 1)
          rw [hwk] at q4
          have hbk : Below n w wk := by rw [← hwk]; exact ((((HAP.out.2.1).setCell (p := ⟨n, 0, none⟩) (Nat.le_refl n) _).setCell (p := ⟨n, 2, none⟩) (Nat.le_refl n) _).setCell (p := ⟨n, 1, none⟩) (Nat.le_refl n) _).setCell (p := ⟨n, 2, none⟩) (Nat.le_refl n) _
          have hRk : Kd.R K.k90 90 wk n (fun q => n < q) v1 (xs ++ [(⟨((10 : Nat) : Int), (nn : Nat), ⟨(o : Nat), (li : Nat), (co : Nat)⟩⟩ : K.S90)]) := R90_keep HZ2.out.2.2.2.2.1 fun g cs hg h => by
            have hgn : n < g := HZ2.out.2.2.2.2.1.1 g hg
            have hgg : g ≠ n := by omega
            rw [← hwk]
            iterate 4 rw [Below.heap_setCell _ _ _ _ (by exact hgg)]
            exact h
          have hbox : wk.heap[n]? = some (Obj.cells #[.int .i64 (offOf src (items (l.drop nn)) : Nat), .int .i64 (lineAt src (items (l.drop nn)) : Nat), .int .i64 (colAt src (items (l.drop nn)) : Nat)] 35 (0, 0)) := by
            rw [HZ2.out.1.1, HZ2.out.1.2.1, HZ2.out.1.2.2, if_pos rfl, if_pos rfl]
            exact q4
          have HK := Lib.hid (And.intro hbk (And.intro hRk hbox))
          clear hwk hbk hRk hbox q0 q1 q2 q3 q4 y0 y1 y2 fz
          rcases Nat.lt_or_ge nn c with hcn | hcn
          · go_wp2_with (fail)
            have hR := hRd.out
            rw [ints_drop, if_neg (by omega)] at hR
            go_roundg (l.length - nn)
            case measure => omega
            case rel => exact ⟨A.map (·.add nn), c - nn, l.length - nn, l.drop nn, _, List.length_drop, List.length_drop.symm, rfl, by rw [List.length_drop]; omega, by omega, by rw [List.length_drop]; exact hR, HZ2.out.2.1, HZ2.out.2.2.1, HZ2.out.2.2.2.1, HK.out.2.1, HK.out.2.2, HK.out.1⟩
          · obtain rfl : c = nn := by omega
            go_wp2_with (fail)
            have hR := hRd.out
            rw [ints_drop, if_pos trivial] at hR
            go_roundg (l.length - c)
            case measure => omega
            case rel => exact ⟨A, 0, 0, l.drop c, _, List.length_drop, by rw [List.length_drop]; omega, rfl, by rw [List.length_drop]; omega, by omega, by rw [List.length_drop]; exact hR, HZ2.out.2.1, HZ2.out.2.2.1, HZ2.out.2.2.2.1, HK.out.2.1, HK.out.2.2, HK.out.1⟩
        · have hb10 : (((r : Nat) : Int) == 10) = false := beq_eq_false_iff_ne.2 (by omega)
          go_upto_region 11 with (fail)
          obtain ⟨wk, hwk⟩ : ∃ W, ((wz).setCell ⟨n, 0, none⟩ (.int .i64 ((o : Int) + (nn : Int)))).setCell ⟨n, 2, none⟩ (.int .i64 ((co : Int) + 1)) = W := ⟨_, rfl⟩
          rw [hwk]
          have q0 := HZ2.out.2.2.2.2.2
          have q1 := Go.Lib.heap_setCell_same (i := 0) q0 (.int .i64 ((o : Int) + (nn : Int)))
          have q2 := Go.Lib.heap_setCell_same (i := 2) q1 (.int .i64 ((co : Int) + 1))
          rw [hwk] at q2
          have hbk : Below n w wk := by rw [← hwk]; exact ((HAP.out.2.1).setCell (p := ⟨n, 0, none⟩) (Nat.le_refl n) _).setCell (p := ⟨n, 2, none⟩) (Nat.le_refl n) _
          have hRk : Kd.R K.k90 90 wk n (fun q => n < q) v1 (xs ++ [(⟨(r : Nat), (nn : Nat), ⟨(o : Nat), (li : Nat), (co : Nat)⟩⟩ : K.S90)]) := R90_keep HZ2.out.2.2.2.2.1 fun g cs hg h => by
            have hgn : n < g := HZ2.out.2.2.2.2.1.1 g hg
            have hgg : g ≠ n := by omega
            rw [← hwk]
            iterate 2 rw [Below.heap_setCell _ _ _ _ (by exact hgg)]
            exact h
          have hbox : wk.heap[n]? = some (Obj.cells #[.int .i64 (offOf src (items (l.drop nn)) : Nat), .int .i64 (lineAt src (items (l.drop nn)) : Nat), .int .i64 (colAt src (items (l.drop nn)) : Nat)] 35 (0, 0)) := by
            rw [HZ2.out.1.1, HZ2.out.1.2.1, HZ2.out.1.2.2, if_neg h10, if_neg h10]
            exact q2
          have HK := Lib.hid (And.intro hbk (And.intro hRk hbox))
          clear hwk hbk hRk hbox q0 q1 q2 y0 y1 y2 fz
          rcases Nat.lt_or_ge nn c with hcn | hcn
          · go_wp2_with (fail)
            have hR := hRd.out
            rw [ints_drop, if_neg (by omega)] at hR
            go_roundg (l.length - nn)
            case measure => omega
            case rel => exact ⟨A.map (·.add nn), c - nn, l.length - nn, l.drop nn, _, List.length_drop, List.length_drop.symm, rfl, by rw [List.length_drop]; omega, by omega, by rw [List.length_drop]; exact hR, HZ2.out.2.1, HZ2.out.2.2.1, HZ2.out.2.2.2.1, HK.out.2.1, HK.out.2.2, HK.out.1⟩
          · obtain rfl : c = nn := by omega
            go_wp2_with (fail)
            have hR := hRd.out
            rw [ints_drop, if_pos trivial] at hR
            go_roundg (l.length - c)
            case measure => omega
            case rel => exact ⟨A, 0, 0, l.drop c, _, List.length_drop, by rw [List.length_drop]; omega, rfl, by rw [List.length_drop]; omega, by omega, by rw [List.length_drop]; exact hR, HZ2.out.2.1, HZ2.out.2.2.1, HZ2.out.2.2.2.1, HK.out.2.1, HK.out.2.2, HK.out.1⟩
    · have hnil : l = [] := List.eq_nil_of_length_eq_zero (by omega)
      subst hnil
      obtain ⟨b0, b1, b2⟩ := box3 HH.out.2.2.2.2.2.1
      go_wp2_with (first | ((with_reducible refine gate_builtin (b := .append) (xs := #[.tmp 52, .tmp 55]) rfl ?_); at_builtin; refine Kd.R_append K.k90 (w0 := w) n rfl (.tmp 52) (.tmp 55) 79 90 (.agg #[(.int .i32 0), (.int .i64 0), (.int .i64 0), (.int .i64 0), (.int .i64 0)]) 40 rfl Tryd.underlying79 K.info90 rfl (by decide) (by omega) u2 xs ⟨-1, 0, ⟨(offOf src (items []) : Nat), (lineAt src (items []) : Nat), (colAt src (items []) : Nat)⟩⟩ [.int .i32 (-1), .int .i64 0, .int .i64 (offOf src (items []) : Nat), .int .i64 (lineAt src (items []) : Nat), .int .i64 (colAt src (items []) : Nat)] (fun k_ => (n < k_)) (fun _ => False) rfl rfl ?aP (fun _ hk => hk.elim) ?aF ?aO ?aB ?aS ?aL ?_; (case aP => exact K.k90_mkM _ _ _ ⟨-1, 0, ⟨(offOf src (items []) : Nat), (lineAt src (items []) : Nat), (colAt src (items []) : Nat)⟩⟩); (case aF => intro k_ hk; have := HSZ.out; omega); (case aO => exact HH.out.2.2.2.2.1); (case aB => exact HH.out.2.2.2.2.2.2); (case aS => have := HSZ.out; omega); (case aL => have := HXL.out; have := HS.out.2; omega); intro v1 wz ho hb hg hat; have HAP := Lib.hid (And.intro ho (And.intro hb hg)); clear ho hb hg hat))
      have hfin := HH.out.2.2.2.1
      rw [items_nil] at hfin
      refine bodyPost_ret (v := .tuple #[v1, .bool true]) (by simp [results, Tryd.results39, go_sem]) rfl (.inr ⟨by rw [← HH.out.2.2.1, items_nil]; rfl, ?_⟩)
      have hR := HAP.out.1
      have he : xs ++ [(⟨-1, 0, ⟨(offOf src (items []) : Nat), (lineAt src (items []) : Nat), (colAt src (items []) : Nat)⟩⟩ : K.S90)] = charsOf src (items src) := by rw [← hfin]; rw [items_nil]; rfl
      rw [he] at hR
      obtain ⟨A', c', e', hc', hC'⟩ := Kd.R_reads hR
      subst e'
      exact ⟨A', c', rfl, hc', hC', by rw [H1.out.2.2.2]; exact HAP.out.2.1⟩
end Go.Proofs.YtmfihkgbfoapaaaDoor
