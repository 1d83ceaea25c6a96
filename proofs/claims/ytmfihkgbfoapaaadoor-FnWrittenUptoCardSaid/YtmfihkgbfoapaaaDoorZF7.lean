/- Own texts F7 of this claim, cut to what the claim uses. -/
import Derived.Test.YtmfihkgbfoapaaaDoorZF5
import Derived.Test.YtmfihkgbfoapaaaDoorZM1
import Derived.Test.YtmfihkgbfoapaaaDoorZV5
import Derived.Laws.ResultCell
namespace Go.Proofs.YtmfihkgbfoapaaaDoor
set_option linter.unusedVariables false
set_option linter.unusedSimpArgs false
open Go Go.RowKit Go.Lib Go.BigFrame Go.Proofs.YtmfihkgbfoapaaaDoorW.PrintWords
theorem R_blk37 {w : World} {base : Nat} {ok : Nat → Prop} {v : Value} {xs : List K.S37} (h : Kd.R K.k37 37 w base ok v xs) {g : Nat} (hg : v.ownBlock = some g) : ∃ cs, w.heap[g]? = some (Obj.cells cs 37 (0, 0)) := by
  obtain ⟨h0, inner, ⟨hl, ho⟩, hr⟩ := h
  rcases ho with ⟨e, -⟩ | ⟨g', cap, cur, e1, e2, e3, e4⟩
  · rw [e] at hg; exact absurd hg (nomatch ·)
  · rw [e1] at hg
    have : some g' = some g := hg
    injection this with this
    subst this
    exact ⟨_, e3⟩
theorem LaySt.blk5 {B : Nat} {W : World} {S P : Nat} {v : Value} {L : List UInt8} {pre : List Item} (h : LaySt B W S P v L pre) {g : Nat} (hg : v.ownBlock = some g) : ∃ cs, W.heap[g]? = some (Obj.cells cs 5 (0, 0)) := by
  rcases h.row.2 with ⟨e, -⟩ | ⟨g', cap, cur, e, hbg, hx, hy⟩
  · rw [e] at hg; exact absurd hg (nomatch ·)
  · rw [e] at hg
    have : some g' = some g := hg
    injection this with this
    subst this
    exact ⟨_, hx⟩
theorem R_steps {B : Nat} {W W' : World} {S P : Nat} {v v' : Value} {L : List UInt8} {pre : List Item} (h : LaySt B W S P v L pre) (k : Steps W W' S P v v') {base : Nat} {ok : Nat → Prop} {o : Value} {xs : List K.S37} (hr : Kd.R K.k37 37 W base ok o xs) : Kd.R K.k37 37 W' base ok o xs := by
  refine R_keep hr fun g cs hg he => ?_
  rw [k.block g (heap_lt he) (fun e => ?_) (fun e => ?_) (fun e => ?_), he]
  · subst e; have := he.symm.trans h.src; injection this with this; injection this with _ this _; exact absurd this (by decide)
  · subst e; have := he.symm.trans h.plc; injection this with this; injection this with _ this _; exact absurd this (by decide)
  · obtain ⟨cs2, h2⟩ := h.blk5 e
    have := he.symm.trans h2; injection this with this; injection this with _ this _; exact absurd this (by decide)
theorem LaySt.grown {B : Nat} {W W' : World} {S P : Nat} {v : Value} {L : List UInt8} {pre : List Item} (h : LaySt B W S P v L pre) {base : Nat} {ok : Nat → Prop} {o : Value} {xs : List K.S37} (hr : Kd.R K.k37 37 W base ok o xs) (g : W.grownBy W' o.ownBlock) : LaySt B W' S P v L pre := by
  have ne : ∀ {b t : Nat} {cs : Array Value}, W.heap[b]? = some (Obj.cells cs t (0, 0)) → ¬ t = 37 → W'.heap[b]? = W.heap[b]? := fun {b t cs} hb ht => g.block b (heap_lt hb) fun e => by
    obtain ⟨c2, h2⟩ := R_blk37 hr e.symm
    have := hb.symm.trans h2; injection this with this; injection this with _ this _; exact ht this
  refine ⟨by rw [ne h.src (by decide), h.src], by rw [ne h.plc (by decide), h.plc], ⟨h.row.1, ?_⟩, h.lt.1, h.lt.2.1, Nat.le_trans h.lt.2.2 g.size⟩
  rcases h.row.2 with h1 | ⟨g', cap, cur, e, hbg, hg, hr⟩
  · exact .inl h1
  · exact .inr ⟨g', cap, cur, e, hbg, by rw [ne hg (by decide), hg], hr⟩
theorem Steps.keep {B : Nat} {W W' : World} {S P : Nat} {v v' : Value} {L : List UInt8} {pre : List Item} (h : LaySt B W S P v L pre) (k : Steps W W' S P v v') {b t : Nat} {cs : Array Value} (hb : W.heap[b]? = some (Obj.cells cs t (0, 0))) (h1 : ¬ t = 22 ∧ ¬ t = 35 ∧ ¬ t = 5) : W'.heap[b]? = some (Obj.cells cs t (0, 0)) := by
  rw [k.block b (heap_lt hb) (fun e => ?_) (fun e => ?_) (fun e => ?_), hb]
  · subst e; have := hb.symm.trans h.src; injection this with this; injection this with _ this _; exact h1.1 this
  · subst e; have := hb.symm.trans h.plc; injection this with this; injection this with _ this _; exact h1.2.1 this
  · obtain ⟨cs2, h2⟩ := h.blk5 e
    have := hb.symm.trans h2; injection this with this; injection this with _ this _; exact h1.2.2 this
theorem LaySt.ownge {B : Nat} {W : World} {S P : Nat} {v : Value} {L : List UInt8} {pre : List Item} (h : LaySt B W S P v L pre) {g : Nat} (hg : v.ownBlock = some g) : B ≤ g := by
  rcases h.row.2 with ⟨e, -⟩ | ⟨g', cap, cur, e, hbg, hx, hy⟩
  · rw [e] at hg; exact absurd hg (nomatch ·)
  · rw [e] at hg
    have : some g' = some g := hg
    injection this with this
    omega
theorem Steps.below0 {n B : Nat} {w W W' : World} {S P : Nat} {v v' : Value} {L : List UInt8} {pre : List Item} (h : LaySt B W S P v L pre) (k : Steps W W' S P v v') (hb : Below n w W) (hn : n ≤ S ∧ n ≤ W.heap.size) : Below n w W' :=
  ⟨k.os.trans hb.os, k.tape.trans hb.tape, k.output.trans hb.output, Nat.le_trans hb.size k.size, fun b hlt => by
    have hl := h.lt
    rw [k.block b (Nat.lt_of_lt_of_le hlt hn.2) (by omega) (by omega) (fun e => by have := h.ownge e; omega), hb.block b hlt]⟩
theorem lay_start (w : World) {W0 : World} (hW : (w.alloc (Obj.cells #[Value.slice none 0 0] 22)).alloc (Obj.cells #[Value.int IntKind.i64 0, Value.int IntKind.i64 1, Value.int IntKind.i64 1] 35) = W0) :
    LaySt (w.heap.size + 1 + 1) W0 w.heap.size (w.heap.size + 1) (.slice none 0 0) [] [] ∧ Below w.heap.size w W0 := by
  subst hW
  have s1 : (w.alloc (Obj.cells #[Value.slice none 0 0] 22)).heap.size = w.heap.size + 1 := World.size_alloc _ _
  have e1 := heap_alloc_new w (Obj.cells #[Value.slice none 0 0] 22)
  have e2 := heap_alloc_new (w.alloc (Obj.cells #[Value.slice none 0 0] 22)) (Obj.cells #[Value.int IntKind.i64 0, Value.int IntKind.i64 1, Value.int IntKind.i64 1] 35)
  rw [s1] at e2
  refine ⟨⟨?_, e2, World.ownsRow_nil _ _ _ _, by omega, by omega, ?_⟩, ?_⟩
  · rw [heap_alloc_old _ _ (by rw [s1]; omega), e1]
  · rw [World.size_alloc, s1]; exact Nat.le_refl _
  · exact (alloc_below w _).alloc (by rw [s1]; omega) _
theorem fine_good {l : List Item} (h : Fine l) : ∀ c ∈ l, c.bad = false := fun c hc => by
  have := (h c hc).2
  unfold okc at this
  cases hb : c.bad with
  | false => rfl
  | true => rw [hb] at this; simp at this
def pcOf (p : PcV) : Pc := ⟨kindIx p.k, p.n.toNat, p.s.data.toList⟩
structure LayAt (gaps : List Int) (ps : List PcV) (j : Nat) (pre : List Item) (T : List K.S37) : Prop where
  text : pre ++ layI gaps ((ps.drop j).map pcOf) j = layI gaps (ps.map pcOf) 0
  toks : T ++ layT gaps ((ps.drop j).map pcOf) j pre = layT gaps (ps.map pcOf) 0 []
  len : T.length = j
theorem tmod4 (k : Int) : k.tmod 4 = k % 4 ∨ (k.tmod 4 = k % 4 - 4 ∧ 0 < k % 4) := by
  rw [Int.tmod_eq_emod]
  by_cases h : 0 ≤ k ∨ (4 : Int) ∣ k
  · rw [if_pos h]; left; omega
  · rw [if_neg h]; right
    refine ⟨rfl, ?_⟩
    have h2 : ¬ (4 : Int) ∣ k := fun e => h (Or.inr e)
    omega
theorem fine_len : ∀ {l : List Item}, Fine l → l.length ≤ (YtmfihkgbfoapaaaDoor.bytesOf l).length
  | [], _ => Nat.zero_le _
  | c :: l, h => by
    rw [bytesOf_cons, List.length_append, List.length_cons]
    have h1 := (h c List.mem_cons_self).1.1
    have h2 := fine_len (l := l) fun x hx => h x (List.mem_cons_of_mem _ hx)
    omega
theorem lay_text {B : Nat} (W : World) {S P n1 k1 : Nat} {A1 : Option Addr} {pre g : List Item} (gs : ByteArray) (h : LaySt B W S P (.slice A1 n1 k1) (YtmfihkgbfoapaaaDoor.bytesOf pre) pre) (hn : (YtmfihkgbfoapaaaDoor.bytesOf pre).length = n1) (hg : Fine g) (hgs : gs.data.toList = YtmfihkgbfoapaaaDoor.bytesOf g)
    (hb : (YtmfihkgbfoapaaaDoor.bytesOf (pre ++ g)).length ≤ 10000000000 ∧ (pre ++ g).length ≤ 10000000000) :
    Calls Tryd.prog 50 #[.string gs, .pointer (some ⟨S, 0, none⟩), .pointer (some ⟨P, 0, none⟩)] W fun e W' => e = .returned (.tuple #[]) ∧ ∃ A k n, (YtmfihkgbfoapaaaDoor.bytesOf (pre ++ g)).length = n ∧ LaySt B W' S P (.slice A n k) (YtmfihkgbfoapaaaDoor.bytesOf (pre ++ g)) (pre ++ g) ∧ Steps W W' S P (.slice A1 n1 k1) (.slice A n k) := by
  have hit : items gs.data.toList = g := by rw [hgs]; exact hg.items
  have hsz : gs.size = (YtmfihkgbfoapaaaDoor.bytesOf g).length := by rw [← data_length, hgs]
  have hlen : (YtmfihkgbfoapaaaDoor.bytesOf (pre ++ g)).length = n1 + gs.size := by rw [bytesOf_app, List.length_append, hn, hsz]
  refine (step_spec W gs hn h (by omega) (by rw [hit]; exact fine_good hg) (by rw [hit]; omega)).mono fun e W' hp => ?_
  obtain ⟨e1, A, k, h1, h2⟩ := hp
  rw [hit, hgs, ← bytesOf_app] at h1
  exact ⟨e1, A, k, n1 + gs.size, hlen, h1, h2⟩
theorem LayAt.split {gaps : List Int} {ps : List PcV} {j : Nat} {pre : List Item} {T : List K.S37} (h : LayAt gaps ps j pre T) (hj : j < ps.length) {p : PcV} (hp : ps.getD j pcV0 = p) :
    (pre ++ ascI (gapOf gaps j)) ++ ((pcOf p).I ++ layI gaps ((ps.drop (j + 1)).map pcOf) (j + 1)) = layI gaps (ps.map pcOf) 0 ∧
    LayAt gaps ps (j + 1) (pre ++ ascI (gapOf gaps j) ++ (pcOf p).I) (T ++ [⟨-2 - ((pcOf p).k : Int), ⟨(YtmfihkgbfoapaaaDoor.bytesOf (pcOf p).I).toArray⟩, plcI (pre ++ ascI (gapOf gaps j)), plcI (pre ++ ascI (gapOf gaps j) ++ (pcOf p).I)⟩]) := by
  have hd : ps.drop j = p :: ps.drop (j + 1) := by
    rw [List.drop_eq_getElem_cons hj, ← hp, List.getD_eq_getElem?_getD, List.getElem?_eq_getElem hj]; rfl
  have h1 := h.text
  have h2 := h.toks
  rw [hd, List.map_cons] at h1 h2
  rw [lay_cons, ← List.append_assoc] at h1
  refine ⟨h1, ?_, ?_, by rw [List.length_append, h.len]; rfl⟩
  · rw [← h1]; simp only [List.append_assoc]
  · rw [← h2, List.append_assoc]; rfl
theorem lay_bounds {gaps : List Int} {pcs : List Pc} {g m : List Item} (h : g ++ m = layI gaps pcs 0) (hb : (YtmfihkgbfoapaaaDoor.bytesOf (layI gaps pcs 0)).length ≤ 10000000000) : (YtmfihkgbfoapaaaDoor.bytesOf g).length ≤ 10000000000 ∧ g.length ≤ 10000000000 := by
  have hf := fine_len (lay_fine gaps pcs 0)
  rw [← h] at hf hb
  rw [bytesOf_app, List.length_append] at hb
  have h2 : Fine g := fun c hc => lay_fine gaps pcs 0 c (by rw [← h]; exact List.mem_append_left _ hc)
  have := fine_len h2
  omega
theorem box57 {w : World} {q : Nat} {t : TypeId} {a0 a1 a2 a3 a4 a5 a6 a7 : Value} (h : w.heap[q]? = some (.cells #[a0, a1, a2, a3, a4, a5, a6, a7] t (0, 0))) (b5 b6 b7 : Value) {W : World}
    (hW : ((w.setCell ⟨q, 5, none⟩ b5).setCell ⟨q, 6, none⟩ b6).setCell ⟨q, 7, none⟩ b7 = W) :
    W.heap[q]? = some (.cells #[a0, a1, a2, a3, a4, b5, b6, b7] t (0, 0)) ∧ Below q w W ∧ W.heap.size = w.heap.size ∧ ∀ k, ¬ k = q → W.heap[k]? = w.heap[k]? := by
  subst hW
  have h2 : (w.setCell ⟨q, 5, none⟩ b5).heap[q]? = some (.cells #[a0, a1, a2, a3, a4, b5, a6, a7] t (0, 0)) := Go.Lib.heap_setCell_same (i := 5) h b5
  have h3 : ((w.setCell ⟨q, 5, none⟩ b5).setCell ⟨q, 6, none⟩ b6).heap[q]? = some (.cells #[a0, a1, a2, a3, a4, b5, b6, a7] t (0, 0)) := Go.Lib.heap_setCell_same (i := 6) h2 b6
  have h4 : (((w.setCell ⟨q, 5, none⟩ b5).setCell ⟨q, 6, none⟩ b6).setCell ⟨q, 7, none⟩ b7).heap[q]? = some (.cells #[a0, a1, a2, a3, a4, b5, b6, b7] t (0, 0)) := Go.Lib.heap_setCell_same (i := 7) h3 b7
  refine ⟨h4, Below.setCell (p := ⟨q, _, none⟩) (Below.setCell (p := ⟨q, _, none⟩) (Below.setCell (p := ⟨q, _, none⟩) (Below.refl q w) (Nat.le_refl q) _) (Nat.le_refl q) _) (Nat.le_refl q) _, by simp only [World.size_setCell], fun k hk => ?_⟩
  rw [Below.heap_setCell _ _ _ _ hk, Below.heap_setCell _ _ _ _ hk, Below.heap_setCell _ _ _ _ hk]
theorem LaySt.off {B : Nat} {W W' : World} {S P : Nat} {v : Value} {L : List UInt8} {pre : List Item} (h : LaySt B W S P v L pre) {q : Nat} {cs : Array Value} (hq : W.heap[q]? = some (Obj.cells cs 37 (0, 0))) (ho : ∀ k, ¬ k = q → W'.heap[k]? = W.heap[k]?) (hs : W'.heap.size = W.heap.size) : LaySt B W' S P v L pre := by
  have ne : ∀ {b t : Nat} {c : Array Value}, W.heap[b]? = some (Obj.cells c t (0, 0)) → ¬ t = 37 → W'.heap[b]? = W.heap[b]? := fun {b t c} hb ht => ho b fun e => by
    subst e
    have := hb.symm.trans hq; injection this with this; injection this with _ this _; exact ht this
  refine ⟨by rw [ne h.src (by decide), h.src], by rw [ne h.plc (by decide), h.plc], ⟨h.row.1, ?_⟩, h.lt.1, h.lt.2.1, by rw [hs]; exact h.lt.2.2⟩
  rcases h.row.2 with h1 | ⟨g', cap, cur, e, hbg, hg, hr⟩
  · exact .inl h1
  · exact .inr ⟨g', cap, cur, e, hbg, by rw [ne hg (by decide), hg], hr⟩
theorem R_off {wc y Z : World} {base : Nat} {ok : Nat → Prop} {o : Value} {xs : List K.S37} (h0 : Kd.R K.k37 37 wc base ok o xs) (h : Kd.R K.k37 37 y base ok o xs) {q : Nat} (hq : wc.heap.size ≤ q) (ho : ∀ k, ¬ k = q → Z.heap[k]? = y.heap[k]?) : Kd.R K.k37 37 Z base ok o xs := by
  refine R_keep h fun g cs hg he => ?_
  obtain ⟨c2, h2⟩ := R_blk37 h0 hg
  have := heap_lt h2
  rw [ho g (by omega), he]
theorem LaySt.source {B : Nat} {W : World} {S P n k : Nat} {A : Option Addr} {L : List UInt8} {pre : List Item} (h : LaySt B W S P (.slice A n k) L pre) : SrcAt W.heap.size W A k L := by
  rcases h.row.2 with ⟨e, hn⟩ | ⟨g, cap, cur, e, _, hq, hc, hm, hz, ht⟩
  · injection e with e1 e2 e3
    subst e3
    exact ⟨by omega, by decide, fun h0 => absurd h0 (by omega)⟩
  · injection e with e1 e2 e3
    subst e1 e3
    refine ⟨hc, hm, fun h0 => ⟨g, 0, rfl, heap_lt hq, fun j hj => ?_⟩⟩
    rw [Nat.zero_add, cell_of_heap hq j]
    have h1 : cur[j]? = (strC L)[j]? := by
      rw [← ht, List.getElem?_take_of_lt (by omega), Array.getElem?_toList]
    rw [h1]
    unfold strC
    rw [List.getElem?_map, List.getElem?_eq_getElem hj]
    show some (Value.int .u8 ((L[j] : UInt8).toNat : Nat)) = _
    unfold gb
    rw [List.getD_eq_getElem?_getD, List.getElem?_eq_getElem hj]
    rfl
theorem LayAt.done {gaps : List Int} {ps : List PcV} {j : Nat} {pre : List Item} {T : List K.S37} (h : LayAt gaps ps j pre T) (hj : j = ps.length) : pre = layI gaps (ps.map pcOf) 0 ∧ T ++ [⟨-1, ⟨#[]⟩, plcI pre, plcI pre⟩] = layT gaps (ps.map pcOf) 0 [] := by
  have h1 := h.text
  have h2 := h.toks
  rw [hj, List.drop_length] at h1 h2
  exact ⟨by rw [← h1]; exact (List.append_nil _).symm, h2⟩
structure TkI (wc : World) (av qv : Value) (kv : Int) (tb : ByteArray) (L : Nat → Bool) (x : World) (s12 s49 s50 s51 s52 s53 s54 : Value) : Prop where
  below : Below wc.heap.size wc x
  o49 : L 0 = true → s49 = av
  o50 : L 1 = true → s50 = .int .i64 kv
  o51 : L 2 = true → s51 = av
  o52 : L 3 = true → s52 = .string tb
  o53 : L 4 = true → s53 = qv
  o54 : L 5 = true → s54 = .agg (#[.int .i64 kv, .string tb] ++ qv.cells ++ #[.int .i64 0, .int .i64 0, .int .i64 0])
  s76 : L 7 = true → L 6 = true
  box : L 6 = true → ∃ q, s12 = .pointer (some ⟨q, 0, none⟩) ∧ wc.heap.size ≤ q ∧ x.heap[q]? = some (.cells (if L 7 = true then #[.int .i64 kv, .string tb] ++ qv.cells ++ #[.int .i64 0, .int .i64 0, .int .i64 0] else #[.int .i64 0, .string ⟨#[]⟩, .int .i64 0, .int .i64 0, .int .i64 0, .int .i64 0, .int .i64 0, .int .i64 0]) 37 (0, 0))
theorem TkI.keep {wc : World} {av qv : Value} {kv : Int} {tb : ByteArray} {L : Nat → Bool} {x y : World} {s12 s49 s50 s51 s52 s53 s54 : Value} (h : TkI wc av qv kv tb L x s12 s49 s50 s51 s52 s53 s54) (k : Below x.heap.size x y) (h6 : L 6 = true) : ∃ q, s12 = .pointer (some ⟨q, 0, none⟩) ∧ wc.heap.size ≤ q ∧ y.heap[q]? = some (.cells (if L 7 = true then #[.int .i64 kv, .string tb] ++ qv.cells ++ #[.int .i64 0, .int .i64 0, .int .i64 0] else #[.int .i64 0, .string ⟨#[]⟩, .int .i64 0, .int .i64 0, .int .i64 0, .int .i64 0, .int .i64 0, .int .i64 0]) 37 (0, 0)) := by
  obtain ⟨q, e, hq, hx⟩ := h.box h6
  exact ⟨q, e, hq, by rw [k.block q (heap_lt hx), hx]⟩
set_option maxRecDepth 100000 in
set_option maxHeartbeats 3200000 in
theorem lay_spec (w : World) (A A2 : Option Addr) (c c2 N G : Nat) (ps : List PcV) (gaps : List Int) (hN : ps.length = N) (hG : gaps.length = G) (h : PcAt w.heap.size w A ps) (hz : SzAt w.heap.size w A2 gaps) (hl : N ≤ 1048576) (hl2 : G ≤ 1048576)
    (hok : ∀ p ∈ ps, p.s.size ≤ 1048576 ∧ 0 ≤ p.n ∧ p.n < 18446744073709551616) (hgw : ∀ z ∈ gaps, -9223372036854775808 ≤ z ∧ z ≤ 9223372036854775807) (hb : (YtmfihkgbfoapaaaDoor.bytesOf (layI gaps (ps.map pcOf) 0)).length ≤ 10000000000) (U : Uni w.heap.size w) :
    Calls Tryd.prog 31 #[.slice A N c, .slice A2 G c2] w fun e w' => ∃ A1 k1 A3 k3, e = .returned (.tuple #[.slice A1 (YtmfihkgbfoapaaaDoor.bytesOf (layI gaps (ps.map pcOf) 0)).length k1, .slice A3 (layT gaps (ps.map pcOf) 0 []).length k3]) ∧
      SrcAt w'.heap.size w' A1 k1 (YtmfihkgbfoapaaaDoor.bytesOf (layI gaps (ps.map pcOf) 0)) ∧ (layT gaps (ps.map pcOf) 0 []).length ≤ k3 ∧ Kd.C K.k37 w' A3 (layT gaps (ps.map pcOf) 0 []).length (layT gaps (ps.map pcOf) 0 []) ∧ Below w.heap.size w w' := by
  have HH := Lib.hid (And.intro h (And.intro hz (And.intro hok (And.intro hgw (And.intro hb (And.intro U (And.intro hN hG)))))))
  clear h hz hok hgw hb U hN hG
  go_enter Tryd.func31, Tryd.ntmps31
  go_upto_region 3 with (fail)
  obtain ⟨W0, hW0⟩ : ∃ W, (w.alloc (Obj.cells #[Value.slice none 0 0] 22)).alloc (Obj.cells #[Value.int IntKind.i64 0, Value.int IntKind.i64 1, Value.int IntKind.i64 1] 35) = W := ⟨_, rfl⟩
  rw [hW0]
  have hst := lay_start w hW0
  clear hW0
  obtain ⟨P, hP⟩ : ∃ P, w.heap.size + 1 = P := ⟨_, rfl⟩
  obtain ⟨S, hS⟩ : ∃ S, w.heap.size = S := ⟨_, rfl⟩
  obtain ⟨B, hB⟩ : ∃ B, w.heap.size + 1 + 1 = B := ⟨_, rfl⟩
  rw [hB, hP, hS] at hst
  rw [hP, hS]
  have HS := Lib.hid (And.intro hst.1 (And.intro hst.2 (And.intro hP (And.intro hS hB))))
  clear hst hP hS hB
  go_wp2_with (fail)
  go_loopg [5, 17] N (fun kk ov t wr => ∃ (j : Nat) (pre : List Item) (T : List K.S37) (A1 : Option Addr) (n1 k1 : Nat), j + kk = N ∧ t = .int .i64 (j : Nat) ∧ LaySt B wr S P (.slice A1 n1 k1) (YtmfihkgbfoapaaaDoor.bytesOf pre) pre ∧ (YtmfihkgbfoapaaaDoor.bytesOf pre).length = n1 ∧ Kd.R K.k37 37 wr B (fun _ => True) ov T ∧ LayAt gaps ps j pre T ∧ Below S w wr)
  case atStart =>
    exact ⟨0, [], [], none, 0, 0, by omega, rfl, HS.out.1, rfl, Kd.R_nil _ _ _ _ _, ⟨rfl, rfl, rfl⟩, HS.out.2.1⟩
  case round =>
    obtain ⟨j, pre, T, A1, n1, k1, hj, rfl, hst, hn1, hR, hat, hbw⟩ := hrel
    by_cases hlt : j < N
    · obtain ⟨g, o, hA, hg, hc⟩ := HH.out.1 (by rw [HH.out.2.2.2.2.2.2.1]; omega)
      subst hA
      obtain ⟨x0, x1, x2⟩ := hc j (by rw [HH.out.2.2.2.2.2.2.1]; exact hlt)
      rw [← cell_below hbw (by show g < S; have := HS.out.2.2.2.1; omega)] at x0 x1 x2
      have hpm : ps.getD j pcV0 ∈ ps := by
        have hj' : j < ps.length := by rw [HH.out.2.2.2.2.2.2.1]; exact hlt
        rw [List.getD_eq_getElem?_getD, List.getElem?_eq_getElem hj']
        exact List.getElem_mem hj'
      obtain ⟨⟨pk, pn, pz⟩, hp⟩ : ∃ p, ps.getD j pcV0 = p := ⟨_, rfl⟩
      rw [hp] at x0 x1 x2 hpm
      simp only at x0 x1 x2
      have HJ := Lib.hid (And.intro hj (And.intro hst (And.intro hn1 (And.intro hR (And.intro hat (And.intro hbw (And.intro hg (And.intro hp hpm))))))))
      have hjb : (j : Int) ≤ 1048576 := by omega
      clear hst hn1 hR hat hbw hg hp hpm hc
      go_upto_region 6 with (fail)
      obtain ⟨wp, hwp⟩ : ∃ W, wr.alloc (Obj.cells #[Value.int IntKind.i64 pk, Value.int IntKind.u64 pn, Value.string pz] 114) = W := ⟨_, rfl⟩
      have hbp := alloc_below wr (Obj.cells #[Value.int IntKind.i64 pk, Value.int IntKind.u64 pn, Value.string pz] 114)
      have hqp := heap_alloc_new wr (Obj.cells #[Value.int IntKind.i64 pk, Value.int IntKind.u64 pn, Value.string pz] 114)
      rw [hwp] at hbp hqp ⊢
      obtain ⟨Bp, hBp⟩ : ∃ b, wr.heap.size = b := ⟨_, rfl⟩
      rw [hBp] at hqp ⊢
      have HP := Lib.hid (And.intro hbp (And.intro hqp (And.intro (HJ.out.2.1.below hbp) (And.intro (Kd.R_below HJ.out.2.2.2.1 hbp) (HJ.out.2.2.2.2.2.1.trans (hbp.mono (by have := HJ.out.2.1.lt; omega)))))))
      clear hwp hbp hqp hBp x0 x1 x2
      go_cut [28] (fun x28 w5 => x28 = .bool (decide (0 < j ∨ 0 < G)) ∧ wp = w5)
      case first =>
        by_cases hj0 : 0 < j
        · have hji : (0 : Int) < (j : Int) := by omega
          go_wp2_with (fail)
          go_meet
          exact ⟨by rw [decide_eq_true (Or.inl hj0)], rfl⟩
        · have hj00 : j = 0 := by omega
          subst hj00
          by_cases hG0 : 0 < G
          · go_wp2_with (fail)
            go_meet
            exact ⟨by rw [decide_eq_true (Or.inr hG0)], rfl⟩
          · have hG00 : G = 0 := by omega
            subst hG00
            go_wp2_with (fail)
            go_meet
            exact ⟨rfl, rfl⟩
      obtain ⟨rfl, rfl⟩ := hcut
      refine (‹∀ (a : Act) (w : World), Code.wp _ _ _ a w → _›) _ _ ?_
      go_cut [10] (fun x10 w5 => ∃ A1 n1 k1, LaySt B w5 S P (.slice A1 n1 k1) (YtmfihkgbfoapaaaDoor.bytesOf (pre ++ ascI (gapOf gaps j))) (pre ++ ascI (gapOf gaps j)) ∧ (YtmfihkgbfoapaaaDoor.bytesOf (pre ++ ascI (gapOf gaps j))).length = n1 ∧ Kd.R K.k37 37 w5 B (fun _ => True) u5 T ∧ Below S w w5 ∧ w5.heap[Bp]? = some (Obj.cells #[.int .i64 pk, .int .u64 pn, .string pz] 114 (0, 0)))
      case first =>
        by_cases hG0 : 0 < G
        · rw [decide_eq_true (Or.inr hG0)]
          obtain ⟨g2, o2, hA2, hg2, hc2⟩ := HH.out.2.1.2 (by rw [HH.out.2.2.2.2.2.2.2]; exact hG0)
          subst hA2
          have hy := hc2 (j % G) (by rw [HH.out.2.2.2.2.2.2.2]; exact Nat.mod_lt _ hG0)
          rw [← cell_below HP.out.2.2.2.2 (by show g2 < S; have := HS.out.2.2.2.1; omega)] at hy
          obtain ⟨z, hz⟩ : ∃ z, gaps.getD (j % G) 0 = z := ⟨_, rfl⟩
          rw [hz] at hy
          have hm0 : 0 ≤ (j : Int) % (G : Int) := Int.emod_nonneg _ (by omega)
          have hm1 : (j : Int) % (G : Int) < (G : Int) := Int.emod_lt_of_pos _ (by omega)
          have hG' : ¬ (G : Int) = 0 := by omega
          go_upto_region 10 with (fail)
          have ht4 := tmod4 z
          have h2 : (z.tmod 4 + 4) % 4 = ((gapIx z : Nat) : Int) := by unfold gapIx; omega
          have h3 : 0 ≤ z.tmod 4 + 4 ∧ z.tmod 4 + 4 ≤ 7 := by omega
          have h4 : -4 < z.tmod 4 ∧ z.tmod 4 < 4 := by omega
          have h5 : gapIx z < 4 := by unfold gapIx; omega
          obtain ⟨q, hq⟩ : ∃ q, gapIx z = q := ⟨_, rfl⟩
          rw [hq] at h2 h5
          have hgp : gapOf gaps j = gapB q := by
            unfold gapOf
            rw [if_neg (fun e => by have := HH.out.2.2.2.2.2.2.2; rw [e] at this; simp at this; omega), HH.out.2.2.2.2.2.2.2, hz, hq]
          have HGP := Lib.hid hgp
          have HQ := Lib.hid (And.intro hq (And.intro hz hg2))
          clear hgp hq hz hg2 ht4 hy hc2
          rcases (show q = 0 ∨ q = 1 ∨ q = 2 ∨ q = 3 by omega) with rfl | rfl | rfl | rfl
          · go_wp2_with (go_at_call 50; refine (lay_text _ ⟨#[10]⟩ (HP.out.2.2.1.below (alloc_below _ _)) HJ.out.2.2.1 (gap_fine gaps j) (by rw [ascI_bytes]; exact HGP.out.symm) (lay_bounds (HJ.out.2.2.2.2.1.split (by rw [HH.out.2.2.2.2.2.2.1]; exact hlt) HJ.out.2.2.2.2.2.2.2.1).1 HH.out.2.2.2.2.1)).mono ?_; rintro e w5 ⟨rfl, A5, k5, n5, h5, hl5, hs5⟩; have H5 := Lib.hid (And.intro h5 (And.intro hl5 hs5)); clear h5 hl5 hs5)
            go_meet
            exact ⟨A5, n5, k5, H5.out.2.1, H5.out.1, R_steps (HP.out.2.2.1.below (alloc_below _ _)) H5.out.2.2 (Kd.R_below HP.out.2.2.2.1 (alloc_below _ _)), Steps.below0 (HP.out.2.2.1.below (alloc_below _ _)) H5.out.2.2 (HP.out.2.2.2.2.trans ((alloc_below _ _).mono (by have := HP.out.2.2.1.lt; omega))) ⟨Nat.le_refl _, by rw [World.size_alloc]; have := HP.out.2.2.1.lt; omega⟩, Steps.keep (HP.out.2.2.1.below (alloc_below _ _)) H5.out.2.2 (((alloc_below wp _).block _ (heap_lt HP.out.2.1)).trans HP.out.2.1) (by decide)⟩
          · go_wp2_with (go_at_call 50; refine (lay_text _ ⟨#[10, 9]⟩ (HP.out.2.2.1.below (alloc_below _ _)) HJ.out.2.2.1 (gap_fine gaps j) (by rw [ascI_bytes]; exact HGP.out.symm) (lay_bounds (HJ.out.2.2.2.2.1.split (by rw [HH.out.2.2.2.2.2.2.1]; exact hlt) HJ.out.2.2.2.2.2.2.2.1).1 HH.out.2.2.2.2.1)).mono ?_; rintro e w5 ⟨rfl, A5, k5, n5, h5, hl5, hs5⟩; have H5 := Lib.hid (And.intro h5 (And.intro hl5 hs5)); clear h5 hl5 hs5)
            go_meet
            exact ⟨A5, n5, k5, H5.out.2.1, H5.out.1, R_steps (HP.out.2.2.1.below (alloc_below _ _)) H5.out.2.2 (Kd.R_below HP.out.2.2.2.1 (alloc_below _ _)), Steps.below0 (HP.out.2.2.1.below (alloc_below _ _)) H5.out.2.2 (HP.out.2.2.2.2.trans ((alloc_below _ _).mono (by have := HP.out.2.2.1.lt; omega))) ⟨Nat.le_refl _, by rw [World.size_alloc]; have := HP.out.2.2.1.lt; omega⟩, Steps.keep (HP.out.2.2.1.below (alloc_below _ _)) H5.out.2.2 (((alloc_below wp _).block _ (heap_lt HP.out.2.1)).trans HP.out.2.1) (by decide)⟩
          · go_wp2_with (go_at_call 50; refine (lay_text _ ⟨#[10, 32, 13, 10]⟩ (HP.out.2.2.1.below (alloc_below _ _)) HJ.out.2.2.1 (gap_fine gaps j) (by rw [ascI_bytes]; exact HGP.out.symm) (lay_bounds (HJ.out.2.2.2.2.1.split (by rw [HH.out.2.2.2.2.2.2.1]; exact hlt) HJ.out.2.2.2.2.2.2.2.1).1 HH.out.2.2.2.2.1)).mono ?_; rintro e w5 ⟨rfl, A5, k5, n5, h5, hl5, hs5⟩; have H5 := Lib.hid (And.intro h5 (And.intro hl5 hs5)); clear h5 hl5 hs5)
            go_meet
            exact ⟨A5, n5, k5, H5.out.2.1, H5.out.1, R_steps (HP.out.2.2.1.below (alloc_below _ _)) H5.out.2.2 (Kd.R_below HP.out.2.2.2.1 (alloc_below _ _)), Steps.below0 (HP.out.2.2.1.below (alloc_below _ _)) H5.out.2.2 (HP.out.2.2.2.2.trans ((alloc_below _ _).mono (by have := HP.out.2.2.1.lt; omega))) ⟨Nat.le_refl _, by rw [World.size_alloc]; have := HP.out.2.2.1.lt; omega⟩, Steps.keep (HP.out.2.2.1.below (alloc_below _ _)) H5.out.2.2 (((alloc_below wp _).block _ (heap_lt HP.out.2.1)).trans HP.out.2.1) (by decide)⟩
          · go_wp2_with (go_at_call 50; refine (lay_text _ ⟨#[10, 10, 32, 32]⟩ (HP.out.2.2.1.below (alloc_below _ _)) HJ.out.2.2.1 (gap_fine gaps j) (by rw [ascI_bytes]; exact HGP.out.symm) (lay_bounds (HJ.out.2.2.2.2.1.split (by rw [HH.out.2.2.2.2.2.2.1]; exact hlt) HJ.out.2.2.2.2.2.2.2.1).1 HH.out.2.2.2.2.1)).mono ?_; rintro e w5 ⟨rfl, A5, k5, n5, h5, hl5, hs5⟩; have H5 := Lib.hid (And.intro h5 (And.intro hl5 hs5)); clear h5 hl5 hs5)
            go_meet
            exact ⟨A5, n5, k5, H5.out.2.1, H5.out.1, R_steps (HP.out.2.2.1.below (alloc_below _ _)) H5.out.2.2 (Kd.R_below HP.out.2.2.2.1 (alloc_below _ _)), Steps.below0 (HP.out.2.2.1.below (alloc_below _ _)) H5.out.2.2 (HP.out.2.2.2.2.trans ((alloc_below _ _).mono (by have := HP.out.2.2.1.lt; omega))) ⟨Nat.le_refl _, by rw [World.size_alloc]; have := HP.out.2.2.1.lt; omega⟩, Steps.keep (HP.out.2.2.1.below (alloc_below _ _)) H5.out.2.2 (((alloc_below wp _).block _ (heap_lt HP.out.2.1)).trans HP.out.2.1) (by decide)⟩
        · by_cases hj0 : 0 < j
          · rw [decide_eq_true (Or.inl hj0)]
            have hgp : gapOf gaps j = [10] := by
              unfold gapOf
              rw [if_pos (List.eq_nil_of_length_eq_zero (by have := HH.out.2.2.2.2.2.2.2; omega)), if_neg (by omega)]
            have HGP := Lib.hid hgp
            clear hgp
            go_wp2_with (go_at_call 50; refine (lay_text wp ⟨#[10]⟩ HP.out.2.2.1 HJ.out.2.2.1 (gap_fine gaps j) (by rw [ascI_bytes]; exact HGP.out.symm) (lay_bounds (HJ.out.2.2.2.2.1.split (by rw [HH.out.2.2.2.2.2.2.1]; exact hlt) HJ.out.2.2.2.2.2.2.2.1).1 HH.out.2.2.2.2.1)).mono ?_; rintro e w5 ⟨rfl, A5, k5, n5, h5, hl5, hs5⟩; have H5 := Lib.hid (And.intro h5 (And.intro hl5 hs5)); clear h5 hl5 hs5)
            go_meet
            exact ⟨A5, n5, k5, H5.out.2.1, H5.out.1, R_steps HP.out.2.2.1 H5.out.2.2 HP.out.2.2.2.1, Steps.below0 HP.out.2.2.1 H5.out.2.2 HP.out.2.2.2.2 (by have := HP.out.2.2.1.lt; omega), Steps.keep HP.out.2.2.1 H5.out.2.2 HP.out.2.1 (by decide)⟩
          · rw [decide_eq_false (by omega)]
            go_wp2_with (fail)
            go_meet
            have hgp : gapOf gaps j = [] := by
              unfold gapOf
              rw [if_pos (List.eq_nil_of_length_eq_zero (by have := HH.out.2.2.2.2.2.2.2; omega)), if_pos (by omega)]
            rw [hgp]
            refine ⟨A1, n1, k1, ?_, ?_, HP.out.2.2.2.1, HP.out.2.2.2.2, HP.out.2.1⟩
            · rw [show ascI [] = [] from rfl, List.append_nil]; exact HP.out.2.2.1
            · rw [show ascI [] = [] from rfl, List.append_nil]; exact HJ.out.2.2.1
      obtain ⟨A5, n5, k5, h5, hn5, hR5, hb5, hq5⟩ := hcut
      have H5 := Lib.hid (And.intro h5 (And.intro hn5 (And.intro hR5 (And.intro hb5 hq5))))
      clear h5 hn5 hR5 hb5 hq5
      refine (‹∀ (a : Act) (w : World), Code.wp _ _ _ a w → _›) _ _ ?_
      go_upto_region 12 with (fail)
      obtain ⟨pre5, hpre5⟩ : ∃ x, pre ++ ascI (gapOf gaps j) = x := ⟨_, rfl⟩
      rw [hpre5] at H5
      obtain ⟨TB, hTB⟩ : ∃ x : ByteArray, (⟨(YtmfihkgbfoapaaaDoor.bytesOf (pieceI (kindIx pk) pn.toNat pz.data.toList)).toArray⟩ : ByteArray) = x := ⟨_, rfl⟩
      have HTB := Lib.hid hTB
      have HPB := Lib.hid (show (0 ≤ pn ∧ pn < 18446744073709551616) ∧ pz.size ≤ 1048576 from ⟨(HH.out.2.2.1 _ HJ.out.2.2.2.2.2.2.2.2).2, (HH.out.2.2.1 _ HJ.out.2.2.2.2.2.2.2.2).1⟩)
      have HWC := Lib.hid (show Below w.heap.size w wc by have := HS.out.2.2.2.1; rw [this]; exact H5.out.2.2.2.1)
      have HUN := Lib.hid HH.out.2.2.2.2.2.1
      have HPRE := Lib.hid hpre5
      clear hTB hpre5
      refine wp_region_inv (fun L act x => ∃ s12 s49 s50 s51 s52 s53 s54 : Value, act = ({ tmps := #[.slice (some ⟨g, o, none⟩) N c, .slice A2 G c2, undef, undef, .pointer (some ⟨S, 0, none⟩), u5, .pointer (some ⟨P, 0, none⟩), .func (.func 50) #[] #[.pointer (some ⟨S, 0, none⟩), .pointer (some ⟨P, 0, none⟩)], .int .i64 (j : Nat), .pointer (some ⟨Bp, 0, none⟩), u10, u11, s12, .agg #[.int .i64 0, .int .i64 1, .int .i64 1], .func (.func 50) #[] #[.pointer (some ⟨S, 0, none⟩), .pointer (some ⟨P, 0, none⟩)], .slice (some ⟨g, o, none⟩) N c, .int .i64 (N : Nat), .int .i64 (j : Nat), u18, u19, u20, u21, u22, u23, u24, u25, u26, u27, u28, u29, u30, u31, u32, u33, u34, u35, u36, u37, u38, u39, u40, u41, u42, u43, u44, u45, u46, u47, u48, s49, s50, s51, s52, s53, s54, u55, u56, u57, u58, u59, u60, u61, u62, u63, u64, u65, undef, undef, undef, undef, undef, undef, undef], defers := [] } : Act) ∧ TkI wc (.agg #[.int .i64 pk, .int .u64 pn, .string pz]) (.agg #[.int .i64 (plcI pre5).f0, .int .i64 (plcI pre5).f1, .int .i64 (plcI pre5).f2]) (-2 - (kindIx pk : Int)) TB L x s12 s49 s50 s51 s52 s53 s54) (by kernel_rfl) (by kernel_rfl) ?_ ?_ ?_
      · exact ⟨_, _, _, _, _, _, _, rfl, ⟨(Below.refl _ _).drew, fun h => (Bool.false_ne_true h).elim, fun h => (Bool.false_ne_true h).elim, fun h => (Bool.false_ne_true h).elim, fun h => (Bool.false_ne_true h).elim, fun h => (Bool.false_ne_true h).elim, fun h => (Bool.false_ne_true h).elim, fun h => (Bool.false_ne_true h).elim, fun h => (Bool.false_ne_true h).elim⟩⟩
      · intro L act x i o hI ho hL hp
        obtain ⟨s12, s49, s50, s51, s52, s53, s54, rfl, hS⟩ := hI
        have HI := Lib.hid hS
        clear hS
        have hi : i < 8 := by
          rcases Nat.lt_or_ge i 8 with h | h
          · exact h
          · rw [List.getElem?_eq_none (by simpa using h)] at ho; cases ho
        match i, hi, ho, hL, hp with
        | 0, _, ho, hL, hp =>
          injection ho with ho; subst ho
          have q0 : x.cell? ⟨Bp, 0, none⟩ = some (.int .i64 pk) := (cell_of_heap ((HI.out.below.block _ (heap_lt H5.out.2.2.2.2)).trans H5.out.2.2.2.2) 0).trans rfl
          have q1 : x.cell? ⟨Bp, 1, none⟩ = some (.int .u64 pn) := (cell_of_heap ((HI.out.below.block _ (heap_lt H5.out.2.2.2.2)).trans H5.out.2.2.2.2) 1).trans rfl
          have q2 : x.cell? ⟨Bp, 2, none⟩ = some (.string pz) := (cell_of_heap ((HI.out.below.block _ (heap_lt H5.out.2.2.2.2)).trans H5.out.2.2.2.2) 2).trans rfl
          go_wp2_with (fail)
          exact ⟨_, _, _, _, _, _, _, ⟨rfl, rfl, rfl, rfl, rfl, rfl, rfl⟩, ⟨HI.out.below, (fun _ => rfl), HI.out.o50, HI.out.o51, HI.out.o52, HI.out.o53, HI.out.o54, HI.out.s76, HI.out.box⟩⟩
        | 1, _, ho, hL, hp =>
          injection ho with ho; subst ho
          obtain rfl := HI.out.o49 (hp 0 (by decide))
          go_wp2_with (go_at_call 51; refine (pkind_spec _ pk pn pz).mono ?_; rintro e y ⟨rfl, hy⟩; have HY := Lib.hid hy; clear hy)
          exact ⟨_, _, _, _, _, _, _, ⟨rfl, rfl, rfl, rfl, rfl, rfl, rfl⟩, ⟨(HI.out.below.trans (HY.out.mono HI.out.below.size)), HI.out.o49, (fun _ => rfl), HI.out.o51, HI.out.o52, HI.out.o53, HI.out.o54, HI.out.s76, (fun h => HI.out.keep HY.out h)⟩⟩
        | 2, _, ho, hL, hp =>
          injection ho with ho; subst ho
          have q0 : x.cell? ⟨Bp, 0, none⟩ = some (.int .i64 pk) := (cell_of_heap ((HI.out.below.block _ (heap_lt H5.out.2.2.2.2)).trans H5.out.2.2.2.2) 0).trans rfl
          have q1 : x.cell? ⟨Bp, 1, none⟩ = some (.int .u64 pn) := (cell_of_heap ((HI.out.below.block _ (heap_lt H5.out.2.2.2.2)).trans H5.out.2.2.2.2) 1).trans rfl
          have q2 : x.cell? ⟨Bp, 2, none⟩ = some (.string pz) := (cell_of_heap ((HI.out.below.block _ (heap_lt H5.out.2.2.2.2)).trans H5.out.2.2.2.2) 2).trans rfl
          go_wp2_with (fail)
          exact ⟨_, _, _, _, _, _, _, ⟨rfl, rfl, rfl, rfl, rfl, rfl, rfl⟩, ⟨HI.out.below, HI.out.o49, HI.out.o50, (fun _ => rfl), HI.out.o52, HI.out.o53, HI.out.o54, HI.out.s76, HI.out.box⟩⟩
        | 3, _, ho, hL, hp =>
          injection ho with ho; subst ho
          obtain rfl := HI.out.o51 (hp 2 (by decide))
          go_wp2_with (go_at_call 52; refine (pwrite_spec _ pk pn pn.toNat pz (by have := HPB.out.1; omega) (by have := HPB.out.1; omega) (by have := HPB.out.2; omega) (HUN.out.at_ (HWC.out.trans (HI.out.below.mono HWC.out.size)) (Nat.le_trans HWC.out.size HI.out.below.size))).mono ?_; rw [HTB.out]; rintro e y ⟨rfl, hly, hy⟩; have HY := Lib.hid (And.intro hly hy); clear hly hy)
          exact ⟨_, _, _, _, _, _, _, ⟨rfl, rfl, rfl, rfl, rfl, rfl, rfl⟩, ⟨(HI.out.below.trans (HY.out.2.mono HI.out.below.size)), HI.out.o49, HI.out.o50, HI.out.o51, (fun _ => rfl), HI.out.o53, HI.out.o54, HI.out.s76, (fun h => HI.out.keep HY.out.2 h)⟩⟩
        | 4, _, ho, hL, hp =>
          injection ho with ho; subst ho
          have q0 : x.cell? ⟨P, 0, none⟩ = some (.int .i64 (plcI pre5).f0) := (cell_of_heap ((HI.out.below.block _ (heap_lt H5.out.1.plc)).trans H5.out.1.plc) 0).trans rfl
          have q1 : x.cell? ⟨P, 1, none⟩ = some (.int .i64 (plcI pre5).f1) := (cell_of_heap ((HI.out.below.block _ (heap_lt H5.out.1.plc)).trans H5.out.1.plc) 1).trans rfl
          have q2 : x.cell? ⟨P, 2, none⟩ = some (.int .i64 (plcI pre5).f2) := (cell_of_heap ((HI.out.below.block _ (heap_lt H5.out.1.plc)).trans H5.out.1.plc) 2).trans rfl
          go_wp2_with (fail)
          exact ⟨_, _, _, _, _, _, _, ⟨rfl, rfl, rfl, rfl, rfl, rfl, rfl⟩, ⟨HI.out.below, HI.out.o49, HI.out.o50, HI.out.o51, HI.out.o52, (fun _ => rfl), HI.out.o54, HI.out.s76, HI.out.box⟩⟩
        | 5, _, ho, hL, hp =>
          injection ho with ho; subst ho
          obtain rfl := HI.out.o50 (hp 1 (by decide))
          obtain rfl := HI.out.o52 (hp 3 (by decide))
          obtain rfl := HI.out.o53 (hp 4 (by decide))
          go_wp2_with (fail)
          exact ⟨_, _, _, _, _, _, _, ⟨rfl, rfl, rfl, rfl, rfl, rfl, rfl⟩, ⟨HI.out.below, HI.out.o49, HI.out.o50, HI.out.o51, HI.out.o52, HI.out.o53, (fun _ => rfl), HI.out.s76, HI.out.box⟩⟩
        | 6, _, ho, hL, hp =>
          injection ho with ho; subst ho
          have hb := alloc_below x (Obj.cells #[.int .i64 0, .string ⟨#[]⟩, .int .i64 0, .int .i64 0, .int .i64 0, .int .i64 0, .int .i64 0, .int .i64 0] 37)
          have hq := heap_alloc_new x (Obj.cells #[.int .i64 0, .string ⟨#[]⟩, .int .i64 0, .int .i64 0, .int .i64 0, .int .i64 0, .int .i64 0, .int .i64 0] 37)
          have h7 : ¬ L 7 = true := fun h => by have := HI.out.s76 h; rw [hL] at this; cases this
          have HQ6 := Lib.hid (And.intro hb (And.intro hq h7))
          clear hb hq h7
          go_wp2_with (fail)
          exact ⟨_, _, _, _, _, _, _, ⟨rfl, rfl, rfl, rfl, rfl, rfl, rfl⟩, ⟨(HI.out.below.trans (HQ6.out.1.mono HI.out.below.size)), HI.out.o49, HI.out.o50, HI.out.o51, HI.out.o52, HI.out.o53, HI.out.o54, (fun _ => rfl), (fun _ => ⟨_, rfl, HI.out.below.size, by rw [if_neg (show ¬ upd L 6 7 = true from HQ6.out.2.2)]; exact HQ6.out.2.1⟩)⟩⟩
        | 7, _, ho, hL, hp =>
          injection ho with ho; subst ho
          obtain rfl := HI.out.o54 (hp 5 (by decide))
          obtain ⟨qt, rfl, hqt, hqh⟩ := HI.out.box (hp 6 (by decide))
          rw [hL, if_neg Bool.false_ne_true] at hqh
          have y0 : x.cell? ⟨qt, 0, none⟩ = some (.int .i64 0) := (cell_of_heap hqh 0).trans rfl
          have y1 : x.cell? ⟨qt, 1, none⟩ = some (.string ⟨#[]⟩) := (cell_of_heap hqh 1).trans rfl
          have y2 : x.cell? ⟨qt, 2, none⟩ = some (.int .i64 0) := (cell_of_heap hqh 2).trans rfl
          have y3 : x.cell? ⟨qt, 3, none⟩ = some (.int .i64 0) := (cell_of_heap hqh 3).trans rfl
          have y4 : x.cell? ⟨qt, 4, none⟩ = some (.int .i64 0) := (cell_of_heap hqh 4).trans rfl
          have y5 : x.cell? ⟨qt, 5, none⟩ = some (.int .i64 0) := (cell_of_heap hqh 5).trans rfl
          have y6 : x.cell? ⟨qt, 6, none⟩ = some (.int .i64 0) := (cell_of_heap hqh 6).trans rfl
          have y7 : x.cell? ⟨qt, 7, none⟩ = some (.int .i64 0) := (cell_of_heap hqh 7).trans rfl
          have fz := frozen_of_heap hqh
          obtain ⟨Z, hZ⟩ : ∃ Z, ((((((((x.setCell ⟨qt, 0, none⟩ (.int .i64 (-2 - (kindIx pk : Int)))).setCell ⟨qt, 1, none⟩ (.string TB)).setCell ⟨qt, 2, none⟩ (.int .i64 (plcI pre5).f0)).setCell ⟨qt, 3, none⟩ (.int .i64 (plcI pre5).f1)).setCell ⟨qt, 4, none⟩ (.int .i64 (plcI pre5).f2)).setCell ⟨qt, 5, none⟩ (.int .i64 0)).setCell ⟨qt, 6, none⟩ (.int .i64 0)).setCell ⟨qt, 7, none⟩ (.int .i64 0)) = Z := ⟨_, rfl⟩
          have hz := box8 hqh _ _ _ _ _ _ _ _ hZ
          have HZ := Lib.hid (And.intro hz (And.intro hqt (hp 6 (by decide))))
          clear hz hqt hqh
          go_wp2_with (fail)
          exact ⟨_, _, _, _, _, _, _, ⟨rfl, rfl, rfl, rfl, rfl, rfl, rfl⟩, ⟨(HI.out.below.trans (HZ.out.1.2.1.mono HZ.out.2.1)), HI.out.o49, HI.out.o50, HI.out.o51, HI.out.o52, HI.out.o53, HI.out.o54, (fun _ => HZ.out.2.2), (fun _ => ⟨qt, rfl, HZ.out.2.1, HZ.out.1.1⟩)⟩⟩
        | n + 8, h, _, _, _ => exact absurd h (by omega)
      · intro L act x hI hall
        obtain ⟨s12, s49, s50, s51, s52, s53, s54, rfl, hS⟩ := hI
        obtain ⟨qt, rfl, hqt, hqh⟩ := hS.box (hall 6 (by decide))
        rw [if_pos (hall 7 (by decide))] at hqh
        have hst6 := H5.out.1.below hS.below
        have HX6 := Lib.hid (And.intro hS.below (And.intro hqt (And.intro hqh hst6)))
        have t1 : x.cell? ⟨qt, 1, none⟩ = some (.string TB) := (cell_of_heap hqh 1).trans rfl
        clear hS hqt hqh hst6
        refine (‹∀ (a : Act) (w : World), Code.wp _ _ _ a w → _›) _ _ ?_
        have hsp := HJ.out.2.2.2.2.1.split (by rw [HH.out.2.2.2.2.2.2.1]; exact hlt) HJ.out.2.2.2.2.2.2.2.1
        rw [HPRE.out] at hsp
        have HSP := Lib.hid hsp
        clear hsp
        go_upto_region 14 with (go_at_call 50; refine (lay_text (g := (pcOf ⟨pk, pn, pz⟩).I) x TB HX6.out.2.2.2 H5.out.2.1 (piece_fine _ _ _) (by rw [← HTB.out]; rfl) (lay_bounds HSP.out.2.text HH.out.2.2.2.2.1)).mono ?_; rintro e y ⟨rfl, A6, k6, n6, h6, hl6, hs6⟩; have H6 := Lib.hid (And.intro h6 (And.intro hl6 hs6)); clear h6 hl6 hs6)
        have hqy := Steps.keep HX6.out.2.2.2 H6.out.2.2 HX6.out.2.2.1 (by decide)
        obtain ⟨⟨p0, p1, p2⟩, hpl⟩ : ∃ q, plcI (pre5 ++ (pcOf ⟨pk, pn, pz⟩).I) = q := ⟨_, rfl⟩
        obtain ⟨⟨r0, r1, r2⟩, hpl5⟩ : ∃ q, plcI pre5 = q := ⟨_, rfl⟩
        rw [hpl5] at hqy
        have hpy := H6.out.2.1.plc
        rw [hpl] at hpy
        simp only at hpy
        have hqy' : y.heap[qt]? = some (.cells #[.int .i64 (-2 - (kindIx pk : Int)), .string TB, .int .i64 r0, .int .i64 r1, .int .i64 r2, .int .i64 0, .int .i64 0, .int .i64 0] 37 (0, 0)) := hqy
        have a0 : y.cell? ⟨P, 0, none⟩ = some (.int .i64 p0) := (cell_of_heap hpy 0).trans rfl
        have a1 : y.cell? ⟨P, 1, none⟩ = some (.int .i64 p1) := (cell_of_heap hpy 1).trans rfl
        have a2 : y.cell? ⟨P, 2, none⟩ = some (.int .i64 p2) := (cell_of_heap hpy 2).trans rfl
        have b5 : y.cell? ⟨qt, 5, none⟩ = some (.int .i64 0) := (cell_of_heap hqy' 5).trans rfl
        have b6 : y.cell? ⟨qt, 6, none⟩ = some (.int .i64 0) := (cell_of_heap hqy' 6).trans rfl
        have b7 : y.cell? ⟨qt, 7, none⟩ = some (.int .i64 0) := (cell_of_heap hqy' 7).trans rfl
        have bz := frozen_of_heap hqy'
        have HPL := Lib.hid (And.intro hpl (And.intro hpl5 hqy'))
        clear hpl hpl5 hqy hqy' hpy
        go_upto_region 15 with (fail)
        obtain ⟨Z, hZ⟩ : ∃ W, ((y.setCell ⟨qt, 5, none⟩ (.int .i64 p0)).setCell ⟨qt, 6, none⟩ (.int .i64 p1)).setCell ⟨qt, 7, none⟩ (.int .i64 p2) = W := ⟨_, rfl⟩
        rw [hZ]
        obtain ⟨hz, hzb, hzs, hzo⟩ := box57 HPL.out.2.2 _ _ _ hZ
        clear hZ a0 a1 a2 b5 b6 b7 bz t1
        have z0 : Z.cell? ⟨qt, 0, none⟩ = some (.int .i64 (-2 - (kindIx pk : Int))) := (cell_of_heap hz 0).trans rfl
        have z1 : Z.cell? ⟨qt, 1, none⟩ = some (.string TB) := (cell_of_heap hz 1).trans rfl
        have z2 : Z.cell? ⟨qt, 2, none⟩ = some (.int .i64 r0) := (cell_of_heap hz 2).trans rfl
        have z3 : Z.cell? ⟨qt, 3, none⟩ = some (.int .i64 r1) := (cell_of_heap hz 3).trans rfl
        have z4 : Z.cell? ⟨qt, 4, none⟩ = some (.int .i64 r2) := (cell_of_heap hz 4).trans rfl
        have z5 : Z.cell? ⟨qt, 5, none⟩ = some (.int .i64 p0) := (cell_of_heap hz 5).trans rfl
        have z6 : Z.cell? ⟨qt, 6, none⟩ = some (.int .i64 p1) := (cell_of_heap hz 6).trans rfl
        have z7 : Z.cell? ⟨qt, 7, none⟩ = some (.int .i64 p2) := (cell_of_heap hz 7).trans rfl
        have hstZ := H6.out.2.1.off HPL.out.2.2 hzo hzs
        have hRZ := R_off H5.out.2.2.1 (R_steps HX6.out.2.2.2 H6.out.2.2 (Kd.R_below H5.out.2.2.1 HX6.out.1)) HX6.out.2.1 hzo
        have hltS := H5.out.1.lt
        have hsS : S ≤ qt := by have := HX6.out.2.1; omega
        have hbZ : Below S w Z := (Steps.below0 HX6.out.2.2.2 H6.out.2.2 (H5.out.2.2.2.1.trans (HX6.out.1.mono (by omega))) ⟨Nat.le_refl _, by have := HX6.out.1.size; omega⟩).trans (hzb.mono hsS)
        have hLA : LayAt gaps ps (j + 1) (pre5 ++ (pcOf ⟨pk, pn, pz⟩).I) (T ++ [(⟨-2 - (kindIx pk : Int), TB, ⟨r0, r1, r2⟩, ⟨p0, p1, p2⟩⟩ : K.S37)]) := by
          have h := HSP.out.2
          rw [HPL.out.1, HPL.out.2.1, show (⟨(YtmfihkgbfoapaaaDoor.bytesOf (pcOf ⟨pk, pn, pz⟩).I).toArray⟩ : ByteArray) = TB from HTB.out] at h
          exact h
        have HZ := Lib.hid (And.intro hz (And.intro hstZ (And.intro hRZ (And.intro hbZ hLA))))
        clear hz hzb hzs hzo hstZ hRZ hltS hsS hbZ hLA
        go_wp2_with (first | ((with_reducible refine gate_builtin (b := .append) (xs := #[.tmp 61, .tmp 63]) rfl ?_); at_builtin; refine Kd.R_append K.k37 (w0 := Z) B rfl (.tmp 61) (.tmp 63) 28 37 (.agg #[.int .i64 0, .string ⟨#[]⟩, .int .i64 0, .int .i64 0, .int .i64 0, .int .i64 0, .int .i64 0, .int .i64 0]) 72 rfl Tryd.underlying28 info37 rfl (by decide) (by omega) u5 T (⟨-2 - (kindIx pk : Int), TB, ⟨r0, r1, r2⟩, ⟨p0, p1, p2⟩⟩ : K.S37) [.int .i64 (-2 - (kindIx pk : Int)), .string TB, .int .i64 r0, .int .i64 r1, .int .i64 r2, .int .i64 p0, .int .i64 p1, .int .i64 p2] (fun _ => True) (fun _ => False) rfl rfl ?aP (fun _ hk => hk.elim) ?aF ?aO ?aB ?aS ?aL ?_; (case aP => exact K.k37_mkM _ _ _ (⟨-2 - (kindIx pk : Int), TB, ⟨r0, r1, r2⟩, ⟨p0, p1, p2⟩⟩ : K.S37)); (case aF => exact fun _ _ => trivial); (case aO => exact HZ.out.2.2.1); (case aB => exact Below.refl _ _); (case aS => exact HZ.out.2.1.lt.2.2); (case aL => have := HJ.out.2.2.2.2.1.len; omega); intro v1 wz ho hb hg hat; have HAP := Lib.hid (And.intro ho (And.intro hb hg)); clear ho hb hg hat))
        go_roundg (N - (j + 1))
        case measure => omega
        case rel => exact ⟨j + 1, pre5 ++ (pcOf ⟨pk, pn, pz⟩).I, _, A6, n6, k6, by omega, by go_num, HZ.out.2.1.grown HZ.out.2.2.1 HAP.out.2.2, H6.out.1, HAP.out.1, HZ.out.2.2.2.2, HZ.out.2.2.2.1.trans (HAP.out.2.1.mono (by have := HZ.out.2.1.lt; omega))⟩
    · have hjN : j = N := by omega
      obtain ⟨hpre, htk⟩ := hat.done (by rw [HH.out.2.2.2.2.2.2.1]; exact hjN)
      obtain ⟨⟨p0, p1, p2⟩, hpl⟩ : ∃ q, plcI pre = q := ⟨_, rfl⟩
      have hplc := hst.plc
      rw [hpl] at hplc htk
      simp only at hplc
      have hlenT := hat.len
      have HE := Lib.hid (And.intro hst (And.intro hn1 (And.intro hR (And.intro hbw (And.intro hpre (And.intro htk (And.intro hplc hlenT)))))))
      clear hst hn1 hR hat hbw hpre htk hplc hlenT hpl
      go_upto_region 17 with (fail)
      refine wp_region_mix (fun w' => w'.heap[S]? = some (.cells #[.slice A1 n1 k1] 22 (0, 0)) ∧ w'.heap[P]? = some (.cells #[.int .i64 p0, .int .i64 p1, .int .i64 p2] 35 (0, 0))) [(false, 0), (false, 1), (false, 2), (false, 3), (false, 4), (true, 5), (true, 6), (true, 7), (false, 8)] (by kernel_rfl) (by kernel_rfl) ⟨HE.out.1.src, HE.out.2.2.2.2.2.2.1⟩ ?_
      obtain ⟨wd, hwd⟩ : ∃ W, wr.drew = W := ⟨_, rfl⟩
      have hbd : Below wr.heap.size wr wd := by rw [← hwd]; exact (Below.refl _ wr).drew
      rw [hwd]
      have hstd := HE.out.1.below hbd
      have hRd := Kd.R_below HE.out.2.2.1 hbd
      have hpd := (hbd.block _ (heap_lt HE.out.2.2.2.2.2.2.1)).trans HE.out.2.2.2.2.2.2.1
      have HD := Lib.hid (And.intro hbd (And.intro hstd (And.intro hRd hpd)))
      clear hwd hbd hstd hRd hpd
      rw [wpMix]
      simp only [List.getElem?_toArray, List.getElem?_cons_zero, List.getElem?_cons_succ]
      refine wpQuiet_want rfl ?_
      intro Kx hKx
      refine ⟨.slice A1 n1 k1, fun w' hw' => ?_, hKx _ ?_⟩
      · obtain ⟨hx1, hx2⟩ := hw'
        have y0 : w'.cell? ⟨S, 0, none⟩ = some (.slice A1 n1 k1) := (cell_of_heap hx1 0).trans rfl
        unfold Oper.quietAt
        go_simp
      clear hKx Kx
      refine wpQuiet_nil ?_
      rw [wpMix]
      simp only [List.getElem?_toArray, List.getElem?_cons_zero, List.getElem?_cons_succ]
      refine wpQuiet_want rfl ?_
      intro Kx hKx
      refine ⟨u5, fun w' hw' => ?_, hKx _ ?_⟩
      · unfold Oper.quietAt
        go_simp
      clear hKx Kx
      refine wpQuiet_nil ?_
      rw [wpMix]
      simp only [List.getElem?_toArray, List.getElem?_cons_zero, List.getElem?_cons_succ]
      refine wpQuiet_want rfl ?_
      intro Kx hKx
      refine ⟨.agg #[.int .i64 p0, .int .i64 p1, .int .i64 p2], fun w' hw' => ?_, hKx _ ?_⟩
      · obtain ⟨hx1, hx2⟩ := hw'
        have y0 : w'.cell? ⟨P, 0, none⟩ = some (.int .i64 p0) := (cell_of_heap hx2 0).trans rfl
        have y1 : w'.cell? ⟨P, 1, none⟩ = some (.int .i64 p1) := (cell_of_heap hx2 1).trans rfl
        have y2 : w'.cell? ⟨P, 2, none⟩ = some (.int .i64 p2) := (cell_of_heap hx2 2).trans rfl
        unfold Oper.quietAt
        go_simp
      clear hKx Kx
      refine wpQuiet_nil ?_
      rw [wpMix]
      simp only [List.getElem?_toArray, List.getElem?_cons_zero, List.getElem?_cons_succ]
      refine wpQuiet_want rfl ?_
      intro Kx hKx
      refine ⟨.agg #[.int .i64 p0, .int .i64 p1, .int .i64 p2], fun w' hw' => ?_, hKx _ ?_⟩
      · obtain ⟨hx1, hx2⟩ := hw'
        have y0 : w'.cell? ⟨P, 0, none⟩ = some (.int .i64 p0) := (cell_of_heap hx2 0).trans rfl
        have y1 : w'.cell? ⟨P, 1, none⟩ = some (.int .i64 p1) := (cell_of_heap hx2 1).trans rfl
        have y2 : w'.cell? ⟨P, 2, none⟩ = some (.int .i64 p2) := (cell_of_heap hx2 2).trans rfl
        unfold Oper.quietAt
        go_simp
      clear hKx Kx
      refine wpQuiet_nil ?_
      rw [wpMix]
      simp only [List.getElem?_toArray, List.getElem?_cons_zero, List.getElem?_cons_succ]
      refine wpQuiet_want rfl ?_
      intro Kx hKx
      refine ⟨.agg #[.int .i64 (-1), .string ⟨#[]⟩, .int .i64 p0, .int .i64 p1, .int .i64 p2, .int .i64 p0, .int .i64 p1, .int .i64 p2], fun w' hw' => ?_, hKx _ ?_⟩
      · unfold Oper.quietAt
        go_simp
      clear hKx Kx
      refine wpQuiet_nil ?_
      rw [wpMix]
      simp only [List.getElem?_toArray, List.getElem?_cons_zero, List.getElem?_cons_succ]
      go_wp2_with (fail)
      have hba := alloc_below wd (Obj.cells #[.int .i64 (-1), .string ⟨#[]⟩, .int .i64 p0, .int .i64 p1, .int .i64 p2, .int .i64 p0, .int .i64 p1, .int .i64 p2] 37)
      refine ⟨⟨(hba.block _ (heap_lt HD.out.2.1.src)).trans HD.out.2.1.src, (hba.block _ (heap_lt HD.out.2.2.2)).trans HD.out.2.2.2⟩, ?_⟩
      clear hba
      rw [wpMix]
      simp only [List.getElem?_toArray, List.getElem?_cons_zero, List.getElem?_cons_succ]
      ((with_reducible refine gate_builtin (b := .append) (xs := #[.tmp 67, .tmp 71]) rfl ?_); at_builtin; refine Kd.R_append K.k37 (w0 := wd) B rfl (.tmp 67) (.tmp 71) 28 37 (.agg #[.int .i64 0, .string ⟨#[]⟩, .int .i64 0, .int .i64 0, .int .i64 0, .int .i64 0, .int .i64 0, .int .i64 0]) 72 rfl Tryd.underlying28 info37 rfl (by decide) (by omega) u5 T (⟨-1, ⟨#[]⟩, ⟨p0, p1, p2⟩, ⟨p0, p1, p2⟩⟩ : K.S37) [.int .i64 (-1), .string ⟨#[]⟩, .int .i64 p0, .int .i64 p1, .int .i64 p2, .int .i64 p0, .int .i64 p1, .int .i64 p2] (fun _ => True) (fun _ => False) rfl rfl ?aP (fun _ hk => hk.elim) ?aF ?aO ?aB ?aS ?aL ?_; (case aP => exact K.k37_mkM _ _ _ (⟨-1, ⟨#[]⟩, ⟨p0, p1, p2⟩, ⟨p0, p1, p2⟩⟩ : K.S37)); (case aF => exact fun _ _ => trivial); (case aO => exact HD.out.2.2.1); (case aB => exact Below.refl _ _); (case aS => exact HD.out.2.1.lt.2.2); (case aL => have := HE.out.2.2.2.2.2.2.2; omega); intro v1 wz ho hb hg hat; have HAP := Lib.hid (And.intro ho (And.intro hb (And.intro (HD.out.2.1.grown HD.out.2.2.1 hg) ((hb.block _ HD.out.2.1.lt.2.1).trans HD.out.2.2.2)))); clear ho hb hg hat)
      go_wp2_with (fail)
      refine ⟨⟨HAP.out.2.2.1.src, HAP.out.2.2.2⟩, ?_⟩
      rw [wpMix]
      simp only [List.getElem?_toArray, List.getElem?_cons_zero, List.getElem?_cons_succ]
      have s0 : wz.cell? ⟨S, 0, none⟩ = some (.slice A1 n1 k1) := (cell_of_heap HAP.out.2.2.1.src 0).trans rfl
      have sf := frozen_of_heap HAP.out.2.2.1.src
      obtain ⟨we, hwe⟩ : ∃ W, wz.setCell ⟨S, 0, none⟩ (.slice A1 n1 k1) = W := ⟨_, rfl⟩
      have hS2 : we.heap[S]? = some (.cells #[.slice A1 n1 k1] 22 (0, 0)) := by rw [← hwe]; exact Go.Lib.heap_setCell_same (i := 0) HAP.out.2.2.1.src (.slice A1 n1 k1)
      have hall : ∀ k, we.heap[k]? = wz.heap[k]? := fun k => by
        by_cases hk : k = S
        · rw [hk, hS2, HAP.out.2.2.1.src]
        · rw [← hwe]; exact Below.heap_setCell _ _ _ _ hk
      have hbe : Below S w we := by
        rw [← hwe]
        have hl := HAP.out.2.2.1.lt
        exact Below.setCell (p := ⟨S, 0, none⟩) ((HE.out.2.2.2.1.trans (HD.out.1.mono (by have := HE.out.1.lt; omega))).trans (HAP.out.2.1.mono (by omega))) (Nat.le_refl S) _
      have HSZ := Lib.hid (show we.heap.size = wz.heap.size by rw [← hwe]; exact World.size_setCell _ _ _)
      have HW := Lib.hid (And.intro hwe (And.intro hS2 (And.intro ((hall P).trans HAP.out.2.2.2) (And.intro hall hbe))))
      clear hwe hS2 hall hbe
      go_wp2_with (fail)
      rw [HW.out.1]
      refine ⟨⟨HW.out.2.1, HW.out.2.2.1⟩, ?_⟩
      clear s0 sf
      rw [wpMix]
      simp only [List.getElem?_toArray, List.getElem?_cons_zero, List.getElem?_cons_succ]
      refine wpQuiet_want rfl ?_
      intro Kx hKx
      refine ⟨v1, fun w' hw' => ?_, hKx _ ?_⟩
      · unfold Oper.quietAt
        go_simp
      clear hKx Kx
      refine wpQuiet_nil ?_
      rw [wpMix]
      have s0 : we.cell? ⟨S, 0, none⟩ = some (.slice A1 n1 k1) := (cell_of_heap HW.out.2.1 0).trans rfl
      obtain ⟨A3, k3, ev, hc3, hC3⟩ := Kd.R_reads (R_keep HAP.out.1 fun g cs hg he => (HW.out.2.2.2.1 g).trans he)
      rw [HE.out.2.2.2.2.2.1] at ev hc3 hC3
      subst ev
      have hsrc := (HAP.out.2.2.1.source.of fun k _ => HW.out.2.2.2.1 k)
      have hlenB : n1 = (YtmfihkgbfoapaaaDoor.bytesOf (layI gaps (ps.map pcOf) 0)).length := by rw [← HE.out.2.2.2.2.1, HE.out.2.1]
      rw [HE.out.2.2.2.2.1] at hsrc
      have HF := Lib.hid (And.intro hlenB (And.intro hsrc (And.intro hc3 hC3)))
      clear hlenB hsrc hc3 hC3
      go_wp2_with (fail)
      refine bodyPost_ret (v := .tuple #[.slice A1 n1 k1, .slice A3 (layT gaps (ps.map pcOf) 0 []).length k3]) ?_ rfl ?_
      · rw [results_cell_tmp rfl]
        go_simp
      · exact ⟨A1, k1, A3, k3, by rw [HF.out.1], by rw [HSZ.out]; exact HF.out.2.1, HF.out.2.2.1, HF.out.2.2.2, by rw [HS.out.2.2.2.1]; exact HW.out.2.2.2.2⟩
end Go.Proofs.YtmfihkgbfoapaaaDoor
