/- Own texts F5 F6 F8 of this claim, cut to what the claim uses. -/
import Derived.Test.YtmfihkgbfoapaaaDoorZF4
import Derived.Test.YtmfihkgbfoapaaaDoorZV5
import Derived.Lib.AppendStr
namespace Go.Proofs.YtmfihkgbfoapaaaDoor
set_option linter.unusedVariables false
set_option linter.unusedSimpArgs false
open Go Go.RowKit Go.Lib Go.BigFrame Go.Proofs.YtmfihkgbfoapaaaDoorW.PrintWords
def strC (l : List UInt8) : List Value := l.map fun b => Value.int .u8 b.toNat
theorem strC_app (a b : List UInt8) : strC (a ++ b) = strC a ++ strC b := List.map_append ..
theorem append_blk {W : World} {B : Nat} {v : Value} {n : Nat} {xs : List Value} (s : ByteArray) (ty : TypeId) (hown : W.ownsRow B 5 1 v n xs) (hn : n + s.size ≤ 100000000000) (hB : B ≤ W.heap.size) :
    ∃ v' w', (Builtin.append_ #[22, 9] ty #[v, .string s]).run Tryd.prog W = .ok v' w' ∧ w'.ownsRow B 5 1 v' (n + s.size) (xs ++ strC s.data.toList) ∧ W.grownBy w' v.ownBlock ∧
      (v'.ownBlock = v.ownBlock ∨ v'.ownBlock = some W.heap.size) := by
  obtain ⟨i, hi, hz, hsz, hby⟩ := inf5i
  have hm : n + s.size ≤ maxLen := by simp only [maxLen]; omega
  obtain ⟨v', w', hr, h2, h3, h4⟩ := run_append_own_string (P := Tryd.prog) W B 22 9 ty 5 i Tryd.underlying22 Tryd.underlying9 hi hz hsz hby v n xs hown s hm (by omega) hB
  refine ⟨v', w', hr, h2, h3, ?_⟩
  rcases hown.2 with ⟨rfl, rfl⟩ | ⟨g, cap, cur, rfl, hbg, hg, hnc, hcm, hcs, htake⟩
  · by_cases h0 : s.size = 0
    · rw [h4.2 ⟨rfl, h0⟩]; exact .inl rfl
    · have hr2 := run_append_nil_string (P := Tryd.prog) W 22 9 ty 5 i (.int .u8 0) Tryd.underlying22 Tryd.underlying9 hi hz s (by omega) (by omega) (by rw [hby]; omega)
      rw [hr] at hr2
      injection hr2 with e1 e2
      rw [e1]; exact .inr rfl
  · by_cases hroom : n + s.size ≤ cap
    · have hr2 := run_append_room_string (P := Tryd.prog) W 22 9 ty 5 i Tryd.underlying22 Tryd.underlying9 hi hsz g n cap cur hg s hroom (by rw [hcs, Nat.mul_one]; exact hroom)
      rw [hr] at hr2
      injection hr2 with e1 e2
      rw [e1]; exact .inl rfl
    · have hr2 := run_append_grow_string (P := Tryd.prog) W 22 9 ty 5 i (.int .u8 0) Tryd.underlying22 Tryd.underlying9 hi hz ⟨g, 0, none⟩ n cap xs (by rw [hsz]; exact hown.1) (hown.cells (g := g) rfl) s (by omega) (by omega) (by rw [hby]; exact growslice_fits (by omega) (by omega))
      rw [hr] at hr2
      injection hr2 with e1 e2
      rw [e1]; exact .inr rfl
theorem wp_append_str {ops : Array Oper} {rest : List Oper} {o : Oper} {a : Act} {Q : Exit → Act → World → Prop} {W : World} (hgd : o.guard = none) (sl x : Operand)
    (ho : o.op = .call { callee := .builtin .append, args := #[sl, x], argTypes := #[22, 9] }) {B : Nat} {v : Value} {n : Nat} {xs : List Value} (s : ByteArray) (hs : a.eval sl = v) (hx : a.eval x = .string s)
    (hown : W.ownsRow B 5 1 v n xs) (hn : n + s.size ≤ 100000000000) (hB : B ≤ W.heap.size)
    (h : ∀ A1 c1 w', w'.ownsRow B 5 1 (.slice A1 (n + s.size) c1) (n + s.size) (xs ++ strC s.data.toList) → W.grownBy w' v.ownBlock → ((Value.slice A1 (n + s.size) c1).ownBlock = v.ownBlock ∨ (Value.slice A1 (n + s.size) c1).ownBlock = some W.heap.size) → wpList Tryd.prog ops Q rest (a.put o.dst (.slice A1 (n + s.size) c1)) w') : wpList Tryd.prog ops Q (o :: rest) a W := by
  refine wpList_plain hgd fun K hK => ?_
  obtain ⟨v', w', hr, h2, h3, h4⟩ := append_blk s o.type hown hn hB
  unfold Oper.wp
  simp [execOp, ho, resolve, invoke, builtin, hs, hx, hr, Result.andThen]
  obtain ⟨A1, c1, rfl⟩ : ∃ A1 c1, v' = .slice A1 (n + s.size) c1 := by
    rcases h2.2 with ⟨e, e2⟩ | ⟨g, cap, cur, e, _⟩
    · exact ⟨none, 0, by rw [e, e2]⟩
    · exact ⟨_, _, e⟩
  exact hK _ _ (h A1 c1 w' h2 h3 h4)
theorem plc_snoc (pr : List Item) (c : Item) : plcI (pr ++ [c]) = if c.r = 10 then ⟨(plcI pr).f0 + (c.bs.length : Nat), (plcI pr).f1 + 1, 1⟩ else ⟨(plcI pr).f0 + (c.bs.length : Nat), (plcI pr).f1, (plcI pr).f2 + 1⟩ := by
  unfold plcI
  rw [posOf_snoc, bytesOf_app, List.length_append]
  have e : (YtmfihkgbfoapaaaDoor.bytesOf [c]).length = c.bs.length := by rw [bytesOf_cons, bytesOf_nil, List.append_nil]
  rw [e]
  unfold posStep
  split <;> simp
theorem plc_bounds {pr m : List Item} (h : (YtmfihkgbfoapaaaDoor.bytesOf (pr ++ m)).length ≤ 100000000000 ∧ (pr ++ m).length ≤ 100000000000) : (0 ≤ (plcI pr).f0 ∧ (plcI pr).f0 ≤ 100000000000) ∧ (0 ≤ (plcI pr).f1 ∧ (plcI pr).f1 ≤ 100000000001) ∧ (0 ≤ (plcI pr).f2 ∧ (plcI pr).f2 ≤ 100000000001) := by
  rw [bytesOf_app, List.length_append, List.length_append] at h
  have := posOf_le pr
  unfold plcI
  simp only
  omega
structure LaySt (B : Nat) (W : World) (S P : Nat) (v : Value) (L : List UInt8) (pre : List Item) : Prop where
  src : W.heap[S]? = some (.cells #[v] 22 (0, 0))
  plc : W.heap[P]? = some (.cells #[.int .i64 (plcI pre).f0, .int .i64 (plcI pre).f1, .int .i64 (plcI pre).f2] 35 (0, 0))
  row : W.ownsRow B 5 1 v L.length (strC L)
  lt : S < P ∧ P < B ∧ B ≤ W.heap.size
structure Steps (W W' : World) (S P : Nat) (v v' : Value) : Prop where
  os : W'.os = W.os
  tape : W'.tape = W.tape
  output : W'.output = W.output
  size : W.heap.size ≤ W'.heap.size
  block : ∀ b, b < W.heap.size → ¬ b = S → ¬ b = P → ¬ v.ownBlock = some b → W'.heap[b]? = W.heap[b]?
  own : v'.ownBlock = v.ownBlock ∨ ∃ b, v'.ownBlock = some b ∧ W.heap.size ≤ b
theorem Steps.trans {W W1 W2 : World} {S P : Nat} {v v1 v2 : Value} (h : Steps W W1 S P v v1) (k : Steps W1 W2 S P v1 v2) : Steps W W2 S P v v2 := by
  refine ⟨k.os.trans h.os, k.tape.trans h.tape, k.output.trans h.output, Nat.le_trans h.size k.size, fun b hb hs hp hv => ?_, ?_⟩
  · rw [k.block b (Nat.lt_of_lt_of_le hb h.size) hs hp ?_, h.block b hb hs hp hv]
    rcases h.own with e | ⟨b', e, hb'⟩
    · rw [e]; exact hv
    · rw [e]; intro e2; injection e2 with e2; omega
  · rcases k.own with e | ⟨b, e, hb⟩
    · rw [e]; exact h.own
    · exact .inr ⟨b, e, Nat.le_trans h.size hb⟩
theorem Steps.below {W W1 W2 : World} {S P : Nat} {v v1 : Value} (h : Steps W W1 S P v v1) (k : Below W1.heap.size W1 W2) : Steps W W2 S P v v1 :=
  ⟨k.os.trans h.os, k.tape.trans h.tape, k.output.trans h.output, Nat.le_trans h.size k.size, fun b hb hs hp hv => by rw [k.block b (Nat.lt_of_lt_of_le hb h.size), h.block b hb hs hp hv], h.own⟩
theorem LaySt.below {B : Nat} {W W' : World} {S P : Nat} {v : Value} {L : List UInt8} {pre : List Item} (h : LaySt B W S P v L pre) (k : Below W.heap.size W W') : LaySt B W' S P v L pre := by
  refine ⟨?_, ?_, ?_, h.lt.1, h.lt.2.1, Nat.le_trans h.lt.2.2 k.size⟩
  · rw [k.block S (heap_lt h.src), h.src]
  · rw [k.block P (heap_lt h.plc), h.plc]
  · refine ⟨h.row.1, ?_⟩
    rcases h.row.2 with h1 | ⟨g, cap, cur, e, hbg, hg, hr⟩
    · exact .inl h1
    · exact .inr ⟨g, cap, cur, e, hbg, by rw [k.block g (heap_lt hg), hg], hr⟩
theorem LaySt.put {B : Nat} {W W' : World} {S P : Nat} {v : Value} {L : List UInt8} {pre pre' : List Item} (h : LaySt B W S P v L pre) (hp : W'.heap[P]? = some (.cells #[.int .i64 (plcI pre').f0, .int .i64 (plcI pre').f1, .int .i64 (plcI pre').f2] 35 (0, 0)))
    (ho : ∀ k, ¬ k = P → W'.heap[k]? = W.heap[k]?) (hs : W'.heap.size = W.heap.size) : LaySt B W' S P v L pre' := by
  have hl := h.lt
  refine ⟨by rw [ho S (by omega), h.src], hp, ?_, by rw [hs]; exact hl⟩
  refine ⟨h.row.1, ?_⟩
  rcases h.row.2 with h1 | ⟨g, cap, cur, e, hbg, hg, hr⟩
  · exact .inl h1
  · exact .inr ⟨g, cap, cur, e, hbg, by rw [ho g (by omega), hg], hr⟩
theorem LaySt.appended {B : Nat} {W W' : World} {S P : Nat} {v v' : Value} {L : List UInt8} {pre : List Item} {l : List UInt8} (h : LaySt B W S P v L pre) (hr : W'.ownsRow B 5 1 v' (L.length + l.length) (strC L ++ strC l)) (g : W.grownBy W' v.ownBlock)
    {V : World} (hV : W'.setCell ⟨S, 0, none⟩ v' = V) (hsp : ¬ v.ownBlock = some S ∧ ¬ v.ownBlock = some P) (ho : v'.ownBlock = v.ownBlock ∨ v'.ownBlock = some W.heap.size) : LaySt B V S P v' (L ++ l) pre ∧ Steps W V S P v v' := by
  have hl := h.lt
  have g1 := g.block S (heap_lt h.src) (fun e => hsp.1 e.symm)
  have g2 := g.block P (heap_lt h.plc) (fun e => hsp.2 e.symm)
  have k1 := Go.Lib.heap_setCell_same (i := 0) (g1.trans h.src) v'
  subst hV
  have hsz : (W'.setCell ⟨S, 0, none⟩ v').heap.size = W'.heap.size := by simp
  refine ⟨⟨k1, ?_, ?_, hl.1, hl.2.1, by rw [hsz]; exact Nat.le_trans hl.2.2 g.size⟩, ⟨g.os, g.tape, g.output, by rw [hsz]; exact g.size, fun b hb hs hp hv => ?_, ?_⟩⟩
  · rw [Below.heap_setCell _ _ _ _ (show ¬ P = S by omega), g2, h.plc]
  · rw [List.length_append, strC_app]
    refine ⟨hr.1, ?_⟩
    rcases hr.2 with h1 | ⟨g, cap, cur, e, hbg, hg, hx⟩
    · exact .inl h1
    · exact .inr ⟨g, cap, cur, e, hbg, by rw [Below.heap_setCell _ _ _ _ (show ¬ g = S by omega), hg], hx⟩
  · rw [Below.heap_setCell _ _ _ _ hs, g.block b hb (fun e => hv e.symm)]
  · rcases ho with e | e
    · exact .inl e
    · exact .inr ⟨_, e, Nat.le_refl _⟩
theorem LaySt.own {B : Nat} {W : World} {S P : Nat} {v : Value} {L : List UInt8} {pre : List Item} (h : LaySt B W S P v L pre) : ¬ v.ownBlock = some S ∧ ¬ v.ownBlock = some P := by
  have hl := h.lt
  rcases h.row.2 with ⟨e, -⟩ | ⟨g, cap, cur, e, hbg, hx⟩
  · rw [e]
    exact ⟨(nomatch ·), (nomatch ·)⟩
  · rw [e]
    show ¬ some g = some S ∧ ¬ some g = some P
    refine ⟨fun h => ?_, fun h => ?_⟩ <;> (injection h with h; omega)
theorem hd_bs_len {tb : ByteArray} (h0 : 0 < tb.size) {r n : Nat} (h : hd tb.data.toList = (r, n)) : (hdItem tb.data.toList).bs.length = n := by
  have h1 := hdItem_n (l := tb.data.toList) (by rw [data_length]; exact h0)
  unfold Item.n at h1
  rw [h1, h]
theorem Steps.put {w1 Z : World} {S P : Nat} {v : Value} (ho : ∀ k, ¬ k = P → Z.heap[k]? = w1.heap[k]?) (hs : Z.heap.size = w1.heap.size) (h1 : Z.os = w1.os) (h2 : Z.tape = w1.tape) (h3 : Z.output = w1.output) : Steps w1 Z S P v v :=
  ⟨h1, h2, h3, by rw [hs]; exact Nat.le_refl _, fun b _ _ hp _ => ho b hp, .inl rfl⟩
theorem LaySt.put_2 {B : Nat} {w1 Z : World} {S P : Nat} {v : Value} {L : List UInt8} {pr : List Item} {c : Item} {q0 q1 q2 : Int} {n : Nat} (h : LaySt B w1 S P v L pr) (hq : w1.heap[P]? = some (.cells #[.int .i64 q0, .int .i64 q1, .int .i64 q2] 35 (0, 0)))
    (hp : plcI pr = ⟨q0, q1, q2⟩) (hn : c.bs.length = n) (h10 : ¬ c.r = 10) (hZ : (w1.setCell ⟨P, 0, none⟩ (.int .i64 (q0 + n))).setCell ⟨P, 2, none⟩ (.int .i64 (q2 + 1)) = Z) : LaySt B Z S P v L (pr ++ [c]) ∧ Steps w1 Z S P v v := by
  subst hZ
  have k0 := Go.Lib.heap_setCell_same (i := 0) hq (.int .i64 (q0 + n))
  have k2 := Go.Lib.heap_setCell_same (i := 2) k0 (.int .i64 (q2 + 1))
  have ho : ∀ k, ¬ k = P → ((w1.setCell ⟨P, 0, none⟩ (.int .i64 (q0 + n))).setCell ⟨P, 2, none⟩ (.int .i64 (q2 + 1))).heap[k]? = w1.heap[k]? := fun k hk => by
    rw [Below.heap_setCell _ _ _ _ hk, Below.heap_setCell _ _ _ _ hk]
  have hs : ((w1.setCell ⟨P, 0, none⟩ (.int .i64 (q0 + n))).setCell ⟨P, 2, none⟩ (.int .i64 (q2 + 1))).heap.size = w1.heap.size := by simp
  refine ⟨h.put ?_ ho hs, Steps.put ho hs rfl rfl rfl⟩
  rw [plc_snoc, if_neg h10, hp, hn]
  exact k2
theorem LaySt.put_4 {B : Nat} {w1 Z : World} {S P : Nat} {v : Value} {L : List UInt8} {pr : List Item} {c : Item} {q0 q1 q2 : Int} {n : Nat} (h : LaySt B w1 S P v L pr) (hq : w1.heap[P]? = some (.cells #[.int .i64 q0, .int .i64 q1, .int .i64 q2] 35 (0, 0)))
    (hp : plcI pr = ⟨q0, q1, q2⟩) (hn : c.bs.length = n) (h10 : c.r = 10) (hZ : (((w1.setCell ⟨P, 0, none⟩ (.int .i64 (q0 + n))).setCell ⟨P, 2, none⟩ (.int .i64 (q2 + 1))).setCell ⟨P, 1, none⟩ (.int .i64 (q1 + 1))).setCell ⟨P, 2, none⟩ (.int .i64 1) = Z) : LaySt B Z S P v L (pr ++ [c]) ∧ Steps w1 Z S P v v := by
  subst hZ
  have k0 := Go.Lib.heap_setCell_same (i := 0) hq (.int .i64 (q0 + n))
  have k2 := Go.Lib.heap_setCell_same (i := 2) k0 (.int .i64 (q2 + 1))
  have k1 := Go.Lib.heap_setCell_same (i := 1) k2 (.int .i64 (q1 + 1))
  have k3 := Go.Lib.heap_setCell_same (i := 2) k1 (.int .i64 1)
  have ho : ∀ k, ¬ k = P → ((((w1.setCell ⟨P, 0, none⟩ (.int .i64 (q0 + n))).setCell ⟨P, 2, none⟩ (.int .i64 (q2 + 1))).setCell ⟨P, 1, none⟩ (.int .i64 (q1 + 1))).setCell ⟨P, 2, none⟩ (.int .i64 1)).heap[k]? = w1.heap[k]? := fun k hk => by
    rw [Below.heap_setCell _ _ _ _ hk, Below.heap_setCell _ _ _ _ hk, Below.heap_setCell _ _ _ _ hk, Below.heap_setCell _ _ _ _ hk]
  have hs : ((((w1.setCell ⟨P, 0, none⟩ (.int .i64 (q0 + n))).setCell ⟨P, 2, none⟩ (.int .i64 (q2 + 1))).setCell ⟨P, 1, none⟩ (.int .i64 (q1 + 1))).setCell ⟨P, 2, none⟩ (.int .i64 1)).heap.size = w1.heap.size := by simp
  refine ⟨h.put ?_ ho hs, Steps.put ho hs rfl rfl rfl⟩
  rw [plc_snoc, if_pos h10, hp, hn]
  exact k3
set_option maxRecDepth 100000 in
set_option maxHeartbeats 1600000 in
theorem step_spec {B : Nat} (W : World) {S P n0 k0 : Nat} {A0 : Option Addr} {L : List UInt8} {pre : List Item} (s : ByteArray) (hn0 : L.length = n0) (h : LaySt B W S P (.slice A0 n0 k0) L pre) (hl : n0 + s.size ≤ 100000000000)
    (hg : ∀ c ∈ items s.data.toList, c.bad = false) (hb : (YtmfihkgbfoapaaaDoor.bytesOf (pre ++ items s.data.toList)).length ≤ 100000000000 ∧ (pre ++ items s.data.toList).length ≤ 100000000000) :
    Calls Tryd.prog 50 #[.string s, .pointer (some ⟨S, 0, none⟩), .pointer (some ⟨P, 0, none⟩)] W fun e W' => e = .returned (.tuple #[]) ∧ ∃ A1 k1, LaySt B W' S P (.slice A1 (n0 + s.size) k1) (L ++ s.data.toList) (pre ++ items s.data.toList) ∧ Steps W W' S P (.slice A0 n0 k0) (.slice A1 (n0 + s.size) k1) := by
  have c0 : W.cell? ⟨S, 0, none⟩ = some (.slice A0 n0 k0) := (cell_of_heap h.src 0).trans rfl
  have f0 := frozen_of_heap h.src
  have HH := Lib.hid (And.intro h (And.intro hn0 (And.intro hg hb)))
  have hlt : S < P ∧ P < B ∧ B ≤ W.heap.size := h.lt
  clear h hg hb hn0
  go_enter Tryd.func50, Tryd.ntmps50
  go_upto_region 1 with (first | ((with_reducible refine gate_builtin (b := .append) (xs := #[.tmp 6, .tmp 7]) rfl ?_); at_builtin; refine wp_append_str rfl (.tmp 6) (.tmp 7) rfl s rfl rfl HH.out.1.row (by rw [HH.out.2.1]; exact hl) hlt.2.2 ?_; rw [HH.out.2.1]; intro A1 k1 W1 hr1 hg1 ho1; have g1 := (hg1.block S (heap_lt HH.out.1.src) (fun e => HH.out.1.own.1 e.symm)).trans HH.out.1.src; have c1 : W1.cell? ⟨S, 0, none⟩ = some (.slice A0 n0 k0) := (cell_of_heap g1 0).trans rfl; have f1 := frozen_of_heap g1; clear g1; have HA := Lib.hid (And.intro hr1 (And.intro hg1 ho1)); clear hr1 hg1 ho1))
  obtain ⟨V, hV⟩ : ∃ V, W1.setCell ⟨S, 0, none⟩ (.slice A1 (n0 + s.size) k1) = V := ⟨_, rfl⟩
  rw [hV]
  have hap := HH.out.1.appended (l := s.data.toList) (by rw [HH.out.2.1, data_length]; exact HA.out.1) HA.out.2.1 hV HH.out.1.own HA.out.2.2
  have HV := Lib.hid hap
  clear hap hV c0 c1 f0 f1
  go_loopg [0] s.size (fun kk t wr => ∃ (tb : ByteArray) (pr : List Item), tb.size = kk ∧ t = .string tb ∧ LaySt B wr S P (.slice A1 (n0 + s.size) k1) (L ++ s.data.toList) pr ∧ Steps W wr S P (.slice A0 n0 k0) (.slice A1 (n0 + s.size) k1) ∧ pr ++ items tb.data.toList = pre ++ items s.data.toList ∧ (∀ c ∈ items tb.data.toList, c.bad = false))
  case atStart => exact ⟨s, pre, rfl, rfl, HV.out.1, HV.out.2, rfl, HH.out.2.2.1⟩
  case round =>
    obtain ⟨tb, pr, rfl, rfl, hst, hsp, he, hgd⟩ := hrel
    have hlen : tb.data.toList.length = tb.size := data_length tb
    have hq0 := hst.plc
    have hqb := plc_bounds (pr := pr) (m := items tb.data.toList) (by rw [he]; exact HH.out.2.2.2)
    have hsize : tb.size ≤ 100000000000 := by
      rw [← data_length, ← bytesOf_items tb.data.toList]
      have h1 := HH.out.2.2.2.1
      rw [← he, bytesOf_app, List.length_append] at h1
      omega
    obtain ⟨q, hq⟩ : ∃ q, plcI pr = q := ⟨_, rfl⟩
    rw [hq] at hqb
    have HHR := Lib.hid (And.intro hst (And.intro hsp (And.intro he (And.intro hgd hq))))
    rw [hq] at hq0
    obtain ⟨q0, q1, q2⟩ := q
    simp only at hq0 hqb
    clear hst hsp he hgd hq
    by_cases h0 : 0 < tb.size
    · have kb := fun W => print_bytes (P := Tryd.prog) 9 22 5 Tryd.underlying9 Tryd.underlying22 Tryd.underlying5 tb W
      have hkd := bytes_kd wr tb (by have := hsize; omega)
      have hbb := bytesWorld_below wr 5 tb
      have hdec := dec_spec (bytesWorld wr 5 tb) (some ⟨wr.heap.size, 0, none⟩) (grownCap wr tb.size 0 5) tb.data.toList (by rw [hlen]; exact hkd) (by rw [hlen]; exact grownCap_ge _ _ _ _) (by omega)
      rw [hlen] at hdec
      have hbad : ¬ (hdItem tb.data.toList).bad = true := by
        have hm : hdItem tb.data.toList ∈ items tb.data.toList := by rw [items_cons (by omega)]; exact List.mem_cons_self
        rw [HHR.out.2.2.2.1 _ hm]; decide
      have e0 : specDec tb.data.toList = hd tb.data.toList := by unfold specDec; rw [if_neg hbad]
      have HD := Lib.hid (And.intro hdec (And.intro hbb hlen))
      clear hkd hbb hdec hlen
      have hl1 := HD.out.2.2
      have hn1 := hd_pos tb.data.toList
      have hn2 := hd_le (l := tb.data.toList) (by omega)
      have hr := hd_rune tb.data.toList
      rw [hl1] at hn2
      generalize hp : hd tb.data.toList = p at *
      obtain ⟨r, n⟩ := p
      simp only at *
      have HX := Lib.hid (And.intro e0 hp)
      clear e0 hp hl1
      go_upto_region 3 with (go_at_call 37; refine (HD.out.1).mono ?_; rw [HX.out.1]; rintro e w1 ⟨rfl, hb1⟩; have HB := Lib.hid (HD.out.2.1.trans (hb1.mono HD.out.2.1.size)); clear hb1)
      have hst1 := HHR.out.1.below HB.out
      have hq1 := hst1.plc
      rw [HHR.out.2.2.2.2] at hq1
      simp only at hq1
      have c0 : w1.cell? ⟨P, 0, none⟩ = some (.int .i64 q0) := (cell_of_heap hq1 0).trans rfl
      have c1 : w1.cell? ⟨P, 1, none⟩ = some (.int .i64 q1) := (cell_of_heap hq1 1).trans rfl
      have c2 : w1.cell? ⟨P, 2, none⟩ = some (.int .i64 q2) := (cell_of_heap hq1 2).trans rfl
      have f1 := frozen_of_heap hq1
      have HS1 := Lib.hid (And.intro hst1 hq1)
      clear hst1 hq1 hq0
      by_cases h10 : r = 10
      · subst h10
        go_wp2_with (fail)
        obtain ⟨Z, hZ⟩ : ∃ Z, (((w1.setCell ⟨P, 0, none⟩ (.int .i64 (q0 + n))).setCell ⟨P, 2, none⟩ (.int .i64 (q2 + 1))).setCell ⟨P, 1, none⟩ (.int .i64 (q1 + 1))).setCell ⟨P, 2, none⟩ (.int .i64 1) = Z := ⟨_, rfl⟩
        rw [hZ]
        have hz := HS1.out.1.put_4 HS1.out.2 (c := hdItem tb.data.toList) (pr := pr) (by rw [HHR.out.2.2.2.2]) (by rw [hd_bs_len h0 HX.out.2]) (by show (hd tb.data.toList).1 = 10; rw [HX.out.2]) hZ
        have HZ := Lib.hid hz
        clear hz hZ c0 c1 c2 f1
        go_roundg (tb.size - n)
        case measure => omega
        case rel =>
          have hit := items_cons (l := tb.data.toList) (by rw [data_length]; exact h0)
          rw [HX.out.2] at hit
          refine ⟨tb.extract n tb.size, pr ++ [hdItem tb.data.toList], extract_size' _ _ _ (Nat.le_refl _), rfl, HZ.out.1, (HHR.out.2.1.below HB.out).trans HZ.out.2, ?_, ?_⟩
          · rw [extract_tail, ← HHR.out.2.2.1, hit, List.append_assoc]; rfl
          · rw [extract_tail]; intro c hc; exact HHR.out.2.2.2.1 c (by rw [hit]; exact List.mem_cons_of_mem _ hc)
      · have h10' : ((r : Int) == 10) = false := by simpa using (by omega : ¬ (r : Int) = 10)
        go_wp2_with (fail)
        obtain ⟨Z, hZ⟩ : ∃ Z, (w1.setCell ⟨P, 0, none⟩ (.int .i64 (q0 + n))).setCell ⟨P, 2, none⟩ (.int .i64 (q2 + 1)) = Z := ⟨_, rfl⟩
        rw [hZ]
        have hz := HS1.out.1.put_2 HS1.out.2 (c := hdItem tb.data.toList) (pr := pr) (by rw [HHR.out.2.2.2.2]) (by rw [hd_bs_len h0 HX.out.2]) (by show ¬ (hd tb.data.toList).1 = 10; rw [HX.out.2]; exact h10) hZ
        have HZ := Lib.hid hz
        clear hz hZ c0 c1 c2 f1
        go_roundg (tb.size - n)
        case measure => omega
        case rel =>
          have hit := items_cons (l := tb.data.toList) (by rw [data_length]; exact h0)
          rw [HX.out.2] at hit
          refine ⟨tb.extract n tb.size, pr ++ [hdItem tb.data.toList], extract_size' _ _ _ (Nat.le_refl _), rfl, HZ.out.1, (HHR.out.2.1.below HB.out).trans HZ.out.2, ?_, ?_⟩
          · rw [extract_tail, ← HHR.out.2.2.1, hit, List.append_assoc]; rfl
          · rw [extract_tail]; intro c hc; exact HHR.out.2.2.2.1 c (by rw [hit]; exact List.mem_cons_of_mem _ hc)
    · go_wp2_with (fail)
      refine bodyPost_end (results_none rfl _ _ _) rfl ?_
      refine ⟨rfl, A1, k1, ?_, HHR.out.2.1⟩
      have h1 : tb.data.toList = [] := List.eq_nil_of_length_eq_zero (by rw [data_length]; omega)
      have h2 := HHR.out.2.2.1
      rw [h1, items_nil, List.append_nil] at h2
      rw [← h2]; exact HHR.out.1
end Go.Proofs.YtmfihkgbfoapaaaDoor
namespace Go.Proofs.YtmfihkgbfoapaaaDoor
set_option linter.unusedVariables false
set_option linter.unusedSimpArgs false
open Go Go.RowKit Go.Lib Go.BigFrame Go.Proofs.YtmfihkgbfoapaaaDoorW.PrintWords
structure PcV where
  k : Int
  n : Int
  s : ByteArray
def pcV0 : PcV := ⟨0, 0, ⟨#[]⟩⟩
def PcAt (B : Nat) (W : World) (A : Option Addr) (ps : List PcV) : Prop :=
  0 < ps.length → ∃ g o, A = some ⟨g, o, none⟩ ∧ g < B ∧ ∀ j, j < ps.length → W.cell? ⟨g, o + j * 3, none⟩ = some (.int .i64 (ps.getD j pcV0).k) ∧ W.cell? ⟨g, o + j * 3 + 1, none⟩ = some (.int .u64 (ps.getD j pcV0).n) ∧ W.cell? ⟨g, o + j * 3 + 2, none⟩ = some (.string (ps.getD j pcV0).s)
theorem PcAt.below {B : Nat} {W W' : World} {A : Option Addr} {ps : List PcV} (h : PcAt B W A ps) (k : Below B W W') : PcAt B W' A ps := fun h0 => by
  obtain ⟨g, o, e, hg, hc⟩ := h h0
  refine ⟨g, o, e, hg, fun j hj => ?_⟩
  obtain ⟨x0, x1, x2⟩ := hc j hj
  exact ⟨by rw [cell_below k hg]; exact x0, by rw [cell_below k hg]; exact x1, by rw [cell_below k hg]; exact x2⟩
set_option maxRecDepth 100000 in
theorem fits3_yes (w : World) (k n : Int) (s : ByteArray) (hs : s.size ≤ 1048576) : Calls Tryd.prog 49 #[.agg #[.int .i64 k, .int .u64 n, .string s]] w fun e w' => e = .returned (.bool true) ∧ Below w.heap.size w w' := by
  go_enter Tryd.func49, Tryd.ntmps49
  go_wp2_with (fail)
  go_ret
  exact ⟨rfl, alloc_below _ _⟩
set_option maxRecDepth 100000 in
set_option maxHeartbeats 1600000 in
theorem fits2_yes (w : World) (A : Option Addr) (c N : Nat) (ps : List PcV) (hN : ps.length = N) (h : PcAt w.heap.size w A ps) (hl : N ≤ 1048576) (hs : ∀ p ∈ ps, p.s.size ≤ 1048576) :
    Calls Tryd.prog 30 #[.slice A N c] w fun e w' => e = .returned (.bool true) ∧ Below w.heap.size w w' := by
  have HH := Lib.hid (And.intro h (And.intro hs hN))
  clear h hs hN
  go_enter Tryd.func30, Tryd.ntmps30
  go_wp2_with (fail)
  go_loopg [10] N (fun kk t wr => ∃ j : Nat, j + kk = N ∧ t = .int .i64 (j : Nat) ∧ Below w.heap.size w wr)
  case atStart => exact ⟨0, by omega, rfl, Below.refl _ _⟩
  case round =>
    obtain ⟨j, hj, rfl, hb⟩ := hrel
    have HB := Lib.hid hb
    clear hb
    by_cases hlt : j < N
    · obtain ⟨g, o, hA, hg, hc⟩ := HH.out.1 (by rw [HH.out.2.2]; omega)
      subst hA
      obtain ⟨x0, x1, x2⟩ := hc j (by rw [HH.out.2.2]; exact hlt)
      have hs1 : (ps.getD j pcV0).s.size ≤ 1048576 := by
        have hj' : j < ps.length := by rw [HH.out.2.2]; exact hlt
        rw [List.getD_eq_getElem?_getD, List.getElem?_eq_getElem hj']
        exact HH.out.2.1 _ (List.getElem_mem hj')
      rw [← cell_below HB.out (by exact hg)] at x0 x1 x2
      obtain ⟨⟨pk, pn, psx⟩, hp⟩ : ∃ p, ps.getD j pcV0 = p := ⟨_, rfl⟩
      rw [hp] at x0 x1 x2 hs1
      simp only at x0 x1 x2 hs1
      have HX := Lib.hid (And.intro hg hp)
      clear hg hp hc
      have hjb : (j : Int) ≤ 1048576 := by omega
      go_wp2_with (go_at_call 49; refine (fits3_yes _ pk pn psx hs1).mono ?_; rintro e w2 ⟨rfl, hb2⟩; have HB2 := Lib.hid (HB.out.trans (((alloc_below _ _).trans (hb2.mono (alloc_below _ _).size)).mono HB.out.size)); clear hb2)
      go_roundg (N - (j + 1))
      case measure => omega
      case rel => exact ⟨j + 1, by omega, by rw [Int.natCast_add]; rfl, HB2.out⟩
    · go_wp2_with (fail)
      go_ret
      exact ⟨rfl, HB.out⟩
end Go.Proofs.YtmfihkgbfoapaaaDoor
namespace Go.Proofs.YtmfihkgbfoapaaaDoor
set_option linter.unusedVariables false
set_option linter.unusedSimpArgs false
open Go Go.RowKit Go.Lib Go.BigFrame Go.Proofs.YtmfihkgbfoapaaaDoorW.PrintWords
theorem filt_len (p : Nat → Bool) (s : List UInt8) : (YtmfihkgbfoapaaaDoor.bytesOf (filt p s)).length ≤ s.length := by
  have h : ∀ l : List Item, (YtmfihkgbfoapaaaDoor.bytesOf (l.filter fun c => !c.bad && p c.r)).length ≤ (YtmfihkgbfoapaaaDoor.bytesOf l).length := by
    intro l
    induction l with
    | nil => exact Nat.le_refl _
    | cons c l ih =>
      rw [List.filter_cons, bytesOf_cons, List.length_append]
      split
      · rw [bytesOf_cons, List.length_append]; omega
      · omega
  have := h (items s)
  rw [bytesOf_items] at this
  exact this
theorem base_len3 (b : Nat) (mark : Bool) (n : Nat) : (baseL b mark n).length ≤ 128 := base_len2 b mark 64 n
theorem pad_len3 (k : Nat) (l : List UInt8) : (padL k l).length ≤ k + l.length := by
  unfold padL
  rw [List.length_append, List.length_replicate]; omega
theorem innI_len (q : Nat) (c : Item) : (YtmfihkgbfoapaaaDoor.bytesOf (innI q c)).length ≤ 140 + c.bs.length := by
  unfold innI
  have h1 := base_len3 16 false (c.bs.headD 0).toNat
  have h2 := base_len3 8 false (c.bs.headD 0).toNat
  have h3 := base_len3 16 false c.r
  have h4 := pad_len3 4 (baseL 16 false c.r)
  have h8 := pad_len3 8 (baseL 16 false c.r)
  repeat' split
  all_goals (try rw [ascI_bytes])
  all_goals (try rw [bytesOf_cons])
  all_goals (try rw [bytesOf_cons])
  all_goals (try rw [bytesOf_nil])
  all_goals (simp only [List.length_append, List.length_cons, List.length_nil])
  all_goals omega
theorem flat_len (q : Nat) : ∀ L : List Item, (YtmfihkgbfoapaaaDoor.bytesOf (L.flatMap (innI q))).length ≤ 140 * L.length + (YtmfihkgbfoapaaaDoor.bytesOf L).length
  | [] => Nat.le_refl _
  | c :: L => by
    rw [List.flatMap_cons, bytesOf_app, bytesOf_cons, List.length_append, List.length_append, List.length_cons]
    have := innI_len q c
    have := flat_len q L
    omega
theorem inner_len (q most : Nat) (s : List UInt8) : (YtmfihkgbfoapaaaDoor.bytesOf (inner q most s)).length ≤ 141 * s.length := by
  unfold inner
  have h1 := flat_len q ((items s).take most)
  have h2 := items_le s
  have h3 : ((items s).take most).length ≤ (items s).length := by rw [List.length_take]; omega
  have h4 : (YtmfihkgbfoapaaaDoor.bytesOf ((items s).take most)).length ≤ s.length := by
    have h5 : YtmfihkgbfoapaaaDoor.bytesOf ((items s).take most) ++ YtmfihkgbfoapaaaDoor.bytesOf ((items s).drop most) = s := by
      rw [← bytesOf_app, List.take_append_drop, bytesOf_items]
    have h6 := congrArg List.length h5
    rw [List.length_append] at h6
    omega
  omega
theorem piece_len (kind n : Nat) (s : List UInt8) : (YtmfihkgbfoapaaaDoor.bytesOf (pieceI kind n s)).length ≤ 400 + 141 * s.length := by
  have hn : (numT (n % 4) n (n.testBit 3)).length ≤ 400 := by
    unfold numT
    have h1 := base_len3 16 (n.testBit 3) n
    have h2 := base_len3 2 (n.testBit 3) n
    have h3 := base_len3 8 (n.testBit 3) n
    have h4 := base_len3 10 (n.testBit 3) n
    repeat' split
    all_goals ((try simp only [List.length_cons]); omega)
  have hf : (fltT (n % 4) n (n.testBit 3)).length ≤ 400 := by
    unfold fltT
    have h1 := base_len3 10 (n.testBit 3) n
    have h2 := base_len3 10 false (n / 256)
    have h3 := base_len3 16 (n.testBit 3) n
    have h4 := base_len3 10 (n.testBit 3) (n / 256)
    repeat' split
    all_goals ((try simp only [List.length_cons, List.length_append, List.length_nil]); omega)
  have i1 := inner_len 39 1 s
  have i2 := inner_len 34 s.length s
  have w1 : (YtmfihkgbfoapaaaDoor.bytesOf (without 96 s)).length ≤ s.length := filt_len _ s
  have w2 : (YtmfihkgbfoapaaaDoor.bytesOf (without 10 s)).length ≤ s.length := filt_len _ s
  have w3 : (YtmfihkgbfoapaaaDoor.bytesOf (without 42 s)).length ≤ s.length := filt_len _ s
  have l1 : (YtmfihkgbfoapaaaDoor.bytesOf (letters s)).length ≤ 1 + s.length := by
    unfold letters
    split
    · rw [ascI_bytes]; simp only [List.length_cons, List.length_nil]; omega
    · have := filt_len letP s; omega
  unfold pieceI
  repeat' split
  all_goals ((try simp only [ascI_bytes, bytesOf_cons, bytesOf_app, bytesOf_nil, List.length_append, List.length_cons, List.length_nil]); omega)
theorem gapB_len (k : Nat) : (gapB k).length ≤ 4 := by
  unfold gapB
  repeat' split
  all_goals decide
theorem gap_len (gaps : List Int) (i : Nat) : (gapOf gaps i).length ≤ 4 := by
  unfold gapOf
  repeat' split
  · decide
  · decide
  · exact gapB_len _
def pcSum : List PcV → Nat
  | [] => 0
  | p :: ps => 1 + p.s.size + pcSum ps
theorem lay_len (gaps : List Int) : ∀ (ps : List PcV) (f : PcV → Pc) (hf : ∀ p, (f p).s = p.s.data.toList) (i : Nat), (YtmfihkgbfoapaaaDoor.bytesOf (layI gaps (ps.map f) i)).length ≤ 404 * pcSum ps
  | [], _, _, _ => Nat.zero_le _
  | p :: ps, f, hf, i => by
    rw [List.map_cons, lay_cons, bytesOf_app, bytesOf_app, List.length_append, List.length_append, ascI_bytes]
    have h1 := gap_len gaps i
    have h2 := piece_len (f p).k (f p).n (f p).s
    have h3 := lay_len gaps ps f hf (i + 1)
    have h4 : (f p).s.length = p.s.size := by rw [hf, data_length]
    show _ + ((YtmfihkgbfoapaaaDoor.bytesOf (pieceI (f p).k (f p).n (f p).s)).length + _) ≤ _
    unfold pcSum
    omega
theorem pc_le {p : PcV} : ∀ {ps : List PcV}, p ∈ ps → p.s.size + 1 ≤ pcSum ps
  | q :: ps, h => by
    unfold pcSum
    rcases List.mem_cons.1 h with rfl | h
    · omega
    · have := pc_le h; omega
theorem pc_len : ∀ ps : List PcV, ps.length ≤ pcSum ps
  | [] => Nat.le_refl _
  | p :: ps => by
    have := pc_len ps
    unfold pcSum
    rw [List.length_cons]
    omega
end Go.Proofs.YtmfihkgbfoapaaaDoor
