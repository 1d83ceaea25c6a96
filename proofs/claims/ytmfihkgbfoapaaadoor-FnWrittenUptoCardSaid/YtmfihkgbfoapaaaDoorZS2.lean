/- Own texts S2 of this claim, cut to what the claim uses. -/
import Derived.Test.YtmfihkgbfoapaaaDoorZA0
import Derived.Test.YtmfihkgbfoapaaaDoorZK3
import Derived.Laws.BitsLemmas
import Derived.Test.YtmfihkgbfoapaaaDoorZD0
import Derived.Lib.ConvBytes
import Derived.LoopTactic
import Derived.Test.YtmfihkgbfoapaaaDoorZE11
namespace Go.Proofs.YtmfihkgbfoapaaaDoor
set_option linter.unusedVariables false
set_option linter.unusedSimpArgs false
open Go Go.RowKit Go.Lib Go.Proofs.YtmfihkgbfoapaaaDoorW.PrintWords
def ints (l : List UInt8) : List Int := l.map fun b => (b.toNat : Int)
theorem ints_length (l : List UInt8) : (ints l).length = l.length := by simp [ints]
theorem rd_ints (l : List UInt8) (j : Nat) : rd (ints l) (j : Int) = gb l j := by
  unfold rd ints gb
  simp only [Int.toNat_natCast, List.getD_eq_getElem?_getD, List.getElem?_map]
  cases l[j]? <;> simp
theorem rd_ints0 (l : List UInt8) : rd (ints l) 0 = gb l 0 := rd_ints l 0
def specDec (l : List UInt8) : Nat × Nat := if (hdItem l).bad = true then (0, 0) else hd l
theorem wrap64_id {x : Int} (h0 : -9223372036854775808 ≤ x) (h1 : x < 9223372036854775808) : wrap64 x = x := by unfold wrap64; omega
theorem wraps_i64 (n : Int) (h₀ : 0 ≤ n) (h₁ : n < 2 ^ 63) : IntKind.i64.wrap n = n := by rw [IntKind.wrap_i64]; omega
theorem i64_or6 {x y : Int} (hx₀ : 0 ≤ x) (hx : x % 64 = 0) (hx₁ : x < 9223372036854775808) (h₀ : 0 ≤ y) (h₁ : y < 64) : bits .or .i64 x y = x + y :=
  bits_join .i64 63 (by decide) wraps_i64 6 x y hx₀ hx hx₁ h₀ h₁ (by omega)
theorem i64_and31 {x : Int} (h₀ : 0 ≤ x) (h₁ : x < 9223372036854775808) : bits .and .i64 x 31 = x % 32 := bits_mask .i64 63 (by decide) wraps_i64 5 (by decide) x h₀ h₁
theorem i64_and15 {x : Int} (h₀ : 0 ≤ x) (h₁ : x < 9223372036854775808) : bits .and .i64 x 15 = x % 16 := bits_mask .i64 63 (by decide) wraps_i64 4 (by decide) x h₀ h₁
theorem i64_and7 {x : Int} (h₀ : 0 ≤ x) (h₁ : x < 9223372036854775808) : bits .and .i64 x 7 = x % 8 := bits_mask .i64 63 (by decide) wraps_i64 3 (by decide) x h₀ h₁
theorem and192B : ((List.range 256).all fun x => decide (bits .and .u8 (x : Int) 192 = 128) == decide (x / 64 = 2)) = true := by kernel_rfl
theorem and192 (x : Nat) (h : x < 256) : (bits .and .u8 (x : Int) 192 = 128) ↔ x / 64 = 2 := by
  have := List.all_eq_true.1 and192B x (List.mem_range.2 h)
  rw [beq_iff_eq, decide_eq_decide] at this
  exact this
def specFin (n v : Nat) : Nat × Nat := if (n = 3 ∧ (v < 2048 ∨ (55296 ≤ v ∧ v < 57344))) ∨ (n = 4 ∧ (v < 65536 ∨ 1114111 < v)) then (0, 0) else (v, n)
theorem l0_fin (k : Nat) (z : List Int) (n v : Nat) (_hn : 2 ≤ n ∧ n ≤ 4) (hv : v < 2147483648) : K.spec_decode.l0 (k + 1) z (n : Int) (v : Int) (n : Int) = some (((specFin n v).1 : Int), ((specFin n v).2 : Int)) := by
  unfold K.spec_decode.l0 specFin
  rw [if_neg (by omega)]
  have hw : wrap32 (v : Int) = v := by unfold wrap32; omega
  rw [hw]
  repeat' split
  all_goals first | rfl | (exfalso; omega)
theorem l0_step (k : Nat) (l : List UInt8) (n v j : Nat) (hj : j < n) (hv : v < 2147483648) (hn : n ≤ 4) :
    K.spec_decode.l0 (k + 1) (ints l) (n : Int) (v : Int) (j : Int) = if j < l.length ∧ gb l j / 64 = 2 then K.spec_decode.l0 k (ints l) (n : Int) ((v * 64 + gb l j % 64 : Nat) : Int) ((j + 1 : Nat) : Int) else some (0, 0) := by
  rw [K.spec_decode.l0]
  have hb := gb_lt l j
  rw [if_pos (by omega), ints_length, rd_ints]
  by_cases h1 : j < l.length
  · rw [if_neg (by omega), if_pos (by omega), if_pos (by omega)]
    by_cases h2 : gb l j / 64 = 2
    · rw [if_pos ((and192 _ hb).2 h2), if_pos ⟨h1, h2⟩]
      have e1 : wrap64 ((v : Int) * 64) = ((v * 64 : Nat) : Int) := by rw [wrap64_id (by omega) (by omega)]; omega
      have e2 : wrap64 (bits .and .u8 (gb l j : Int) 63) = ((gb l j % 64 : Nat) : Int) := by rw [u8_and63 (x := (gb l j : Int)) (by omega) (by omega), wrap64_id (by omega) (by omega)]; omega
      have e3 : wrap64 ((j : Int) + 1) = ((j + 1 : Nat) : Int) := by rw [wrap64_id (by omega) (by omega)]; omega
      rw [e1, e2, e3, i64_or6 (by omega) (by omega) (by omega) (by omega) (by omega)]
      congr 1
    · rw [if_neg (fun h => h2 ((and192 _ hb).1 h)), if_neg (fun h => h2 h.2)]
  · rw [if_pos (by omega), if_neg (fun h => h1 h.1)]
theorem bad_of {l : List UInt8} (hl : 0 < l.length) : (hdItem l).bad = (decide ((hd l).1 = 65533) && decide ((hd l).2 = 1)) := by
  unfold Item.bad
  have := hdItem_n hl
  unfold Item.n at this
  rw [this]
  show ((hd l).1 == 65533 && _) = _
  rfl
def specSlow (n b0 b1 b2 b3 : Nat) : Nat × Nat :=
  if b0 < 128 then (b0, 1) else if b0 < 194 then (0, 0)
  else if b0 < 224 then (if 1 < n ∧ b1 / 64 = 2 then specFin 2 (b0 % 32 * 64 + b1 % 64) else (0, 0))
  else if b0 < 240 then (if 1 < n ∧ b1 / 64 = 2 then (if 2 < n ∧ b2 / 64 = 2 then specFin 3 ((b0 % 16 * 64 + b1 % 64) * 64 + b2 % 64) else (0, 0)) else (0, 0))
  else if b0 < 245 then (if 1 < n ∧ b1 / 64 = 2 then (if 2 < n ∧ b2 / 64 = 2 then (if 3 < n ∧ b3 / 64 = 2 then specFin 4 (((b0 % 8 * 64 + b1 % 64) * 64 + b2 % 64) * 64 + b3 % 64) else (0, 0)) else (0, 0)) else (0, 0))
  else (0, 0)
def badP (p : Nat × Nat) : Nat × Nat := if (decide (p.1 = 65533) && decide (p.2 = 1)) = true then (0, 0) else p
theorem badP_bad : badP (65533, 1) = (0, 0) := rfl
theorem badP_one {b : Nat} (h : b < 128) : badP (b, 1) = (b, 1) := by unfold badP; rw [if_neg (by simp; omega)]
theorem badP_two (v : Nat) : badP (v, 2) = (v, 2) := by unfold badP; rw [if_neg (by simp)]
theorem badP_three (v : Nat) : badP (v, 3) = (v, 3) := by unfold badP; rw [if_neg (by simp)]
theorem badP_four (v : Nat) : badP (v, 4) = (v, 4) := by unfold badP; rw [if_neg (by simp)]
set_option maxHeartbeats 4000000 in
set_option maxRecDepth 100000 in
theorem slow_val (n b0 b1 b2 b3 : Nat) (h0 : b0 < 256) (h1 : b1 < 256) (h2 : b2 < 256) (h3 : b3 < 256) : badP (decodeN n b0 b1 b2 b3) = specSlow n b0 b1 b2 b3 := by
  by_cases hb : b0 < 128
  · have : decodeN n b0 b1 b2 b3 = (b0, 1) := by simp [decodeN, hb]
    rw [this, badP_one hb]
    simp [specSlow, hb]
  · unfold decodeN specSlow specFin
    rw [if_neg hb, if_neg hb, apply_ite badP, apply_ite badP, apply_ite badP, apply_ite badP, apply_ite badP, apply_ite badP]
    simp only [badP_bad, badP_two, badP_three, badP_four]
    repeat' split
    all_goals first | rfl | (exfalso; omega) | (simp only [true_and] at *; first | (exfalso; omega) | (apply Prod.ext <;> simp only <;> omega)) | (apply Prod.ext <;> simp only <;> omega)
theorem cast_pair {p q : Nat × Nat} (h : p = q) : some ((p.1 : Int), (p.2 : Int)) = some ((q.1 : Int), (q.2 : Int)) := by rw [h]
set_option maxHeartbeats 4000000 in
set_option maxRecDepth 100000 in
theorem dec_val (k : Nat) (l : List UInt8) (hl : 0 < l.length) (hk : 12 ≤ k) : K.spec_decode.f k (ints l) = some (((specDec l).1 : Int), ((specDec l).2 : Int)) := by
  obtain ⟨k, rfl⟩ : ∃ m, k = m + 12 := ⟨k - 12, by omega⟩
  have hb := gb_lt l 0
  have hb1 := gb_lt l 1
  have hb2 := gb_lt l 2
  have hb3 := gb_lt l 3
  have key := slow_val l.length (gb l 0) (gb l 1) (gb l 2) (gb l 3) hb hb1 hb2 hb3
  unfold specDec
  rw [bad_of hl]
  refine Eq.trans ?_ (cast_pair key.symm)
  unfold K.spec_decode.f specSlow
  rw [ints_length, if_pos (by omega), rd_ints0, wrap64_id (by omega) (by omega)]
  by_cases h0 : gb l 0 < 128
  · have hw : wrap32 (gb l 0 : Int) = gb l 0 := by unfold wrap32; omega
    rw [if_pos (by omega), hw, if_pos h0]; rfl
  rw [if_neg (by omega), if_neg h0]
  by_cases h1 : gb l 0 < 194
  · rw [if_neg (by omega), if_pos h1]
    simp only [K.spec_decode.j0, K.spec_decode.j1]
    rw [if_neg (by decide), if_neg (by omega), if_neg (by decide), if_neg (by omega)]; rfl
  rw [if_pos (by omega), if_neg h1]
  have st := fun (k n v j : Nat) (hj : j < n) (hn : n ≤ 4) (hv : v < 2147483648) => l0_step k l n v j hj hv hn
  by_cases h2 : gb l 0 < 224
  · rw [if_pos h2, decide_eq_true (by omega)]
    simp only [K.spec_decode.j0, K.spec_decode.j2, if_true]
    have e := i64_and31 (x := (gb l 0 : Int)) (by omega) (by omega)
    rw [e, show ((gb l 0 : Int) % 32) = ((gb l 0 % 32 : Nat) : Int) by omega]
    have := st (k + 9) 2 (gb l 0 % 32) 1 (by decide) (by decide) (by omega)
    refine this.trans ?_
    split
    · exact l0_fin _ _ 2 _ (by decide) (by omega)
    · rfl
  rw [if_neg h2, decide_eq_false (by omega)]
  simp only [K.spec_decode.j0]
  rw [if_neg (by decide), if_pos (by omega)]
  by_cases h3 : gb l 0 < 240
  · rw [if_pos h3, decide_eq_true (by omega)]
    simp only [K.spec_decode.j1, K.spec_decode.j2, if_true]
    have e := i64_and15 (x := (gb l 0 : Int)) (by omega) (by omega)
    rw [e, show ((gb l 0 : Int) % 16) = ((gb l 0 % 16 : Nat) : Int) by omega]
    have := st (k + 8) 3 (gb l 0 % 16) 1 (by decide) (by decide) (by omega)
    refine this.trans ?_
    split
    · refine (st (k + 7) 3 (gb l 0 % 16 * 64 + gb l 1 % 64) 2 (by decide) (by decide) (by omega)).trans ?_
      split
      · exact l0_fin _ _ 3 _ (by decide) (by omega)
      · rfl
    · rfl
  rw [if_neg h3, decide_eq_false (by omega)]
  simp only [K.spec_decode.j1]
  rw [if_neg (by decide), if_pos (by omega)]
  by_cases h4 : gb l 0 < 245
  · rw [if_pos h4, if_pos (by omega)]
    simp only [K.spec_decode.j2]
    have e := i64_and7 (x := (gb l 0 : Int)) (by omega) (by omega)
    rw [e, show ((gb l 0 : Int) % 8) = ((gb l 0 % 8 : Nat) : Int) by omega]
    have := st (k + 8) 4 (gb l 0 % 8) 1 (by decide) (by decide) (by omega)
    refine this.trans ?_
    split
    · refine (st (k + 7) 4 (gb l 0 % 8 * 64 + gb l 1 % 64) 2 (by decide) (by decide) (by omega)).trans ?_
      split
      · refine (st (k + 6) 4 ((gb l 0 % 8 * 64 + gb l 1 % 64) * 64 + gb l 2 % 64) 3 (by decide) (by decide) (by omega)).trans ?_
        split
        · exact l0_fin _ _ 4 _ (by decide) (by omega)
        · rfl
      · rfl
    · rfl
  · rw [if_neg h4, if_neg (by omega)]; rfl
end Go.Proofs.YtmfihkgbfoapaaaDoor
namespace Go.Proofs.YtmfihkgbfoapaaaDoor
set_option linter.unusedVariables false
set_option linter.unusedSimpArgs false
open Go Go.RowKit Go.Lib Go.BigFrame Go.Proofs.YtmfihkgbfoapaaaDoorW.PrintWords
theorem Drawn0.below {w w' : World} (h : Drawn0 w w') (n : Nat) : Below n w w' := by
  obtain ⟨k, rfl⟩ := h.out
  exact pw_below_drewN (Below.refl _ _) _
theorem dec_spec (w : World) (A : Option Addr) (c : Nat) (l : List UInt8) (hr : Kd.C (Kd.int .u8) w A l.length (ints l)) (hc : l.length ≤ c) (h : 0 < l.length) :
    Calls Tryd.prog 37 #[.slice A l.length c] w fun e w' => e = .returned (.tuple #[.int .i32 ((specDec l).1 : Nat), .int .i64 ((specDec l).2 : Nat)]) ∧ Below w.heap.size w w' := by
  have := K.spec_decode.calls 20 A c (ints l) ((specDec l).1 : Nat) ((specDec l).2 : Nat) w (by rw [ints_length]; exact hr) (by rw [ints_length]; exact hc) (dec_val 20 l h (by decide))
  rw [ints_length] at this
  exact this.mono fun e w' ⟨h1, h2⟩ => ⟨h1, Drawn0.below h2 _⟩
theorem bytes_kd (W : World) (s : ByteArray) (hs : s.size ≤ 9223372036854775807) : Kd.C (Kd.int .u8) (bytesWorld W 5 s) (some ⟨W.heap.size, 0, none⟩) s.size (ints s.data.toList) :=
  Kd.C_of_reads (readsInt_of.1 (bytes_reads W 5 s hs))
theorem bytesWorld_below (W : World) (e : TypeId) (s : ByteArray) : Below W.heap.size W (bytesWorld W e s) := bytes_below (Below.refl _ _) (Nat.le_refl _) e s
theorem extract_list (s : ByteArray) (a b : Nat) : (s.extract a b).data.toList = (s.data.toList.take b).drop a := by
  simp [ByteArray.data_extract, List.drop_take]
theorem extract_size' (s : ByteArray) (a b : Nat) (h : b ≤ s.size) : (s.extract a b).size = b - a := by
  rw [← data_length, extract_list, List.length_drop, List.length_take, data_length]; omega
theorem append_list (a b : ByteArray) : (a ++ b).data.toList = a.data.toList ++ b.data.toList := by simp
theorem extract_head (s : ByteArray) (n : Nat) : (s.extract 0 n).data.toList = s.data.toList.take n := by rw [extract_list]; rfl
theorem extract_tail (s : ByteArray) (n : Nat) : (s.extract n s.size).data.toList = s.data.toList.drop n := by
  rw [extract_list, List.take_of_length_le (by rw [data_length]; exact Nat.le_refl _)]
end Go.Proofs.YtmfihkgbfoapaaaDoor
namespace Go.Proofs.YtmfihkgbfoapaaaDoor
set_option linter.unusedVariables false
set_option linter.unusedSimpArgs false
open Go Go.RowKit Go.Lib Go.BigFrame Go.Proofs.YtmfihkgbfoapaaaDoorW.PrintWords
structure FitCls (n : Nat) (w W : World) (w' : World) : Prop where
  size : W.heap.size = n + 1 + 1 + 1
  below : Below n w W
  up : Below W.heap.size W w'
theorem FitCls.step {n : Nat} {w W w' w'' : World} (h : FitCls n w W w') (hb : Below w'.heap.size w' w'') : FitCls n w W w'' := ⟨h.size, h.below, h.up.trans (hb.mono h.up.size)⟩
theorem FitCls.blk {n : Nat} {w W w' : World} (h : FitCls n w W w') {j : Nat} (hj : j < n + 1 + 1 + 1) {o : Obj} (ho : W.heap[j]? = some o) : w'.heap[j]? = some o := (h.up.block j (by rw [h.size]; exact hj)).trans ho
theorem FitCls.c4 {n : Nat} {w W w' : World} (h : FitCls n w W w') {b1 b2 : Bool} {m wh : Int} {f1 f2 : ByteArray} (ho : W.heap[n]? = some (.cells #[.bool b1, .int .i64 m, .int .u64 wh, .bool b2, .string f1, .string f2] 25 (0, 0))) : w'.cell? ⟨n, 4, none⟩ = some (.string f1) :=
  (cell_of_heap (h.blk (by omega) ho) 4).trans rfl
theorem FitCls.c5 {n : Nat} {w W w' : World} (h : FitCls n w W w') {b1 b2 : Bool} {m wh : Int} {f1 f2 : ByteArray} (ho : W.heap[n]? = some (.cells #[.bool b1, .int .i64 m, .int .u64 wh, .bool b2, .string f1, .string f2] 25 (0, 0))) : w'.cell? ⟨n, 5, none⟩ = some (.string f2) :=
  (cell_of_heap (h.blk (by omega) ho) 5).trans rfl
end Go.Proofs.YtmfihkgbfoapaaaDoor
namespace Go.Proofs.YtmfihkgbfoapaaaDoor
set_option linter.unusedVariables false
set_option linter.unusedSimpArgs false
open Go Go.RowKit Go.Lib Go.BigFrame Go.Proofs.YtmfihkgbfoapaaaDoorW.PrintWords
structure Stp where
  d : Bool
  m : Int
  wh : Int
  cu : Bool
  f1 : ByteArray
  f2 : ByteArray
structure Stp.Ok (s : Stp) : Prop where
  m0 : 0 ≤ s.m
  m1 : s.m ≤ 255
  w0 : 0 ≤ s.wh
  w1 : s.wh ≤ 8589934591
def Stp.cfg (s : Stp) : Cfg := ⟨if s.d = true then 1012 else 4 * s.m, if s.d = true then 4294977024 else s.wh, if s.d = false ∧ s.cu = true then idCustom s.f1 s.f2 else idGo⟩
theorem mode_all : ((List.range 256).all fun m => K.impl_mode.f 20 (m : Int) == some (4 * (m : Int))) = true := by kernel_rfl
theorem mode_val {m : Int} (h0 : 0 ≤ m) (h1 : m ≤ 255) : K.impl_mode.f 20 m = some (4 * m) := by
  have := List.all_eq_true.1 mode_all m.toNat (List.mem_range.2 (by omega))
  rw [show ((m.toNat : Nat) : Int) = m by omega] at this
  exact eq_of_beq this
theorem tokens_fit (w : World) (a1 a2 : Option Addr) (k1 k2 : Nat) (src : List UInt8) (sz : List Int) (s : Stp) (h : s.Ok)
    (hs : SrcAt w.heap.size w a1 k1 src) (hsz : SzAt w.heap.size w a2 sz) (hlen : Fits src) (hl10 : src.length ≤ 10000000000) (hv : Vars w.heap.size w) :
    Calls Tryd.prog 24 #[.slice a1 src.length k1, .slice a2 sz.length k2, .agg #[.bool s.d, .int .i64 s.m, .int .u64 s.wh, .bool s.cu, .string s.f1, .string s.f2]] w fun e w' =>
      ∃ v, e = .returned (.tuple #[v, .int .i64 (wrap64 ((lexErrs (items src) : Nat) + (errsOf (toks s.cfg src (startL src)) : Nat))), .int .i64 (wrap64 ((lexErrs (items src) : Nat) + (errsOf (toks s.cfg src (startL src)) : Nat)))]) ∧
        Kd.R K.k37 37 w' w.heap.size (fun q => w.heap.size ≤ q) v ((toks s.cfg src (startL src)).map (tokOf src)) ∧ Below w.heap.size w w' :=
  tokens_run w a1 a2 k1 k2 src sz s.d s.m s.wh s.cu s.f1 s.f2 20 (4 * s.m) (mode_val h.m0 h.m1) s.cfg hs hsz hlen hl10 hv rfl rfl rfl (by
    unfold Stp.cfg
    have := h.w0
    have := h.w1
    simp only
    split <;> omega)
theorem set_loads {W : World} {q : Nat} {b1 : Bool} {m wh : Int} {b2 : Bool} {s1 s2 : ByteArray} {fr : Nat × Nat} (h : W.heap[q]? = some (.cells #[.bool b1, .int .i64 m, .int .u64 wh, .bool b2, .string s1, .string s2] 25 fr)) :
    W.cell? ⟨q, 0, none⟩ = some (.bool b1) ∧ W.cell? ⟨q, 1, none⟩ = some (.int .i64 m) ∧ W.cell? ⟨q, 2, none⟩ = some (.int .u64 wh) ∧ W.cell? ⟨q, 3, none⟩ = some (.bool b2) ∧ W.cell? ⟨q, 4, none⟩ = some (.string s1) ∧ W.cell? ⟨q, 5, none⟩ = some (.string s2) :=
  ⟨(cell_of_heap h 0).trans rfl, (cell_of_heap h 1).trans rfl, (cell_of_heap h 2).trans rfl, (cell_of_heap h 3).trans rfl, (cell_of_heap h 4).trans rfl, (cell_of_heap h 5).trans rfl⟩
end Go.Proofs.YtmfihkgbfoapaaaDoor
