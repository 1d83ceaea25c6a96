/- Own texts B4 of this claim, cut to what the claim uses. -/
import Derived.Test.YtmfihkgbfoapaaaDoorZB3
namespace Go.Proofs.YtmfihkgbfoapaaaDoor
open Go Go.RowKit Go.Lib
theorem get!_gb (p : List UInt8) (j : Nat) : (((⟨p.toArray⟩ : ByteArray).get! j).toNat) = gb p j := by
  show ((p.toArray[j]!).toNat) = (p.getD j 0).toNat
  rw [List.getElem!_toArray]
  simp only [List.getD_eq_getElem?_getD, List.getElem!_eq_getElem?_getD]
  rfl
theorem decodeGo_hd (p : List UInt8) (h : 0 < p.length) : decodeGo ⟨p.toArray⟩ = hd p := by
  have hs : (⟨p.toArray⟩ : ByteArray).size = p.length := List.size_toArray
  unfold decodeGo
  rw [if_neg (by rw [hs]; omega), decode_at, hs]
  simp only [get!_gb]; rfl
theorem decodeRune_spec (p : List UInt8) (b o c : Nat) (w : World) (hT : Utf8Tabs 2 3 w) (h0 : 0 < p.length)
    (hp : ∀ j, j < p.length → w.cell? ⟨b, o + j, none⟩ = some (.int .u8 ((gb p j : Nat) : Int))) :
    Calls Tryd.prog 91 #[.slice (some ⟨b, o, none⟩) p.length c] w fun e w' => e = .returned (.tuple #[.int .i32 ((hd p).1 : Nat), .int .i64 ((hd p).2 : Nat)]) ∧ Below w.heap.size w w' := by
  have h := Tryd.utf8_DecodeRune ⟨p.toArray⟩ b o c w hT (fun j hj => by rw [get!_gb]; exact hp j (by rw [← List.size_toArray]; exact hj))
  rw [decodeGo_hd p h0] at h
  have hs : (⟨p.toArray⟩ : ByteArray).size = p.length := List.size_toArray
  rw [hs] at h
  exact h
set_option maxRecDepth 100000 in
set_option maxHeartbeats 1000000 in
theorem read_eof (E : Env) (r : Regs) (w : World) (d : Value) (h : Raw E w r) (h0 : r.rem.length = 0) (t : Nat) (a : Addr) (he : w.cell? ⟨0, 0, none⟩ = some (.iface t (.pointer (some a)))) :
    Calls Tryd.prog 130 #[.pointer (some ⟨E.bR, 0, none⟩), d] w fun e w' => e = .returned (.tuple #[.int .i64 0, .iface t (.pointer (some a))]) ∧ ∃ n, w' = w.drewN n := by
  obtain ⟨ra, rc, hb, _⟩ := h.rd
  rw [h0] at hb
  have c0 : w.cell? ⟨E.bR, 0, none⟩ = some (.slice ra 0 rc) := by rw [cell_of_heap hb]; rfl
  clear hb h
  go_enter Tryd.func130, Tryd.ntmps130
  go_wp2_with (go_quiet (fail))
  go_ret2
  exact ⟨rfl, _, rfl⟩
theorem splice_get {α : Type} (a l : List α) (k j : Nat) (h : k + l.length ≤ a.length) :
    (a.take k ++ l ++ a.drop (k + l.length))[j]? = if j < k then a[j]? else if j < k + l.length then l[j - k]? else a[j]? := by
  have hk : (a.take k).length = k := by rw [List.length_take]; omega
  by_cases h1 : j < k
  · rw [if_pos h1, List.append_assoc, List.getElem?_append_left (by omega), List.getElem?_take_of_lt h1]
  · rw [if_neg h1]
    by_cases h2 : j < k + l.length
    · rw [if_pos h2, List.append_assoc, List.getElem?_append_right (by omega), hk, List.getElem?_append_left (by omega)]
    · rw [if_neg h2, List.getElem?_append_right (by rw [List.length_append, hk]; omega), List.length_append, hk, List.getElem?_drop]
      congr 1; omega
theorem splice_length {α : Type} (a l : List α) (k : Nat) (h : k + l.length ≤ a.length) : (a.take k ++ l ++ a.drop (k + l.length)).length = a.length := by
  simp only [List.length_append, List.length_take, List.length_drop]; omega
theorem Raw.copyIn {E : Env} {w : World} {r : Regs} (h : Raw E w r) (i : Nat) (l : List UInt8) (hin : i + l.length ≤ 1025) (cur : Array Value) (hcur : w.heap[E.b]? = some (.cells cur 111 (0, 0))) :
    Raw E (w.setRow E.b (cur.toList.take (1 + i) ++ byteCells l ++ cur.toList.drop (1 + i + (byteCells l).length)).toArray) { r with buf := r.buf.take i ++ l ++ r.buf.drop (i + l.length) } := by
  obtain ⟨hB, v, lr, ⟨cs, hb, c0, c1, c2, hr⟩, hown, hne⟩ := h.buf
  obtain rfl : cs = cur := by rw [hb] at hcur; injection hcur with e; injection e
  have hsz : 1035 < cs.size := (Array.getElem?_eq_some_iff.1 c2).1
  have hlen : (byteCells l).length = l.length := byteCells_len l
  have hfit : 1 + i + (byteCells l).length ≤ cs.toList.length := by have : cs.toList.length = cs.size := Array.length_toList; omega
  have hget : ∀ j, (cs.toList.take (1 + i) ++ byteCells l ++ cs.toList.drop (1 + i + (byteCells l).length)).toArray[j]? = if j < 1 + i then cs[j]? else if j < 1 + i + l.length then (byteCells l)[j - (1 + i)]? else cs[j]? := by
    intro j
    rw [List.getElem?_toArray, splice_get _ _ _ _ hfit, hlen, Array.getElem?_toList]
  generalize hnew : (cs.toList.take (1 + i) ++ byteCells l ++ cs.toList.drop (1 + i + (byteCells l).length)).toArray = new at hget ⊢
  have hlow : ∀ j, j ≠ E.b → (w.setRow E.b new).heap[j]? = w.heap[j]? := fun j hj => setRow_other _ _ _ _ hj
  have hB' : ∀ j, j < E.B → (w.setRow E.b new).heap[j]? = w.heap[j]? := fun j hj => hlow j (by omega)
  have hlb : (r.buf.take i ++ l ++ r.buf.drop (i + l.length)).length = 1025 := by rw [splice_length _ _ _ (by rw [h.blen]; exact hin)]; exact h.blen
  refine ⟨⟨hB, v, lr, ⟨new, setRow_heap w E.b cs _ 111 (0, 0) hb, ?_, ?_, ?_, ?_⟩, ⟨hown.1, ?_⟩, hne⟩, hlb, h.rd.of (hlow _ h.bR_ne) hB' rfl rfl, (hlow _ h.bC_ne).trans h.cnt, (hlow _ h.bE_ne).trans h.cap, h.BR, h.BC, h.szs.of hB', ?_⟩
  · rw [hget, if_neg (by omega), if_neg (by omega)]; exact c0
  · rw [hget, if_neg (by omega), if_neg (by omega)]; exact c1
  · rw [hget, if_neg (by omega), if_neg (by omega)]; exact c2
  · intro j hj
    rw [hget]
    by_cases h1 : j < 1 + i
    · rw [if_pos h1, hr j hj]
      unfold rcell
      by_cases hj0 : j = 0
      · rw [if_pos hj0, if_pos hj0]
      · rw [if_neg hj0, if_neg hj0, if_pos (by omega), if_pos (by omega), splice_get _ _ _ _ (by rw [h.blen]; exact hin), if_pos (by omega)]
    · rw [if_neg h1]
      by_cases h2 : j < 1 + i + l.length
      · rw [if_pos h2]
        unfold rcell
        rw [if_neg (by omega), if_pos (by omega), splice_get _ _ _ _ (by rw [h.blen]; exact hin), if_neg (by omega), if_pos (by omega), byteCells_getElem?, show j - (1 + i) = j - 1 - i by omega]
      · rw [if_neg h2, hr j hj]
        unfold rcell
        by_cases h3 : j ≤ 1025
        · rw [if_neg (show ¬ j = 0 by omega), if_neg (show ¬ j = 0 by omega), if_pos h3, if_pos h3, splice_get _ _ _ _ (by rw [h.blen]; exact hin), if_neg (by omega), if_neg (by omega)]
        · rw [if_neg (show ¬ j = 0 by omega), if_neg (show ¬ j = 0 by omega), if_neg h3, if_neg h3]
  · rcases hown.2 with hn | ⟨g, cap, cur, hv, hbg, hg, rest⟩
    · exact .inl hn
    · refine .inr ⟨g, cap, cur, hv, hbg, ?_, rest⟩
      rw [hlow g (fun e => by rw [e, hb] at hg; cases hg)]; exact hg
  · exact ⟨h.fr.1.trans ⟨rfl, rfl, rfl, by simp, hB'⟩, fun k o h0 h1 h2 h3 h4 => by rw [hlow k h1]; exact h.fr.2 k o h0 h1 h2 h3 h4⟩
theorem Raw.setRd {E : Env} {w : World} {r : Regs} (h : Raw E w r) (k : Nat) (v : Value) (r' : Regs) (hr : ReaderAt E (w.setCell ⟨E.bR, k, none⟩ v) r')
    (hc : rcell E r = rcell E r') (hb : r'.buf = r.buf) (ht : r'.tb = r.tb) (hn : r'.cnt = r.cnt) : Raw E (w.setCell ⟨E.bR, k, none⟩ v) r' := by
  have hlow : ∀ j, j ≠ E.bR → (w.setCell ⟨E.bR, k, none⟩ v).heap[j]? = w.heap[j]? := fun j hj => Below.heap_setCell _ _ _ _ hj
  have hB' : ∀ j, j < E.B → (w.setCell ⟨E.bR, k, none⟩ v).heap[j]? = w.heap[j]? := fun j hj => hlow j (by have := h.BR; omega)
  refine ⟨?_, by rw [hb]; exact h.blen, hr, ?_, ?_, h.BR, h.BC, h.szs.of hB', h.fr.setCell (.inr (.inl rfl)) h.BR _⟩
  · rw [← hc, ht]
    obtain ⟨hB, v0, lr, hbk, hown, hne⟩ := h.buf
    refine ⟨hB, v0, lr, hbk.of_heap (hlow _ (Ne.symm h.bR_ne)), ⟨hown.1, ?_⟩, hne⟩
    rcases hown.2 with h0 | ⟨g, cap, cur, hv, hbg, hg, rest⟩
    · exact .inl h0
    · refine .inr ⟨g, cap, cur, hv, hbg, ?_, rest⟩
      rw [hlow g (fun e => by obtain ⟨a, c, hr, _⟩ := h.rd; rw [e, hr] at hg; cases hg)]; exact hg
  · rw [hlow _ h.bC_ne_R, hn]; exact h.cnt
  · rw [hlow _ h.bE_ne_R]; exact h.cap
def Regs.got (r : Regs) (i n : Nat) (calls : Int) : Regs :=
  { r with buf := r.buf.take i ++ r.rem.take n ++ r.buf.drop (i + n), rem := r.rem.drop n, calls := calls }
theorem info5 : (Tryd.prog.info? 5).map (·.size) = some 1 := by kernel_rfl
theorem copy_read (E : Env) (r : Regs) (W : World) (i m c n g o rl rc : Nat) (cur : Array Value) (hcur : W.heap[E.b]? = some (.cells cur 111 (0, 0))) (hsz : 1035 < cur.size) (hin : i + n ≤ 1025) (hrl : rl = r.rem.length)
    (hn : n = Nat.min rl m) (hc : ∀ j, j < r.rem.length → W.cell? ⟨g, o + j, none⟩ = some (.int .u8 ((gb r.rem j : Nat) : Int))) :
    (Builtin.copy_ #[22, 22] 3 #[.slice (some ⟨E.b, 1 + i, none⟩) m c, .slice (some ⟨g, o, none⟩) rl rc]).run Tryd.prog W =
      .ok (.int .i64 n) (W.setRow E.b (cur.toList.take (1 + i) ++ byteCells (r.rem.take n) ++ cur.toList.drop (1 + i + (byteCells (r.rem.take n)).length)).toArray) := by
  have hnle : n ≤ r.rem.length := by rw [hn, hrl]; exact Nat.min_le_left _ _
  have hlen : (byteCells (r.rem.take n)).length = n := by rw [byteCells_len, List.length_take]; omega
  have h := run_copy_row (P := Tryd.prog) W 22 22 3 5 E.b (1 + i) m c ⟨g, o, none⟩ rl rc cur 111 (byteCells (r.rem.take n)) Tryd.underlying22 info5 hcur (by rw [hlen]; exact hn) (fun j v hj => by
    have hjn : j < n := by have := (List.getElem?_eq_some_iff.1 hj).1; omega
    rw [add_at, hc j (by omega), ← hj, byteCells_getElem?, List.getElem?_take_of_lt hjn]
    simp [gb, List.getD_eq_getElem?_getD, show j < r.rem.length by omega]) (by rw [hlen]; omega) (byteCells_cell _)
  rw [hlen] at h ⊢
  exact h
theorem Raw.cutRd {E : Env} {w : World} {r : Regs} (h : Raw E w r) (n g o rc : Nat) (cs : Int) (hn : n ≤ r.rem.length) (a' : Option Addr)
    (hb : w.heap[E.bR]? = some (.cells #[.slice (some ⟨g, o, none⟩) r.rem.length rc, E.szV, .int .i64 cs] 123 (0, 0))) (hrc : r.rem.length ≤ rc) (hrm : rc ≤ maxLen) (hgB : g < E.B)
    (hcells : ∀ j, j < r.rem.length → w.cell? ⟨g, o + j, none⟩ = some (.int .u8 ((gb r.rem j : Nat) : Int))) (ha : n < r.rem.length → a' = some ⟨g, o + n, none⟩) (L C : Nat) (hL : L = r.rem.length - n) (hC : C = rc - n) :
    Raw E (w.setCell ⟨E.bR, 0, none⟩ (.slice a' L C)) { r with rem := r.rem.drop n, calls := cs } := by
  subst hL hC
  have hl : (r.rem.drop n).length = r.rem.length - n := List.length_drop
  refine h.setRd 0 _ _ ⟨a', rc - n, ?_, ?_, by omega, ?_⟩ rfl rfl rfl rfl
  · have := Go.Lib.heap_setCell_same (i := 0) hb (.slice a' (r.rem.length - n) (rc - n))
    rw [this]; simp [hl]
  · rw [hl]; omega
  · intro h0
    have h0' : n < r.rem.length := by simp only [hl] at h0; omega
    refine ⟨g, o + n, ha h0', hgB, fun j hj => ?_⟩
    have hj' : n + j < r.rem.length := by simp only [hl] at hj; omega
    have hne : g ≠ E.bR := by have := h.BR; omega
    have := hcells (n + j) hj'
    rw [show o + n + j = o + (n + j) by omega, gb_drop]
    rw [← this]; unfold World.cell?; simp only [Below.heap_setCell w ⟨E.bR, 0, none⟩ _ g hne]
set_option maxRecDepth 100000 in
set_option maxHeartbeats 1000000 in
theorem read_plain (E : Env) (r : Regs) (w : World) (i m c n : Nat) (h : Raw E w r) (h0 : 0 < r.rem.length) (hs : E.sz.length = 0) (hi : i + m = 1024) (hmc : m ≤ c) (hn : n = Nat.min r.rem.length m) :
    Calls Tryd.prog 130 #[.pointer (some ⟨E.bR, 0, none⟩), .slice (some ⟨E.b, 1 + i, none⟩) m c] w fun e w' => e = .returned (.tuple #[.int .i64 n, .nilIface]) ∧ Raw E w' (r.got i n r.calls) := by
  obtain ⟨ra, rc, hb, hrc, hrm, hadr⟩ := h.rd
  obtain ⟨sa, scc, hsz, _, _⟩ := h.szs
  obtain ⟨g, o, rfl, hgB, hcells⟩ := hadr h0
  have hb' := hb
  rw [hsz, hs] at hb
  have c0 : w.cell? ⟨E.bR, 0, none⟩ = some (.slice (some ⟨g, o, none⟩) r.rem.length rc) := by rw [cell_of_heap hb]; rfl
  have c1 : w.cell? ⟨E.bR, 1, none⟩ = some (.slice sa 0 scc) := by rw [cell_of_heap hb]; rfl
  have f0 := frozen_of_heap hb 0
  have hl0 : (0 : Int) < (r.rem.length : Int) := by omega
  have hl1 : ((r.rem.length : Int) == 0) = false := beq_eq_false_iff_ne.2 (by omega)
  unfold maxLen at hrm
  have hnle : n ≤ r.rem.length := by rw [hn]; exact Nat.min_le_left _ _
  have hnm : n ≤ m := by rw [hn]; exact Nat.min_le_right _ _
  obtain ⟨cur, hcur⟩ := h.tagb
  have hsz2 : 1035 < cur.size := by
    obtain ⟨hB, v, lr, ⟨cs, hb1, _, _, c2, _⟩, _⟩ := h.buf
    obtain rfl : cs = cur := by rw [hb1] at hcur; injection hcur with e; injection e
    exact (Array.getElem?_eq_some_iff.1 c2).1
  have hcp := copy_read E r w.drew i m c n g o r.rem.length rc cur hcur hsz2 (by omega) rfl hn hcells
  have hlen : (r.rem.take n).length = n := by rw [List.length_take]; omega
  have h1 := h.drew.copyIn i (r.rem.take n) (by omega) cur hcur
  have hbW : (w.drew.setRow E.b (cur.toList.take (1 + i) ++ byteCells (r.rem.take n) ++ cur.toList.drop (1 + i + (byteCells (r.rem.take n)).length)).toArray).heap[E.bR]? = w.heap[E.bR]? := setRow_other _ _ _ _ h.bR_ne
  have hcW : ∀ j, j < r.rem.length → (w.drew.setRow E.b (cur.toList.take (1 + i) ++ byteCells (r.rem.take n) ++ cur.toList.drop (1 + i + (byteCells (r.rem.take n)).length)).toArray).cell? ⟨g, o + j, none⟩ = some (.int .u8 ((gb r.rem j : Nat) : Int)) := fun j hj => by
    rw [← hcells j hj]; unfold World.cell?; simp only [setRow_other _ E.b g _ (show g ≠ E.b by have := h.Bb; omega)]; rfl
  rw [hlen] at h1
  generalize w.drew.setRow E.b (cur.toList.take (1 + i) ++ byteCells (r.rem.take n) ++ cur.toList.drop (1 + i + (byteCells (r.rem.take n)).length)).toArray = W1 at hcp h1 hbW hcW
  rw [hb'] at hbW
  have d0 : W1.cell? ⟨E.bR, 0, none⟩ = some (.slice (some ⟨g, o, none⟩) r.rem.length rc) := by rw [cell_of_heap hbW]; rfl
  have e0 := frozen_of_heap hbW 0
  have HS := Lib.hid hsz; have Hs := Lib.hid hs; have Hn := Lib.hid hn; have H1 := Lib.hid h1; have Hc := Lib.hid hcW; have Hb := Lib.hid hbW; have Hrm := Lib.hid hrm
  clear hsz hs hn h hcells hb hb' hcur hadr hbW h1 hcW hlen
  by_cases hrcn : rc = n
  · obtain rfl := hrcn
    go_enter Tryd.func130, Tryd.ntmps130
    go_wp2_with (go_quiet (fail))
    go_still_tail 7, (by kernel_rfl)
    change wpList _ _ _ _ _ w.drew
    go_wp2_with (fail)
    go_ret2
    refine ⟨rfl, ?_⟩
    exact H1.out.cutRd rc g o rc r.calls hnle (some ⟨g, o, none⟩) Hb.out hrc (by rw [maxLen]; exact Hrm.out) hgB Hc.out (fun h => by have h' : rc < r.rem.length := h; omega) _ _ (by show _ = r.rem.length - rc; first | rfl | omega) (by omega)
  · go_enter Tryd.func130, Tryd.ntmps130
    go_wp2_with (go_quiet (fail))
    go_still_tail 7, (by kernel_rfl)
    change wpList _ _ _ _ _ w.drew
    go_wp2_with (fail)
    go_ret2
    refine ⟨rfl, ?_⟩
    exact H1.out.cutRd n g o rc r.calls hnle (some ⟨g, o + n, none⟩) Hb.out hrc (by rw [maxLen]; exact Hrm.out) hgB Hc.out (fun h => rfl) _ _ rfl rfl
theorem Raw.set_calls {E : Env} {w : World} {r : Regs} (h : Raw E w r) (x : Int) : Raw E (w.setCell ⟨E.bR, 2, none⟩ (.int .i64 x)) { r with calls := x } := by
  obtain ⟨a, cap, hb, h1, h2, h3⟩ := h.rd
  refine h.setRd 2 _ _ ⟨a, cap, ?_, h1, h2, fun h0 => ?_⟩ rfl rfl rfl rfl
  · rw [Go.Lib.heap_setCell_same (i := 2) hb (.int .i64 x)]; simp
  · obtain ⟨g, o, ha, hg, hc⟩ := h3 h0
    refine ⟨g, o, ha, hg, fun j hj => ?_⟩
    have hne : g ≠ E.bR := by have := h.BR; omega
    rw [← hc j hj]; unfold World.cell?; simp only [Below.heap_setCell w ⟨E.bR, 2, none⟩ _ g hne]
set_option maxRecDepth 100000 in
set_option maxHeartbeats 1000000 in
theorem read_sized (E : Env) (r : Regs) (w : World) (i m c : Nat) (h : Raw E w r) (h0 : 0 < r.rem.length) (hs : 0 < E.sz.length) (hi : i + m = 1024) (hm : 1 ≤ m) (hmc : m ≤ c) (hc0 : 0 ≤ r.calls) (hc1 : r.calls + r.rem.length ≤ 4611686018427387904) :
    Calls Tryd.prog 130 #[.pointer (some ⟨E.bR, 0, none⟩), .slice (some ⟨E.b, 1 + i, none⟩) m c] w fun e w' => ∃ n : Nat, 1 ≤ n ∧ n ≤ m ∧ n ≤ r.rem.length ∧ e = .returned (.tuple #[.int .i64 n, .nilIface]) ∧ Raw E w' (r.got i n (r.calls + 1)) := by
  obtain ⟨ra, rc, hb, hrc, hrm, hadr⟩ := h.rd
  obtain ⟨sa, scc, hsz, hszm, hszc⟩ := h.szs
  obtain ⟨g, o, rfl, hgB, hcells⟩ := hadr h0
  obtain ⟨sg, so, rfl, hsgB, hscells⟩ := hszc hs
  have hb' := hb
  rw [hsz] at hb
  have c0 : w.cell? ⟨E.bR, 0, none⟩ = some (.slice (some ⟨g, o, none⟩) r.rem.length rc) := by rw [cell_of_heap hb]; rfl
  have c1 : w.cell? ⟨E.bR, 1, none⟩ = some (.slice (some ⟨sg, so, none⟩) E.sz.length scc) := by rw [cell_of_heap hb]; rfl
  have c2 : w.cell? ⟨E.bR, 2, none⟩ = some (.int .i64 r.calls) := by rw [cell_of_heap hb]; rfl
  have f0 := frozen_of_heap hb 0
  have f2 := frozen_of_heap hb 2
  have hl0 : (0 : Int) < (r.rem.length : Int) := by omega
  have hl1 : ((r.rem.length : Int) == 0) = false := beq_eq_false_iff_ne.2 (by omega)
  have hs0 : (0 : Int) < (E.sz.length : Int) := by omega
  unfold maxLen at hrm hszm
  have hk0 : 0 ≤ r.calls % (E.sz.length : Int) := Int.emod_nonneg _ (by omega)
  have hk1 : r.calls % (E.sz.length : Int) < (E.sz.length : Int) := Int.emod_lt_of_pos _ hs0
  have hz := hscells (r.calls % (E.sz.length : Int)).toNat (by omega)
  generalize E.sz.getD (r.calls % (E.sz.length : Int)).toNat 0 = z at hz
  obtain ⟨k, hk, hk1', hkm⟩ : ∃ k : Nat, min (m : Int) (max 1 z) = (k : Int) ∧ 1 ≤ k ∧ k ≤ m := ⟨(min (m : Int) (max 1 z)).toNat, by omega, by omega, by omega⟩
  have hkc : k ≤ c := by omega
  have Hk := Lib.hid hk; have H := Lib.hid h
  clear hb' hscells hcells hadr hszc hb hsz h hk
  go_enter Tryd.func130, Tryd.ntmps130
  go_wp2_with (go_quiet (fail))
  rw [Hk.out]
  have hW := (H.out.drewN nq).set_calls (r.calls + 1)
  generalize (w.drewN nq).setCell ⟨E.bR, 2, none⟩ (.int .i64 (r.calls + 1)) = W at hW ⊢
  obtain ⟨ra', rc', hb, hrc', hrm', hadr⟩ := hW.rd
  obtain ⟨g', o', rfl, hgB', hcells⟩ := hadr h0
  clear c0 c1 c2 f0 f2 hz hk0 hk1
  have c0 : W.cell? ⟨E.bR, 0, none⟩ = some (.slice (some ⟨g', o', none⟩) r.rem.length rc') := by rw [cell_of_heap hb]; rfl
  have f0 := frozen_of_heap hb 0
  obtain ⟨n, hn⟩ : ∃ n, n = Nat.min r.rem.length k := ⟨_, rfl⟩
  have hnle : n ≤ r.rem.length := by rw [hn]; exact Nat.min_le_left _ _
  have hnk : n ≤ k := by rw [hn]; exact Nat.min_le_right _ _
  have hn1 : 1 ≤ n := by rw [hn]; exact Nat.le_min.2 ⟨h0, hk1'⟩
  obtain ⟨cur, hcur⟩ := hW.tagb
  have hsz2 : 1035 < cur.size := by
    obtain ⟨hB, v, lr, ⟨cs, hb1, _, _, c2, _⟩, _⟩ := hW.buf
    obtain rfl : cs = cur := by rw [hb1] at hcur; injection hcur with e; injection e
    exact (Array.getElem?_eq_some_iff.1 c2).1
  have hcp := copy_read E { r with calls := r.calls + 1 } W.drew i k c n g' o' r.rem.length rc' cur hcur hsz2 (by omega) rfl hn hcells
  have hlen : (r.rem.take n).length = n := by rw [List.length_take]; omega
  have h1 := hW.drew.copyIn i (r.rem.take n) (by omega) cur hcur
  have hbW : (W.drew.setRow E.b (cur.toList.take (1 + i) ++ byteCells (r.rem.take n) ++ cur.toList.drop (1 + i + (byteCells (r.rem.take n)).length)).toArray).heap[E.bR]? = W.heap[E.bR]? := setRow_other _ _ _ _ hW.bR_ne
  have hcW : ∀ j, j < r.rem.length → (W.drew.setRow E.b (cur.toList.take (1 + i) ++ byteCells (r.rem.take n) ++ cur.toList.drop (1 + i + (byteCells (r.rem.take n)).length)).toArray).cell? ⟨g', o' + j, none⟩ = some (.int .u8 ((gb r.rem j : Nat) : Int)) := fun j hj => by
    rw [← hcells j hj]; unfold World.cell?; simp only [setRow_other _ E.b g' _ (show g' ≠ E.b by have := hW.Bb; omega)]; rfl
  rw [hlen] at h1
  rw [show ({ r with calls := r.calls + 1 } : Regs).rem = r.rem from rfl] at hcp
  generalize W.drew.setRow E.b (cur.toList.take (1 + i) ++ byteCells (r.rem.take n) ++ cur.toList.drop (1 + i + (byteCells (r.rem.take n)).length)).toArray = W1 at hcp h1 hbW hcW
  rw [hb] at hbW
  have d0 : W1.cell? ⟨E.bR, 0, none⟩ = some (.slice (some ⟨g', o', none⟩) r.rem.length rc') := by rw [cell_of_heap hbW]; rfl
  have e0 := frozen_of_heap hbW 0
  unfold maxLen at hrm'
  have H1 := Lib.hid h1; have Hc := Lib.hid hcW; have Hb := Lib.hid hbW; have Hrm := Lib.hid hrm'; have Hn := Lib.hid hn
  clear hn hW hcells hb hcur hadr hbW h1 hcW hlen
  by_cases hrcn : rc' = n
  · obtain rfl := hrcn
    go_still_tail 7, (by kernel_rfl)
    change wpList _ _ _ _ _ W.drew
    go_wp2_with (fail)
    go_ret2
    refine ⟨rc', hn1, by omega, hnle, rfl, ?_⟩
    exact H1.out.cutRd rc' g' o' rc' (r.calls + 1) hnle (some ⟨g', o', none⟩) Hb.out hrc' (by rw [maxLen]; exact Hrm.out) hgB' Hc.out (fun h => by have h' : rc' < r.rem.length := h; have : r.rem.length ≤ rc' := hrc'; omega) _ _ (by show _ = r.rem.length - rc'; first | rfl | omega) (by omega)
  · go_still_tail 7, (by kernel_rfl)
    change wpList _ _ _ _ _ W.drew
    go_wp2_with (fail)
    go_ret2
    refine ⟨n, hn1, by omega, hnle, rfl, ?_⟩
    exact H1.out.cutRd n g' o' rc' (r.calls + 1) hnle (some ⟨g', o' + n, none⟩) Hb.out hrc' (by rw [maxLen]; exact Hrm.out) hgB' Hc.out (fun h => rfl) _ _ rfl rfl
end Go.Proofs.YtmfihkgbfoapaaaDoor
