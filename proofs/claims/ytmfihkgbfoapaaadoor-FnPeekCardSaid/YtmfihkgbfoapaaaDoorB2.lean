/- The token buffer of the scanner: Reset, Write, Len, String at the scanner's registers. -/
import Derived.Test.YtmfihkgbfoapaaaDoorA1
import Derived.Test.YtmfihkgbfoapaaaDoorB1
namespace Go.Proofs.YtmfihkgbfoapaaaDoor
open Go Go.RowKit Go.Lib

theorem Fr.others {E : Env} {w w' : World} (h : Fr E w) (hb : Below E.B w w') (hk : OthersKept 5 (some E.b) w w') : Fr E w' :=
  ⟨h.1.trans hb, fun k o h0 h1 h2 h3 h4 => hk k o (h.2 k o h0 h1 h2 h3 h4) (fun e => h1 (Option.some.inj e)) h4⟩

/-- Behind a call that has turned the buffer alone. -/
theorem Raw.ofBuf {E : Env} {w w' : World} {r : Regs} (h : Raw E w r) {tb : List UInt8} (hb : LibA.IsBuffer 111 (rcell E r) 5 E.B E.b 1033 (byteCells tb) w')
    (hbel : Below E.B w w') (hk : OthersKept 5 (some E.b) w w') : Raw E w' { r with tb := tb } := by
  have hR : w'.heap[E.bR]? = w.heap[E.bR]? := by
    obtain ⟨a, c, hr, _⟩ := h.rd
    rw [hr]; exact hk _ _ hr (fun e => h.bR_ne (Option.some.inj e)) (fun c fz e => by cases e)
  refine ⟨hb, h.blen, h.rd.of hR hbel.block rfl rfl, ?_, ?_, h.BR, h.BC, h.szs.of hbel.block, h.fr.others hbel hk⟩
  · exact hk _ _ h.cnt (fun e => h.bC_ne (Option.some.inj e)) (fun c fz e => by cases e)
  · exact hk _ _ h.cap (fun e => h.bE_ne (Option.some.inj e)) (fun c fz e => by cases e)

theorem byteCells_getElem? (l : List UInt8) (j : Nat) : (byteCells l)[j]? = (l[j]?).map fun c => Value.int .u8 c.toNat := by simp [byteCells]
theorem byteCells_app (a b : List UInt8) : byteCells (a ++ b) = byteCells a ++ byteCells b := by simp [byteCells]
theorem byteCells_len (l : List UInt8) : (byteCells l).length = l.length := by simp [byteCells]
theorem byteCells_cell (l : List UInt8) : ∀ v ∈ byteCells l, v.oneCell' = true := by
  intro v hv
  simp only [byteCells, List.mem_map] at hv
  obtain ⟨c, _, rfl⟩ := hv; rfl

theorem write_spec (E : Env) (r : Regs) (w : World) (o n c : Nat) (h : Raw E w r) (ho : o + n ≤ 1025) (hlim : r.tb.length + n ≤ 140737488355328) :
    Calls Tryd.prog 78 #[.pointer (some ⟨E.b, 1033, none⟩), .slice (some ⟨E.b, 1 + o, none⟩) n c] w fun e w' => e = .returned (.tuple #[.int .i64 n, .nilIface]) ∧
      Raw E w' { r with tb := r.tb ++ (r.buf.drop o).take n } := by
  have hlen : ((r.buf.drop o).take n).length = n := by have := h.blen; simp only [List.length_take, List.length_drop]; omega
  refine (Any.Buffer_Write_in Tryd.laysM180 111 (rcell E r) E.B E.b 1033 (byteCells r.tb) (byteCells ((r.buf.drop o).take n)) (1 + o) n c w h.buf h.Bsize (byteCells_cell _) ?_ (by omega) ?_ (byteCells_cell _) ?_).mono ?_
  · rw [byteCells_len]; exact hlen
  · intro j v hj
    rw [byteCells_getElem?] at hj
    have hjn : j < n := by
      rcases Nat.lt_or_ge j n with h1 | h1
      · exact h1
      · rw [List.getElem?_eq_none (by omega)] at hj; cases hj
    rw [List.getElem?_take_of_lt hjn, List.getElem?_drop] at hj
    unfold rcell
    rw [if_neg (by omega), if_pos (by omega), show 1 + o + j - 1 = o + j by omega]
    exact hj
  · rw [byteCells_len]; exact hlim
  · rintro e w' ⟨rfl, hI, hb, hk⟩
    rw [← byteCells_app] at hI
    exact ⟨rfl, h.ofBuf hI hb hk⟩

theorem len_spec (E : Env) (r : Regs) (w : World) (h : Raw E w r) :
    Calls Tryd.prog 77 #[.pointer (some ⟨E.b, 1033, none⟩)] w fun e w' => e = .returned (.int .i64 r.tb.length) ∧ ∃ n, w' = w.drewN n := by
  refine (Tryd.Buffer_Len_at 111 (rcell E r) E.B E.b 1033 (byteCells r.tb) w h.buf).mono ?_
  rintro e w' ⟨rfl, hn⟩
  rw [byteCells_len]; exact ⟨rfl, hn⟩

theorem string_spec (E : Env) (r : Regs) (w : World) (h : Raw E w r) :
    Calls Tryd.prog 79 #[.pointer (some ⟨E.b, 1033, none⟩)] w fun e w' => e = .returned (.string ⟨r.tb.toArray⟩) ∧ ∃ n, w' = w.drewN n :=
  Tryd.Buffer_String_at 111 (rcell E r) E.B E.b 1033 r.tb w h.buf

set_option maxRecDepth 100000 in
set_option maxHeartbeats 400000 in
theorem reset_spec (E : Env) (r : Regs) (w : World) (h : Raw E w r) :
    Calls Tryd.prog 68 #[.pointer (some ⟨E.b, 1033, none⟩)] w fun e w' => e = .returned (.tuple #[]) ∧ Raw E w' { r with tb := [] } := by
  obtain ⟨hB, lr, hc⟩ := h.buf.cases
  have f := h.frozen
  rcases hc with ⟨-, hbk⟩ | ⟨g, cap, cur, hbk, hBg, hg, hnc, hcm, hcs, -, hgb⟩
  · have c0 : w.cell? ⟨E.b, 1033, none⟩ = some (.slice none 0 0) := hbk.c0
    have c1 : w.cell? ⟨E.b, 1034, none⟩ = some (.int .i64 0) := hbk.c1
    have c2 : w.cell? ⟨E.b, 1035, none⟩ = some (.int .i8 lr) := hbk.c2
    have H := Lib.hid h; have Hb := Lib.hid hbk
    clear h hbk
    go_enter Tryd.func68, Tryd.ntmps68
    go_wp2_with (fail)
    go_end0
    refine ⟨rfl, H.out.ofBuf (LibA.zero_isBuffer hB (((Hb.out.set0 _).set1 _).set2 _)) (((Below.refl _ _).setCell hB _).setCell hB _ |>.setCell hB _) ?_⟩
    exact (((OthersKept.refl _ _ w).setCell ⟨E.b, 1033, none⟩ rfl _).setCell ⟨E.b, 1034, none⟩ rfl _).setCell ⟨E.b, 1035, none⟩ rfl _
  · have c0 : w.cell? ⟨E.b, 1033, none⟩ = some (.slice (some ⟨g, 0, none⟩) (byteCells r.tb).length cap) := hbk.c0
    have c1 : w.cell? ⟨E.b, 1034, none⟩ = some (.int .i64 0) := hbk.c1
    have c2 : w.cell? ⟨E.b, 1035, none⟩ = some (.int .i8 lr) := hbk.c2
    have H := Lib.hid h; have Hb := Lib.hid hbk
    clear h hbk
    go_enter Tryd.func68, Tryd.ntmps68
    go_wp2_with (fail)
    go_end0
    refine ⟨rfl, H.out.ofBuf (tb := []) ?_ (((Below.refl _ _).setCell hB _).setCell hB _ |>.setCell hB _) ?_⟩
    · have hb3 := ((Hb.out.set0 (.slice (some ⟨g, 0, none⟩) 0 cap)).set1 (.int .i64 0)).set2 (.int .i8 0)
      have hg3 : (((w.setCell ⟨E.b, 1033, none⟩ (.slice (some ⟨g, 0, none⟩) 0 cap)).setCell ⟨E.b, 1034, none⟩ (.int .i64 0)).setCell ⟨E.b, 1035, none⟩ (.int .i8 0)).heap[g]? = some (.cells cur 5 (0, 0)) := by
        rw [Below.heap_setCell _ _ _ _ hgb, Below.heap_setCell _ _ _ _ hgb, Below.heap_setCell _ _ _ _ hgb]; exact hg
      have := LibA.isBuffer_mk (T := 111) hB hb3 hBg hg3 (Nat.zero_le _) hcm hcs hgb
      rw [List.take_zero] at this
      exact this
    · exact (((OthersKept.refl _ _ w).setCell ⟨E.b, 1033, none⟩ rfl _).setCell ⟨E.b, 1034, none⟩ rfl _).setCell ⟨E.b, 1035, none⟩ rfl _
end Go.Proofs.YtmfihkgbfoapaaaDoor
