/- Own texts B1 B2 of this claim, cut to what the claim uses. -/
import Derived.Shelf.LaysM
import Derived.Shelf.Bytes.GrowAt
import Derived.Lib.ByteType
import Derived.Lib.BufferAt
import Derived.Lib.BufferOwn
import Derived.Lib.Walk
import Derived.Lib.BufferWrite
import Derived.Lib.BufferSrc
import Derived.Laws.IdiomCopy
import Derived.Lib.Hide
import Derived.WalkKit
import Derived.BigCall
import Derived.BigGuard
import Derived.Test.YtmfihkgbfoapaaaDoorZShelf
import Derived.Test.YtmfihkgbfoapaaaDoorZA1
namespace Go.Proofs.YtmfihkgbfoapaaaDoor
open Go Go.Proofs Go.Shelf Go.RowKit
theorem add_at (b o j : Nat) : (⟨b, o, none⟩ : Addr).add j = ⟨b, o + j, none⟩ := by
  unfold Addr.add; split
  · rename_i h; subst h; rfl
  · rfl
section
variable {P : Program} {ρ : Ren}
set_option maxHeartbeats 6400000 in
set_option maxRecDepth 100000 in
theorem Any.Buffer_Write_in (L : LaysM.n180 P ρ) (T : TypeId) (R : Nat → Option Value) (B b q : Nat) (bs cs : List Value) (o n c : Nat) (w : World) (h : LibA.IsBuffer T R (ρ.t 5) B b q bs w) (hBw : B ≤ w.heap.size) (h1 : ∀ v ∈ bs, v.oneCell' = true)
    (hn : cs.length = n) (hout : o + n ≤ q ∨ q + 3 ≤ o) (hsrc : ∀ j v, cs[j]? = some v → R (o + j) = some v) (h1c : ∀ v ∈ cs, v.oneCell' = true) (hlim : bs.length + n ≤ 140737488355328) :
    Calls P (ρ.f 180) #[.pointer (some ⟨b, q, none⟩), .slice (some ⟨b, o, none⟩) n c] w fun e w' => e = .returned (.tuple #[.int .i64 n, .nilIface]) ∧ LibA.IsBuffer T R (ρ.t 5) B b q (bs ++ cs) w' ∧ Below B w w' ∧ Lib.OthersKept (ρ.t 5) (some b) w w' := by
  have mixed := L.mixed
  have t5 := L.t5; have a5 := L.a5; have z5 := L.z5; have v5 := L.v5
  have t130 := L.t130; have a130 := L.a130; have z130 := L.z130; have v130 := L.v130
  have t37 := L.t37; have a37 := L.a37; have z37 := L.z37; have v37 := L.v37
  have t3 := L.t3; have a3 := L.a3; have z3 := L.z3; have v3 := L.v3
  have t75 := L.t75; have a75 := L.a75; have z75 := L.z75; have v75 := L.v75
  have t0 := L.t0; have a0 := L.a0; have z0 := L.z0; have v0 := L.v0
  have t93 := L.t93; have u93 := run_underlying L.t93; have a93 := L.a93; have z93 := L.z93; have v93 := L.v93
  have t91 := L.t91; have a91 := L.a91; have z91 := L.z91; have v91 := L.v91
  have t131 := L.t131; have a131 := L.a131; have z131 := L.z131; have v131 := L.v131
  have t4 := L.t4; have a4 := L.a4; have z4 := L.z4; have v4 := L.v4
  have e251 : ∀ args w, (callFunc (ρ.f 251) args).run P w = .ok (.enter (ρ.f 251) args) w := enters_of L.f251 (by kernel_rfl) rfl
  have e252 : ∀ args w, (callFunc (ρ.f 252) args).run P w = .ok (.enter (ρ.f 252) args) w := enters_of L.f252 (by kernel_rfl) rfl
  obtain ⟨hB, v0, lr, hbk, -, -⟩ := id h
  have c2 : w.cell? ⟨b, q + 2, none⟩ = some (.int .i8 lr) := hbk.c2
  have f2 : w.frozen? ⟨b, q + 2, none⟩ = false := hbk.f (q + 2)
  -- 'b.lastRead = opInvalid'
  have h' := h.setLast 0
  have hbel0 : Below B w (w.setCell ⟨b, q + 2, none⟩ (.int .i8 0)) := (Below.refl B w).setCell (p := ⟨b, q + 2, none⟩) hB _
  have hk0 : Lib.OthersKept (ρ.t 5) (some b) w (w.setCell ⟨b, q + 2, none⟩ (.int .i8 0)) := (Lib.OthersKept.refl _ _ w).setCell ⟨b, q + 2, none⟩ rfl _
  have hg0 : w.grownBy (w.setCell ⟨b, q + 2, none⟩ (.int .i8 0)) (some b) := Lib.grownBy_setCell w b (q + 2) _
  have hBw' : B ≤ (w.setCell ⟨b, q + 2, none⟩ (.int .i8 0)).heap.size := by simpa [World.setCell] using hBw
  clear hbk v0
  have hinfo : (P.info? (ρ.t 5)).map (·.size) = some 1 := by
    obtain ⟨i0, hi, -, hz1, -⟩ := info_parts L.i5
    rw [hi]; simp [hz1]
  by_cases hs0 : n = 0
  · -- NO BYTE: there is always room; nothing is written
    subst hs0
    have hc0 : cs = [] := List.eq_nil_of_length_eq_zero hn
    subst hc0
    have hce : ∀ d dLen dCap W, (Builtin.copy_ #[(ρ.t 37), (ρ.t 37)] (ρ.t 3) #[.slice d dLen dCap, .slice (some ⟨b, o, none⟩) 0 c]).run P W = .ok (goInt 0) W := fun d dLen dCap W => run_copy_none W (ρ.t 37) (ρ.t 37) (ρ.t 3) (ρ.t 5) d (some ⟨b, o, none⟩) dLen dCap 0 c L.t37 hinfo (by simp)
    have hT : ∀ W, LibA.IsBuffer T R (ρ.t 5) B b q bs W → Calls P (ρ.f 251) #[.pointer (some ⟨b, q, none⟩), .int .i64 0] W _ := fun W hW => Any.Buffer_tryGrow_at { L with } T R B b q 0 bs W hW
    go_enter L.f180, Body.n180_ntmps ρ
    go_wp2_with (go_at_fn (ρ.f 251); refine (hT _ ?_).mono ?_)
    · exact h'
    rintro e W1 (⟨rfl, xs, hxl, hI, hbel, hk, hg⟩ | ⟨rfl, rfl, hnr⟩)
    · clear h' c2 f2 hT
      have hx0 : xs = [] := List.eq_nil_of_length_eq_zero hxl
      subst hx0
      rw [List.append_nil] at hI
      obtain ⟨-, lr2, hc⟩ := hI.cases
      rcases hc with ⟨hb0, hbk2⟩ | ⟨g, cap, cur, hbk2, -, -, hnc, hcm, -, -, -⟩
      · subst hb0
        have d0 : W1.cell? ⟨b, q, none⟩ = some (.slice none 0 0) := hbk2.c0
        go_wp2
        all_goals (go_ret2; first | exact ⟨rfl, hI, hbel0.trans hbel, hk0.trans hk⟩ | exact ⟨by simp, by simpa using hI, hbel0.trans hbel, hk0.trans hk⟩)
      · have d0 : W1.cell? ⟨b, q, none⟩ = some (.slice (some ⟨g, 0, none⟩) bs.length cap) := hbk2.c0
        unfold maxLen at hcm
        go_wp2
        all_goals (go_ret2; first | exact ⟨rfl, hI, hbel0.trans hbel, hk0.trans hk⟩ | exact ⟨by simp, by simpa using hI, hbel0.trans hbel, hk0.trans hk⟩)
    · obtain ⟨_, _, _, _, hlt⟩ := hnr
      omega
  · go_enter L.f180, Body.n180_ntmps ρ
    go_wp2_with (go_at_fn (ρ.f 251); refine (Any.Buffer_tryGrow_at { L with } T R B b q n bs _ ?_).mono ?_)
    · exact h'
    rintro e W1 (⟨rfl, xs, hxl, hI, hbel, hk, hg⟩ | ⟨rfl, rfl, hnr⟩)
    · -- THERE WAS ROOM
      have hbelW := hbel0.trans hbel
      have hkW := hk0.trans hk
      clear h' hbel hbel0 hBw' c2 f2
      obtain ⟨-, lr2, hc⟩ := hI.cases
      rcases hc with ⟨hnil, -⟩ | ⟨g, cap, cur, hbk2, hBg, hg, hnc, hcm, hcs, htk, hgb⟩
      · exact absurd (congrArg List.length hnil) (by rw [List.length_append, hxl, List.length_nil]; omega)
      · rw [List.length_append, hxl] at hbk2 hnc htk
        have d0 : W1.cell? ⟨b, q, none⟩ = some (.slice (some ⟨g, 0, none⟩) (bs.length + n) cap) := hbk2.c0
        have hne : ¬ cap = bs.length := by omega
        have hsrc1 : ∀ j v, cs[j]? = some v → W1.cell? ((⟨b, o, none⟩ : Addr).add j) = some v := fun j v hj => by
          have hjl : j < n := by have := (List.getElem?_eq_some_iff.1 hj).1; omega
          rw [add_at, hI.rest (o + j) (by omega)]; exact hsrc j v hj
        have hcp := run_copy_row (P := P) W1 (ρ.t 37) (ρ.t 37) (ρ.t 3) (ρ.t 5) g bs.length n (cap - bs.length) ⟨b, o, none⟩ n c cur (ρ.t 5) cs L.t37 hinfo hg (by rw [hn]; exact (Nat.min_self n).symm) hsrc1 (by rw [hn]; omega) h1c
        rw [hn] at hcp
        have hcm' := hcm
        unfold maxLen at hcm'
        go_wp2
        go_ret2
        obtain ⟨r1, r2⟩ := LibA.written_end (news := cs) (l := bs.length) hB (by rw [hn]; exact hbk2) hBg hg hcm hcs hgb (by rw [hn]; exact hnc)
        have e1 : cur.toList.take bs.length = bs := by
          have h3 := congrArg (List.take bs.length) htk
          rwa [List.take_take, Nat.min_eq_left (Nat.le_add_right _ _), List.take_left' rfl] at h3
        rw [e1, hn] at r1 r2
        refine ⟨rfl, ?_, ?_, hkW.setRow hg _⟩ <;> rw [e1, ← List.append_assoc]
        · exact r1
        · exact hbelW.trans r2
    · -- THERE WAS NONE: grow
      go_wp2_with (go_at_fn (ρ.f 252); refine (Any.Buffer_grow_at { L with } T R B b q n bs _ ?_ ?_ ?_ h1 hlim).mono ?_)
      · exact h'
      · exact hnr
      · exact hBw'
      rintro e W1 ⟨rfl, xs, hxl, hI, hbel, hk, hg⟩
      have hbelW := hbel0.trans hbel
      have hkW := hk0.trans hk
      clear h' hbel hbel0 hBw' c2 f2 hnr
      obtain ⟨-, lr2, hc⟩ := hI.cases
      rcases hc with ⟨hnil, -⟩ | ⟨g, cap, cur, hbk2, hBg, hg, hnc, hcm, hcs, htk, hgb⟩
      · exact absurd (congrArg List.length hnil) (by rw [List.length_append, hxl, List.length_nil]; omega)
      · rw [List.length_append, hxl] at hbk2 hnc htk
        have d0 : W1.cell? ⟨b, q, none⟩ = some (.slice (some ⟨g, 0, none⟩) (bs.length + n) cap) := hbk2.c0
        have hne : ¬ cap = bs.length := by omega
        have hsrc1 : ∀ j v, cs[j]? = some v → W1.cell? ((⟨b, o, none⟩ : Addr).add j) = some v := fun j v hj => by
          have hjl : j < n := by have := (List.getElem?_eq_some_iff.1 hj).1; omega
          rw [add_at, hI.rest (o + j) (by omega)]; exact hsrc j v hj
        have hcp := run_copy_row (P := P) W1 (ρ.t 37) (ρ.t 37) (ρ.t 3) (ρ.t 5) g bs.length n (cap - bs.length) ⟨b, o, none⟩ n c cur (ρ.t 5) cs L.t37 hinfo hg (by rw [hn]; exact (Nat.min_self n).symm) hsrc1 (by rw [hn]; omega) h1c
        rw [hn] at hcp
        have hcm' := hcm
        unfold maxLen at hcm'
        go_wp2
        go_ret2
        obtain ⟨r1, r2⟩ := LibA.written_end (news := cs) (l := bs.length) hB (by rw [hn]; exact hbk2) hBg hg hcm hcs hgb (by rw [hn]; exact hnc)
        have e1 : cur.toList.take bs.length = bs := by
          have h3 := congrArg (List.take bs.length) htk
          rwa [List.take_take, Nat.min_eq_left (Nat.le_add_right _ _), List.take_left' rfl] at h3
        rw [e1, hn] at r1 r2
        refine ⟨rfl, ?_, ?_, hkW.setRow hg _⟩ <;> rw [e1, ← List.append_assoc]
        · exact r1
        · exact hbelW.trans r2
end
end Go.Proofs.YtmfihkgbfoapaaaDoor
namespace Go.Proofs.YtmfihkgbfoapaaaDoor
open Go Go.RowKit Go.Lib
theorem Fr.others {E : Env} {w w' : World} (h : Fr E w) (hb : Below E.B w w') (hk : OthersKept 5 (some E.b) w w') : Fr E w' :=
  ⟨h.1.trans hb, fun k o h0 h1 h2 h3 h4 => hk k o (h.2 k o h0 h1 h2 h3 h4) (fun e => h1 (Option.some.inj e)) h4⟩
theorem Raw.ofBuf {E : Env} {w w' : World} {r : Regs} (h : Raw E w r) {tb : List UInt8} (hb : LibA.IsBuffer 111 (rcell E r) 5 E.B E.b 1033 (byteCells tb) w')
    (hbel : Below E.B w w') (hk : OthersKept 5 (some E.b) w w') : Raw E w' { r with tb := tb } := by
  have hR : w'.heap[E.bR]? = w.heap[E.bR]? := by
    obtain ⟨a, c, hr, _⟩ := h.rd
    rw [hr]; exact hk _ _ hr (fun e => h.bR_ne (Option.some.inj e)) (fun c fz e => by cases e)
  refine ⟨hb, h.blen, h.rd.of hR hbel.block rfl rfl, ?_, ?_, h.BR, h.BC, h.szs.of hbel.block, h.fr.others hbel hk⟩
  · exact hk _ _ h.cnt (fun e => h.bC_ne (Option.some.inj e)) (fun c fz e => by cases e)
  · exact hk _ _ h.cap (fun e => h.bE_ne (Option.some.inj e)) (fun c fz e => by cases e)
theorem byteCells_getElem? (l : List UInt8) (j : Nat) : (byteCells l)[j]? = (l[j]?).map fun c => Value.int .u8 c.toNat := by simp [byteCells]
theorem byteCells_app (a b : List UInt8) : byteCells (a ++ b) = byteCells a ++ byteCells b := by simp [byteCells]
theorem byteCells_len (l : List UInt8) : (byteCells l).length = l.length := by simp [byteCells]
theorem byteCells_cell (l : List UInt8) : ∀ v ∈ byteCells l, v.oneCell' = true := by
  intro v hv
  simp only [byteCells, List.mem_map] at hv
  obtain ⟨c, _, rfl⟩ := hv; rfl
theorem write_spec (E : Env) (r : Regs) (w : World) (o n c : Nat) (h : Raw E w r) (ho : o + n ≤ 1025) (hlim : r.tb.length + n ≤ 140737488355328) :
    Calls Tryd.prog 78 #[.pointer (some ⟨E.b, 1033, none⟩), .slice (some ⟨E.b, 1 + o, none⟩) n c] w fun e w' => e = .returned (.tuple #[.int .i64 n, .nilIface]) ∧
      Raw E w' { r with tb := r.tb ++ (r.buf.drop o).take n } := by
  have hlen : ((r.buf.drop o).take n).length = n := by have := h.blen; simp only [List.length_take, List.length_drop]; omega
  refine (Any.Buffer_Write_in Tryd.laysM180 111 (rcell E r) E.B E.b 1033 (byteCells r.tb) (byteCells ((r.buf.drop o).take n)) (1 + o) n c w h.buf h.Bsize (byteCells_cell _) ?_ (by omega) ?_ (byteCells_cell _) ?_).mono ?_
  · rw [byteCells_len]; exact hlen
  · intro j v hj
    rw [byteCells_getElem?] at hj
    have hjn : j < n := by
      rcases Nat.lt_or_ge j n with h1 | h1
      · exact h1
      · rw [List.getElem?_eq_none (by omega)] at hj; cases hj
    rw [List.getElem?_take_of_lt hjn, List.getElem?_drop] at hj
    unfold rcell
    rw [if_neg (by omega), if_pos (by omega), show 1 + o + j - 1 = o + j by omega]
    exact hj
  · rw [byteCells_len]; exact hlim
  · rintro e w' ⟨rfl, hI, hb, hk⟩
    rw [← byteCells_app] at hI
    exact ⟨rfl, h.ofBuf hI hb hk⟩
theorem len_spec (E : Env) (r : Regs) (w : World) (h : Raw E w r) :
    Calls Tryd.prog 77 #[.pointer (some ⟨E.b, 1033, none⟩)] w fun e w' => e = .returned (.int .i64 r.tb.length) ∧ ∃ n, w' = w.drewN n := by
  refine (Tryd.Buffer_Len_at 111 (rcell E r) E.B E.b 1033 (byteCells r.tb) w h.buf).mono ?_
  rintro e w' ⟨rfl, hn⟩
  rw [byteCells_len]; exact ⟨rfl, hn⟩
theorem string_spec (E : Env) (r : Regs) (w : World) (h : Raw E w r) :
    Calls Tryd.prog 79 #[.pointer (some ⟨E.b, 1033, none⟩)] w fun e w' => e = .returned (.string ⟨r.tb.toArray⟩) ∧ ∃ n, w' = w.drewN n :=
  Tryd.Buffer_String_at 111 (rcell E r) E.B E.b 1033 r.tb w h.buf
set_option maxRecDepth 100000 in
set_option maxHeartbeats 400000 in
theorem reset_spec (E : Env) (r : Regs) (w : World) (h : Raw E w r) :
    Calls Tryd.prog 68 #[.pointer (some ⟨E.b, 1033, none⟩)] w fun e w' => e = .returned (.tuple #[]) ∧ Raw E w' { r with tb := [] } := by
  obtain ⟨hB, lr, hc⟩ := h.buf.cases
  have f := h.frozen
  rcases hc with ⟨-, hbk⟩ | ⟨g, cap, cur, hbk, hBg, hg, hnc, hcm, hcs, -, hgb⟩
  · have c0 : w.cell? ⟨E.b, 1033, none⟩ = some (.slice none 0 0) := hbk.c0
    have c1 : w.cell? ⟨E.b, 1034, none⟩ = some (.int .i64 0) := hbk.c1
    have c2 : w.cell? ⟨E.b, 1035, none⟩ = some (.int .i8 lr) := hbk.c2
    have H := Lib.hid h; have Hb := Lib.hid hbk
    clear h hbk
    go_enter Tryd.func68, Tryd.ntmps68
    go_wp2_with (fail)
    go_end0
    refine ⟨rfl, H.out.ofBuf (LibA.zero_isBuffer hB (((Hb.out.set0 _).set1 _).set2 _)) (((Below.refl _ _).setCell hB _).setCell hB _ |>.setCell hB _) ?_⟩
    exact (((OthersKept.refl _ _ w).setCell ⟨E.b, 1033, none⟩ rfl _).setCell ⟨E.b, 1034, none⟩ rfl _).setCell ⟨E.b, 1035, none⟩ rfl _
  · have c0 : w.cell? ⟨E.b, 1033, none⟩ = some (.slice (some ⟨g, 0, none⟩) (byteCells r.tb).length cap) := hbk.c0
    have c1 : w.cell? ⟨E.b, 1034, none⟩ = some (.int .i64 0) := hbk.c1
    have c2 : w.cell? ⟨E.b, 1035, none⟩ = some (.int .i8 lr) := hbk.c2
    have H := Lib.hid h; have Hb := Lib.hid hbk
    clear h hbk
    go_enter Tryd.func68, Tryd.ntmps68
    go_wp2_with (fail)
    go_end0
    refine ⟨rfl, H.out.ofBuf (tb := []) ?_ (((Below.refl _ _).setCell hB _).setCell hB _ |>.setCell hB _) ?_⟩
    · have hb3 := ((Hb.out.set0 (.slice (some ⟨g, 0, none⟩) 0 cap)).set1 (.int .i64 0)).set2 (.int .i8 0)
      have hg3 : (((w.setCell ⟨E.b, 1033, none⟩ (.slice (some ⟨g, 0, none⟩) 0 cap)).setCell ⟨E.b, 1034, none⟩ (.int .i64 0)).setCell ⟨E.b, 1035, none⟩ (.int .i8 0)).heap[g]? = some (.cells cur 5 (0, 0)) := by
        rw [Below.heap_setCell _ _ _ _ hgb, Below.heap_setCell _ _ _ _ hgb, Below.heap_setCell _ _ _ _ hgb]; exact hg
      have := LibA.isBuffer_mk (T := 111) hB hb3 hBg hg3 (Nat.zero_le _) hcm hcs hgb
      rw [List.take_zero] at this
      exact this
    · exact (((OthersKept.refl _ _ w).setCell ⟨E.b, 1033, none⟩ rfl _).setCell ⟨E.b, 1034, none⟩ rfl _).setCell ⟨E.b, 1035, none⟩ rfl _
end Go.Proofs.YtmfihkgbfoapaaaDoor
