/- Own texts R0 of this claim, cut to what the claim uses. -/
import Derived.Test.YtmfihkgbfoapaaaDoorZE10
import Derived.Test.YtmfihkgbfoapaaaDoorZShelf
import Derived.Lib.LaidRTabT
import Derived.Lib.LaidU8T
import Derived.Lib.LaidTab
import Derived.PinnedBridge
import Derived.LaidLaws
import Derived.OpenShut
import Derived.ChangeAt
import Derived.Lib.LaidU8
import Derived.Deep.Slices
import Derived.ChangeSlices
import Derived.Shelf.Unicode.PredsPay
namespace Go.Proofs.YtmfihkgbfoapaaaDoor
open Go Go.RowKit Go.Lib Go.Shelf Go.ChangeShapes Go.WideShapes Go.ChangeAt
theorem xD : RExtra Tryd.prog Tryd.lays198_ren := ⟨by kernel_rfl, by kernel_rfl, by kernel_rfl, by kernel_rfl, by kernel_rfl, by kernel_rfl, by kernel_rfl, by kernel_rfl⟩
theorem digit_of {W : World} (h : VarReads Tryd.prog W "unicode.Digit" Pinned.digit) : RVar 1 digitT W :=
  rvar_of_readsT (ρ := Tryd.lays198_ren) { Tryd.lays198 with } xD (by kernel_rfl) (by kernel_rfl) (Pinned.digit_eq ▸ h)
theorem letter_of {W : World} (h : VarReads Tryd.prog W "unicode.Letter" Pinned.letter) : RVar 5 letterT W :=
  rvar_of_readsT (ρ := Tryd.lays198_ren) { Tryd.lays198 with } xD (by kernel_rfl) (by kernel_rfl) (Pinned.letter_eq ▸ h)
def renU8 : Go.Shelf.Ren := ⟨fun n => n, fun | 5 => 5 | 119 => 157 | 138 => 159 | 139 => 160 | n => n, fun | 3 => 2 | 4 => 3 | n => n⟩
theorem u8T : U8Types Tryd.prog renU8 := ⟨Tryd.underlying5, Tryd.underlying157, Tryd.underlying159, Tryd.underlying160⟩
theorem u8X : U8Extra Tryd.prog renU8 := ⟨by kernel_rfl, by kernel_rfl, by kernel_rfl, by kernel_rfl, by kernel_rfl, by kernel_rfl, by kernel_rfl⟩
theorem accept_eq : (Rows.laid_unicode_utf8_acceptRanges : DataW Unit) = acceptData := by kernel_rfl
theorem utf8_of {W : World} (h3 : VarReads Tryd.prog W "unicode/utf8.first" Pinned.utf8First) (h4 : VarReads Tryd.prog W "unicode/utf8.acceptRanges" Rows.laid_unicode_utf8_acceptRanges) : Utf8Tabs 2 3 W :=
  utf8Tabs_of_readsT (ρ := renU8) u8T u8X (Pinned.utf8First_eq ▸ h3) (accept_eq ▸ h4)
theorem props_eq : (Rows.laid_unicode_properties : DataW Unit) = tabData .u8 propertiesTab := by kernel_rfl
theorem props_of {W : World} (h : VarReads Tryd.prog W "unicode.properties" Rows.laid_unicode_properties) : Lib.TabIs Tryd.prog W "unicode.properties" .u8 propertiesTab := by
  rw [props_eq] at h
  obtain ⟨g', t', cs, fuel, p, hg', ht', hvar, hd⟩ := h
  have hg : Tryd.prog.globalNamed "unicode.properties" = some 4 := by kernel_rfl
  obtain rfl := Option.some.inj (hg.symm.trans hg')
  have hty : (Tryd.prog.globals[4]?).map (·.type) = some 157 := by kernel_rfl
  obtain rfl := Option.some.inj (hty.symm.trans ht')
  unfold TabIs
  rw [hvar, ← cells_of_tab Tryd.underlying157 Tryd.underlying5 (by kernel_rfl) (by kernel_rfl) hd]
end Go.Proofs.YtmfihkgbfoapaaaDoor
namespace Go.Proofs.YtmfihkgbfoapaaaDoor
open Go Go.RowKit Go.Lib Go.Shelf Go.ChangeShapes Go.WideShapes Go.ChangeAt
theorem star_error : "*" ++ "errors.errorString" = "*errors.errorString" := by decide
theorem row177 (u : TypeId) (h : Tryd.prog.typeName? 3 u = some "*errors.errorString") : u = 177 :=
  Go.typeName_ptr_named (nm := "errors.errorString") (by rw [star_error]; kernel_rfl) (by kernel_rfl) (by decide) u (by rw [star_error]; exact h)
set_option maxRecDepth 100000 in
theorem eof_of {W : World} (hok : ∀ u v, W.cell? ⟨0, 0, none⟩ = some (.iface u v) → Value.okWide Tryd.prog W .any 0 u v) (h : VarReads Tryd.prog W "io.EOF" Rows.laid_io_EOF) : ∃ a, W.cell? ⟨0, 0, none⟩ = some (.iface 177 (.pointer (some a))) := by
  obtain ⟨g, t, cs, fuel, p, hg', hty', hvar, hd⟩ := h
  have hg : Tryd.prog.globalNamed "io.EOF" = some 0 := by kernel_rfl
  obtain rfl := Option.some.inj (hg.symm.trans hg')
  cases fuel with
  | zero => simp [DataW.trod] at hd
  | succ fuel =>
    have hty : (Tryd.prog.globals[0]?).map (·.type) = some 136 := by kernel_rfl
    obtain rfl := Option.some.inj (hty.symm.trans hty')
    have hul := Tryd.underlying136
    have key : ∃ u v, cs.toList = [.iface u v] ∧ ∃ name x, Tryd.prog.typeName? 3 u = some name ∧ DataW.trod (fun _ => ()) Tryd.prog W 0 (fun _ => true) false fuel u v.cells.toList = some x ∧ (DataW.iface name x.1, x.2) = ((Rows.laid_io_EOF : DataW Unit), p) := by
      rcases hl : cs.toList with _ | ⟨v, _ | ⟨v2, l⟩⟩
      · rw [hl] at hd; simp [DataW.trod, hul] at hd
      · rw [hl] at hd
        cases v with
        | iface u v =>
          simp only [DataW.trod, hul] at hd
          cases hn : Tryd.prog.typeName? 3 u with
          | none => rw [hn] at hd; simp at hd
          | some name =>
            rw [hn] at hd
            simp only at hd
            obtain ⟨x, hx, he⟩ := Option.map_eq_some_iff.1 hd
            exact ⟨u, v, rfl, name, x, hn, hx, he⟩
        | nilIface => simp only [DataW.trod, hul] at hd; injection hd with hd; injection hd with hd _; cases hd
        | _ => simp [DataW.trod, hul] at hd
      · rw [hl] at hd
        cases v <;> simp [DataW.trod, hul] at hd
    obtain ⟨u, v, hcs, name, x, hn, hx, he⟩ := key
    injection he with he1 _
    unfold Rows.laid_io_EOF at he1
    injection he1 with he1 he2
    subst he1
    have hu : u = 177 := row177 u hn
    subst hu
    have hc := World.var?_cell hg hvar 0
    have hc0 : W.cell? ⟨0, 0, none⟩ = some (.iface 177 v) := by
      rw [hc, ← Array.getElem?_toList, hcs]; rfl
    have hkk := hok _ _ hc0
    rcases DataW.trod_pointer Tryd.underlying177 hx with ⟨_, hy⟩ | ⟨a, cs', y, n, _, hv, _⟩
    · rw [hy] at he2; cases he2
    · refine ⟨a, ?_⟩
      cases v with
      | pointer q =>
        simp [Value.cells] at hv
        rw [hc0, hv]
      | agg cells =>
        unfold Value.okWide at hkk
        simp only [Tryd.underlying177] at hkk
        unfold Cell.okWide at hkk
        simp [Tryd.underlying177] at hkk
        unfold Cell.ok at hkk
        simp [Tryd.underlying177] at hkk
      | _ => simp [Value.cells] at hv
end Go.Proofs.YtmfihkgbfoapaaaDoor
namespace Go.Proofs.YtmfihkgbfoapaaaDoor
open Go Go.RowKit Go.Lib Go.Shelf Go.ChangeShapes Go.WideShapes Go.ChangeAt
end Go.Proofs.YtmfihkgbfoapaaaDoor
namespace Go.Proofs.YtmfihkgbfoapaaaDoor
open Go Go.RowKit Go.Lib Go.Shelf Go.ChangeShapes Go.WideShapes Go.ChangeAt
theorem tabIs_below {w w' : World} {name : String} {k : IntKind} {zs : List Int} (g : Nat) (hg : Tryd.prog.globalNamed name = some g) (hlt : g < w.heap.size) (h : Lib.TabIs Tryd.prog w name k zs) (hb : Below w.heap.size w w') : Lib.TabIs Tryd.prog w' name k zs := by
  unfold Lib.TabIs World.var? at h ⊢
  rw [hg] at h ⊢
  simp only [Option.bind_some] at h ⊢
  rw [hb.block g hlt]; exact h
theorem var_lt {w : World} {name : String} {g : Nat} {cs : Array Value} (hg : Tryd.prog.globalNamed name = some g) (h : w.var? Tryd.prog name = some cs) : g < w.heap.size := by
  unfold World.var? at h
  rw [hg] at h
  simp only [Option.bind_some] at h
  rcases Nat.lt_or_ge g w.heap.size with h1 | h1
  · exact h1
  · rw [Array.getElem?_eq_none h1] at h; cases h
set_option maxRecDepth 100000 in
theorem vars_of {W : World} (hB : 8 ≤ W.heap.size) (hL : laidMet Tryd.prog Rows.fnDefaultRow.laid W) : Vars W.heap.size W := by
  have r1 := Lib.laidMet.reads hL (n := "unicode/utf8.acceptRanges") (.head _)
  have r2 := Lib.laidMet.reads hL (n := "io.EOF") (.tail _ (.head _))
  have r3 := Lib.laidMet.reads hL (n := "unicode.properties") (.tail _ (.tail _ (.head _)))
  have r5 := Lib.laidMet.reads hL (n := "unicode.Digit") (.tail _ (.tail _ (.tail _ (.tail _ (.head _)))))
  have r6 := Lib.laidMet.reads hL (n := "unicode.Letter") (.tail _ (.tail _ (.tail _ (.tail _ (.tail _ (.head _))))))
  have r7 := Lib.laidMet.reads hL (n := "unicode/utf8.first") (.tail _ (.tail _ (.tail _ (.tail _ (.tail _ (.tail _ (.head _)))))))
  have hp := props_of r3
  refine ⟨utf8_of r7 r1, eof_of ?_ r2, hB, ⟨fun w hb => ?_, fun w hb => RVar_below (letter_of r6) hb, fun w hb => RVar_below (digit_of r5) hb⟩⟩
  · obtain ⟨ps, hv, _, hc⟩ := hL
    intro u v huv
    refine (hc 0 0 ?_).2 u v huv
    obtain ⟨g1, t1, cs1, fu1, p1, q1, -, -, -, -, hv, rfl⟩ := hv
    obtain ⟨g2, t2, cs2, fu2, p2, q2, hg2, ht2, hvar2, hd2, -, rfl⟩ := hv
    have hg : Tryd.prog.globalNamed "io.EOF" = some 0 := by kernel_rfl
    obtain rfl := Option.some.inj (hg.symm.trans hg2)
    have hc0 := World.var?_cell hg hvar2 0
    rw [huv] at hc0
    have hsz : 0 < cs2.size := (Array.getElem?_eq_some_iff.1 hc0.symm).1
    refine List.mem_append_right _ (List.mem_append_left _ (List.mem_append_left _ ?_))
    simp only [MemPlace.row, List.mem_map, List.mem_range]
    exact ⟨0, hsz, rfl⟩
  · exact tabIs_below 4 (by kernel_rfl) (var_lt (by kernel_rfl) hp) hp hb
end Go.Proofs.YtmfihkgbfoapaaaDoor
namespace Go.Proofs.YtmfihkgbfoapaaaDoor
open Go Go.RowKit Go.Lib Go.Shelf Go.ChangeShapes Go.WideShapes Go.ChangeAt
def NoSlice (cs : Array Value) : Prop := ∀ (i : Nat) (a : Option Addr) (n k : Nat), cs[i]? ≠ some (.slice a n k)
theorem noSlice_one {cs : Array Value} {v : Value} (h : cs.toList = [v]) (hv : ∀ a n k, v ≠ .slice a n k) : NoSlice cs := by
  intro i a n k hi
  rw [← Array.getElem?_toList, h] at hi
  match i, hi with
  | 0, hi => exact hv a n k (Option.some.inj hi)
theorem noSlice_ints {cs : Array Value} {kd : IntKind} {zs : List Int} (h : cs = (zs.map fun z => Value.int kd z).toArray) : NoSlice cs := by
  intro i a n k hi
  rw [h, ← Array.getElem?_toList] at hi
  simp only [List.getElem?_map] at hi
  obtain ⟨z, _, e⟩ := Option.map_eq_some_iff.1 hi
  cases e
theorem iface_noSlice {W : World} {n : String} {g : Nat} {d : DataW Unit} (hg : Tryd.prog.globalNamed n = some g) (hty : (Tryd.prog.globals[g]?).map (·.type) = some 136) (h : VarReads Tryd.prog W n d) : ∃ cs, W.var? Tryd.prog n = some cs ∧ NoSlice cs := by
  obtain ⟨g', t, cs, fuel, p, hg', hty', hvar, hd⟩ := h
  obtain rfl := Option.some.inj (hg.symm.trans hg')
  obtain rfl := Option.some.inj (hty.symm.trans hty')
  refine ⟨cs, hvar, ?_⟩
  have hul := Tryd.underlying136
  cases fuel with
  | zero => simp [DataW.trod] at hd
  | succ fuel =>
    rcases hl : cs.toList with _ | ⟨v, _ | ⟨v2, l⟩⟩
    · rw [hl] at hd; simp [DataW.trod, hul] at hd
    · refine noSlice_one hl fun a n k e => ?_
      subst e
      rw [hl] at hd; simp [DataW.trod, hul] at hd
    · rw [hl] at hd
      cases v <;> simp [DataW.trod, hul] at hd
theorem ptr_noSlice {W : World} {n : String} {g t e : Nat} {d : DataW Unit} (hg : Tryd.prog.globalNamed n = some g) (hty : (Tryd.prog.globals[g]?).map (·.type) = some t) (ht : Tryd.prog.underlying t = some (.pointer e)) (h : VarReads Tryd.prog W n d) : ∃ cs, W.var? Tryd.prog n = some cs ∧ NoSlice cs := by
  obtain ⟨g', t', cs, fuel, p, hg', hty', hvar, hd⟩ := h
  obtain rfl := Option.some.inj (hg.symm.trans hg')
  obtain rfl := Option.some.inj (hty.symm.trans hty')
  refine ⟨cs, hvar, ?_⟩
  rcases DataW.trod_pointer ht hd with ⟨hc, _⟩ | ⟨a, _, _, _, _, hc, _⟩
  · exact noSlice_one hc fun a n k e => by cases e
  · exact noSlice_one hc fun a n k e => by cases e
theorem tab_noSlice {W : World} {n : String} {zs : List Int} (h : Lib.TabIs Tryd.prog W n .u8 zs) : ∃ cs, W.var? Tryd.prog n = some cs ∧ NoSlice cs := ⟨_, h, noSlice_ints rfl⟩
theorem first_tab {W : World} (h : VarReads Tryd.prog W "unicode/utf8.first" Pinned.utf8First) : Lib.TabIs Tryd.prog W "unicode/utf8.first" .u8 firstTab := by
  rw [Pinned.utf8First_eq] at h
  obtain ⟨g', t', cs, fuel, p, hg', ht', hvar, hd⟩ := h
  have hg : Tryd.prog.globalNamed "unicode/utf8.first" = some 2 := by kernel_rfl
  obtain rfl := Option.some.inj (hg.symm.trans hg')
  have hty : (Tryd.prog.globals[2]?).map (·.type) = some 157 := by kernel_rfl
  obtain rfl := Option.some.inj (hty.symm.trans ht')
  unfold Lib.TabIs
  rw [hvar, ← cells_of_tab Tryd.underlying157 Tryd.underlying5 (by kernel_rfl) (by kernel_rfl) hd]
set_option maxRecDepth 100000 in
theorem accept_noSlice {W : World} (h4 : VarReads Tryd.prog W "unicode/utf8.acceptRanges" Rows.laid_unicode_utf8_acceptRanges) (hu : Utf8Tabs 2 3 W) : ∃ cs, W.var? Tryd.prog "unicode/utf8.acceptRanges" = some cs ∧ NoSlice cs := by
  obtain ⟨g', t', cs, fuel, p, hg', ht', hvar, hd⟩ := h4
  have hg : Tryd.prog.globalNamed "unicode/utf8.acceptRanges" = some 3 := by kernel_rfl
  obtain rfl := Option.some.inj (hg.symm.trans hg')
  have hty : (Tryd.prog.globals[3]?).map (·.type) = some 160 := by kernel_rfl
  obtain rfl := Option.some.inj (hty.symm.trans ht')
  refine ⟨cs, hvar, ?_⟩
  have hul := Tryd.underlying160
  cases fuel with
  | zero => simp [DataW.trod] at hd
  | succ fuel =>
    simp only [DataW.trod, hul] at hd
    split at hd
    · rename_i hlen
      rw [show Tryd.prog.cellsOf 160 = 32 by kernel_rfl] at hlen
      intro i a n k hi
      have hc := World.var?_cell hg hvar i
      rw [hi] at hc
      have hi32 : i < 32 := by
        have := (Array.getElem?_eq_some_iff.1 hi).1
        rw [← hlen]; simpa using this
      have hd2 : i / 2 < 16 := by omega
      rcases Nat.mod_two_eq_zero_or_one i with h0 | h0
      · have h := (hu.2 (i / 2) hd2).1
        rw [show 2 * (i / 2) = i by omega, hc] at h
        exact nomatch h
      · have h := (hu.2 (i / 2) hd2).2
        rw [show 2 * (i / 2) + 1 = i by omega, hc] at h
        exact nomatch h
    · cases hd
theorem lt_size {W : World} {a : Addr} {v : Value} (h : W.cell? a = some v) : a.block < W.heap.size := by
  false_or_by_contra
  rename_i hn
  have hs : W.heap[a.block]? = none := Array.getElem?_eq_none (by omega)
  simp [World.cell?, hs] at h
theorem no_slice_at {W : World} {n : String} {g : Nat} (hg : Tryd.prog.globalNamed n = some g) (h : ∃ cs, W.var? Tryd.prog n = some cs ∧ NoSlice cs) (i : Nat) (a : Option Addr) (m k : Nat) : W.cell? ⟨g, i, none⟩ ≠ some (.slice a m k) := by
  obtain ⟨cs, hv, hn⟩ := h
  rw [World.var?_cell hg hv]
  exact hn i a m k
set_option maxRecDepth 100000 in
theorem size8 {W : World} (hL : laidMet Tryd.prog Rows.fnDefaultRow.laid W) : 8 ≤ W.heap.size := by
  have r1 := Lib.laidMet.reads hL (n := "unicode/utf8.acceptRanges") (.head _)
  have r2 := Lib.laidMet.reads hL (n := "io.EOF") (.tail _ (.head _))
  have r3 := Lib.laidMet.reads hL (n := "unicode.properties") (.tail _ (.tail _ (.head _)))
  have r4 := Lib.laidMet.reads hL (n := "bytes.ErrTooLarge") (.tail _ (.tail _ (.tail _ (.head _))))
  have r5 := Lib.laidMet.reads hL (n := "unicode.Digit") (.tail _ (.tail _ (.tail _ (.tail _ (.head _)))))
  have r6 := Lib.laidMet.reads hL (n := "unicode.Letter") (.tail _ (.tail _ (.tail _ (.tail _ (.tail _ (.head _))))))
  have r7 := Lib.laidMet.reads hL (n := "unicode/utf8.first") (.tail _ (.tail _ (.tail _ (.tail _ (.tail _ (.tail _ (.head _)))))))
  have n0 := no_slice_at (g := 0) (by kernel_rfl) (iface_noSlice (g := 0) (by kernel_rfl) (by kernel_rfl) r2)
  have n1 := no_slice_at (g := 1) (by kernel_rfl) (ptr_noSlice (g := 1) (by kernel_rfl) (by kernel_rfl) Tryd.underlying153 r5)
  have n2 := no_slice_at (g := 2) (by kernel_rfl) (tab_noSlice (first_tab r7))
  have n3 := no_slice_at (g := 3) (by kernel_rfl) (accept_noSlice r1 (utf8_of r7 r1))
  have n4 := no_slice_at (g := 4) (by kernel_rfl) (tab_noSlice (props_of r3))
  have n5 := no_slice_at (g := 5) (by kernel_rfl) (ptr_noSlice (g := 5) (by kernel_rfl) (by kernel_rfl) Tryd.underlying153 r6)
  have n6 := no_slice_at (g := 6) (by kernel_rfl) (iface_noSlice (g := 6) (by kernel_rfl) (by kernel_rfl) r4)
  obtain ⟨Tb, oT, -, a16, a32, _, _, _, _, _, _, hc, -⟩ := letter_of r6
  have hlt := lt_size hc
  rcases Nat.lt_or_ge Tb 7 with h7 | h7
  · exfalso
    match Tb, h7, hc with
    | 0, _, hc => exact n0 _ _ _ _ hc
    | 1, _, hc => exact n1 _ _ _ _ hc
    | 2, _, hc => exact n2 _ _ _ _ hc
    | 3, _, hc => exact n3 _ _ _ _ hc
    | 4, _, hc => exact n4 _ _ _ _ hc
    | 5, _, hc => exact n5 _ _ _ _ hc
    | 6, _, hc => exact n6 _ _ _ _ hc
  · simp only at hlt; omega
end Go.Proofs.YtmfihkgbfoapaaaDoor
