/- Own texts D4 of this claim, cut to what the claim uses. -/
import Derived.Test.YtmfihkgbfoapaaaDoorZD3
namespace Go.Proofs.YtmfihkgbfoapaaaDoor
open Go Go.RowKit Go.Lib Go.BigFrame
structure Loc (E : Env) (p : Nat) (w : World) (v : Value) (t : TypeId) : Prop where
  at_ : w.heap[p]? = some (.cells #[v] t (0, 0))
  young : E.w0.heap.size ≤ p
  B : E.B ≤ p
  ne5 : t ≠ 5
  nb : p ≠ E.b
  nR : p ≠ E.bR
  nC : p ≠ E.bC
  nE : p ≠ E.bE
theorem Loc.keep {E : Env} {p : Nat} {w w' : World} {v : Value} {t : TypeId} (h : Loc E p w v t) (k : Keep E w w') : Loc E p w' v t :=
  ⟨k.2 p _ h.at_ h.nb h.nR h.nC (by intro c fz e; cases e; exact h.ne5 rfl), h.young, h.B, h.ne5, h.nb, h.nR, h.nC, h.nE⟩
theorem Loc.cell {E : Env} {p : Nat} {w : World} {v : Value} {t : TypeId} (h : Loc E p w v t) : w.cell? ⟨p, 0, none⟩ = some v := by rw [cell_of_heap h.at_]; rfl
theorem Raw.set_loc {E : Env} {w : World} {r : Regs} {p : Nat} {v : Value} {t : TypeId} (h : Raw E w r) (k : Loc E p w v t) (x : Value) : Raw E (w.setCell ⟨p, 0, none⟩ x) r := by
  have hBp := k.B
  have hlow : ∀ j, j < E.B → (w.setCell ⟨p, 0, none⟩ x).heap[j]? = w.heap[j]? := fun j hj => Below.heap_setCell _ _ _ _ (by show j ≠ p; omega)
  refine ⟨?_, h.blen, h.rd.of ?_ hlow rfl rfl, ?_, ?_, h.BR, h.BC, h.szs.of hlow, ?_⟩
  · obtain ⟨hB, v, lr, hbk, hown, hne⟩ := h.buf
    refine ⟨hB, v, lr, hbk.of_heap (Below.heap_setCell _ _ _ _ (Ne.symm k.nb)), ⟨hown.1, ?_⟩, hne⟩
    rcases hown.2 with hn | ⟨g, cap, cur, hv, hbg, hg, rest⟩
    · exact .inl hn
    · refine .inr ⟨g, cap, cur, hv, hbg, ?_, rest⟩
      rw [Below.heap_setCell]
      · exact hg
      · intro e
        have h1 := k.at_
        have e1 : g = p := e
        rw [← e1, hg] at h1
        have h2 : t = 5 := by injection h1 with h1; injection h1 with _ h3 _; exact h3.symm
        exact k.ne5 h2
  · exact Below.heap_setCell _ _ _ _ (Ne.symm k.nR)
  · rw [Below.heap_setCell _ _ _ _ (Ne.symm k.nC)]; exact h.cnt
  · rw [Below.heap_setCell _ _ _ _ (Ne.symm k.nE)]; exact h.cap
  · exact ⟨h.fr.1.setCell hBp x, fun i o h0 hb hr hc ho => by
      have hi : i < E.w0.heap.size := (Array.getElem?_eq_some_iff.1 h0).1
      rw [Below.heap_setCell _ _ _ _ (by show i ≠ p; have := k.young; omega)]; exact h.fr.2 i o h0 hb hr hc ho⟩
theorem Loc.frozen {E : Env} {p : Nat} {w : World} {v : Value} {t : TypeId} (h : Loc E p w v t) : w.frozen? ⟨p, 0, none⟩ = false := by
  unfold World.frozen?; rw [h.at_]; rfl
theorem Loc.set {E : Env} {p : Nat} {w : World} {v : Value} {t : TypeId} (h : Loc E p w v t) (x : Value) : Loc E p (w.setCell ⟨p, 0, none⟩ x) x t :=
  ⟨Go.Lib.heap_setCell_same (i := 0) h.at_ _, h.young, h.B, h.ne5, h.nb, h.nR, h.nC, h.nE⟩
structure Sn (E : Env) (src : List UInt8) (w : World) (l : List Item) (x : Sx) (p : Nat) (v : Int) : Prop where
  sl : Sl E src w l x
  loc : Loc E p w (.int .i32 v) 21
theorem Sn.set {E : Env} {src : List UInt8} {w : World} {l : List Item} {x : Sx} {p : Nat} {v : Int} (h : Sn E src w l x p v) (y : Int) : Sn E src (w.setCell ⟨p, 0, none⟩ (.int .i32 y)) l x p y := by
  obtain ⟨⟨pre, r, hR, hd⟩, k⟩ := h
  exact ⟨⟨pre, r, hR.set_loc k _, hd⟩, k.set _⟩
theorem Sn.of {E : Env} {src : List UInt8} {w w' : World} {l l' : List Item} {x x' : Sx} {p : Nat} {v : Int} (h : Sn E src w l x p v) (k : Sl (E.at w) src w' l' x') : Sn E src w' l' x' p v :=
  ⟨k.unbase h.sl.frame, h.loc.keep k.keep⟩
theorem next_sn (E : Env) (src : List UInt8) (w : World) (l : List Item) (x : Sx) (p : Nat) (v : Int) (h : Sn E src w l x p v) (gl : Glob E) (hlen : Fits src) :
    Calls Tryd.prog 67 #[.pointer (some ⟨E.b, 0, none⟩)] w fun e w' => e = .returned (.int .i32 (chOf l.tail)) ∧ Sn E src w' l.tail x p v :=
  (next_sl (E.at w) src w l x h.sl.rebase (h.sl.glob gl) hlen).mono fun _ _ ⟨he, k⟩ => ⟨he, h.of k⟩
theorem error_sn (E : Env) (src : List UInt8) (w : World) (l : List Item) (x : Sx) (p : Nat) (v : Int) (msg : ByteArray) (h : Sn E src w l x p v) :
    Calls Tryd.prog 90 #[.pointer (some ⟨E.b, 0, none⟩), .string msg] w fun e w' => e = .returned (.tuple #[]) ∧ Sn E src w' l x.err p v :=
  (error_sl (E.at w) src w l x msg h.sl.rebase).mono fun _ _ ⟨he, k⟩ => ⟨he, h.of k⟩
theorem errorf_sn (E : Env) (src : List UInt8) (w : World) (l : List Item) (x : Sx) (p : Nat) (v : Int) (msg : ByteArray) (h : Sn E src w l x p v) :
    Calls Tryd.prog 96 #[.pointer (some ⟨E.b, 0, none⟩), .string msg] w fun e w' => e = .returned (.tuple #[]) ∧ Sn E src w' l x.err p v :=
  (errorf_sl (E.at w) src w l x msg h.sl.rebase).mono fun _ _ ⟨he, k⟩ => ⟨he, h.of k⟩
def dsOf (d u : Bool) : Int := (if d = true then 1 else 0) + (if u = true then 2 else 0)
theorem or_one (d u : Bool) : bits .or .i64 (dsOf d u) 1 = dsOf true u := by cases d <;> cases u <;> kernel_rfl
theorem or_two (d u : Bool) : bits .or .i64 (dsOf d u) 2 = dsOf d true := by cases d <;> cases u <;> kernel_rfl
def digs (p : Int → Bool) (m : Int) : List Item → Int → Bool → Bool → List Item × Int × Bool × Bool
  | [], inv, d, u => ([], inv, d, u)
  | c :: l, inv, d, u => if (c.r : Int) = 95 then digs p m l inv d true else if p c.r = true then digs p m l (if m ≤ (c.r : Int) ∧ inv = 0 then (c.r : Int) else inv) true u else (c :: l, inv, d, u)
theorem digs_sep {p : Int → Bool} {m : Int} {l : List Item} {inv : Int} {d u : Bool} (h : chOf l = 95) : digs p m l inv d u = digs p m l.tail inv d true ∧ l.tail.length < l.length := by
  cases l with
  | nil => rw [chOf_nil] at h; omega
  | cons c l => exact ⟨by rw [digs, if_pos (by exact h)]; rfl, by simp⟩
theorem digs_dig {p : Int → Bool} {m : Int} {l : List Item} {inv : Int} {d u : Bool} (he : p (-1) = false) (h : chOf l ≠ 95) (h1 : p (chOf l) = true) :
    digs p m l inv d u = digs p m l.tail (if m ≤ chOf l ∧ inv = 0 then chOf l else inv) true u ∧ l.tail.length < l.length := by
  cases l with
  | nil => rw [chOf_nil, he] at h1; cases h1
  | cons c l => exact ⟨by rw [digs, if_neg (by exact h), if_pos (by exact h1)]; rfl, by simp⟩
theorem digs_stop {p : Int → Bool} {m : Int} {l : List Item} {inv : Int} {d u : Bool} (h : chOf l ≠ 95) (h1 : p (chOf l) = false) : digs p m l inv d u = (l, inv, d, u) := by
  cases l with
  | nil => rfl
  | cons c l => rw [digs, if_neg (by exact h), if_neg]; rw [show p c.r = false from h1]; simp
set_option maxRecDepth 100000 in
set_option maxHeartbeats 800000 in
theorem digits_dec (E : Env) (src : List UInt8) (w : World) (l : List Item) (x : Sx) (p : Nat) (v : Int) (b : Int) (hb : 2 ≤ b ∧ b ≤ 10) (h : Sn E src w l x p v) (gl : Glob E) (hlen : Fits src) :
    Calls Tryd.prog 94 #[.pointer (some ⟨E.b, 0, none⟩), .int .i32 (chOf l), .int .i64 b, .pointer (some ⟨p, 0, none⟩)] w fun e w' =>
      e = .returned (.tuple #[.int .i32 (chOf (digs isDec (48 + b) l v false false).1), .int .i64 (dsOf (digs isDec (48 + b) l v false false).2.2.1 (digs isDec (48 + b) l v false false).2.2.2)]) ∧
      Sn E src w' (digs isDec (48 + b) l v false false).1 x p (digs isDec (48 + b) l v false false).2.1 := by
  have H := Lib.hid h
  clear h
  go_enter Tryd.func94, Tryd.ntmps94
  go_wp2_with (fail)
  go_loopg [8, 9] l.length (fun k ch ds wr => ∃ (l1 : List Item) (d u : Bool) (inv : Int), l1.length ≤ k ∧ ch = .int .i32 (chOf l1) ∧ ds = .int .i64 (dsOf d u) ∧ Sn E src wr l1 x p inv ∧
    digs isDec (48 + b) l1 inv d u = digs isDec (48 + b) l v false false)
  case atStart => exact ⟨l, false, false, v, Nat.le_refl _, rfl, rfl, H.out, rfl⟩
  case round =>
    obtain ⟨l1, d, u, inv, hk, rfl, rfl, hs, hm⟩ := hrel
    clear H
    have HM := Lib.hid hm
    have HK := Lib.hid hk
    have H := Lib.hid hs
    have hc1 := hs.loc.cell
    have hc2 := hs.loc.frozen
    have or1 := or_one d u
    have or2 := or_two d u
    clear hm hs hk
    go_wp2_with (first
      | (go_at_call 71; refine (isDecimal_spec _ _).mono ?_; rintro e w' ⟨rfl, rfl⟩)
      | (go_at_call 67; refine (next_sn E src _ _ _ _ _ H.out gl hlen).mono ?_; clear H; rintro e w' ⟨rfl, h'⟩; have H := Lib.hid h'; clear h')
      | (go_at_call 67; refine (next_sn E src _ _ _ _ _ (H.out.set _) gl hlen).mono ?_; clear H; rintro e w' ⟨rfl, h'⟩; have H := Lib.hid h'; clear h'))
    · have hm := HM.out
      have hk := HK.out
      have hh := H.out
      have h6 := digs_sep (p := isDec) (m := 48 + b) (inv := inv) (d := d) (u := u) (by simpa using ‹(chOf l1 == 95) = true›)
      rw [h6.1] at hm
      go_roundg (gk - 1)
      case measure => omega
      case rel => exact ⟨l1.tail, _, _, inv, by omega, rfl, rfl, hh, hm⟩
    · have hm := HM.out
      have hk := HK.out
      have hh := H.out
      have h6 := digs_dig (p := isDec) (m := 48 + b) (inv := inv) (d := d) (u := u) (l := l1) (by decide) (by simpa using ‹(chOf l1 == 95) = false›) (by assumption)
      rw [h6.1, if_pos ⟨by assumption, by simpa using ‹(inv == 0) = true›⟩] at hm
      go_roundg (gk - 1)
      case measure => omega
      case rel => exact ⟨l1.tail, _, _, _, by omega, rfl, rfl, hh, hm⟩
    · have hm := HM.out
      have hk := HK.out
      have hh := H.out
      have h6 := digs_dig (p := isDec) (m := 48 + b) (inv := inv) (d := d) (u := u) (l := l1) (by decide) (by simpa using ‹(chOf l1 == 95) = false›) (by assumption)
      have h7 : inv ≠ 0 := by simpa using ‹(inv == 0) = false›
      rw [h6.1, if_neg (fun h => h7 h.2)] at hm
      go_roundg (gk - 1)
      case measure => omega
      case rel => exact ⟨l1.tail, _, _, _, by omega, rfl, rfl, hh, hm⟩
    · have hm := HM.out
      have hk := HK.out
      have hh := H.out
      have h6 := digs_dig (p := isDec) (m := 48 + b) (inv := inv) (d := d) (u := u) (l := l1) (by decide) (by simpa using ‹(chOf l1 == 95) = false›) (by assumption)
      rw [h6.1, if_neg (by omega)] at hm
      go_roundg (gk - 1)
      case measure => omega
      case rel => exact ⟨l1.tail, _, _, _, by omega, rfl, rfl, hh, hm⟩
    · have hm := HM.out
      have hk := HK.out
      have hh := H.out
      have h6 := digs_sep (p := isDec) (m := 48 + b) (inv := inv) (d := d) (u := u) (by simpa using ‹(chOf l1 == 95) = true›)
      rw [h6.1] at hm
      go_roundg (gk - 1)
      case measure => omega
      case rel => exact ⟨l1.tail, _, _, inv, by omega, rfl, rfl, hh, hm⟩
    · have hm := HM.out
      rw [digs_stop (by simpa using ‹(chOf l1 == 95) = false›) (by simpa using ‹¬isDec (chOf l1) = true›)] at hm
      go_ret2
      rw [← hm]
      exact ⟨rfl, H.out⟩
set_option maxRecDepth 100000 in
set_option maxHeartbeats 800000 in
theorem digits_nil (E : Env) (src : List UInt8) (w : World) (l : List Item) (x : Sx) (h : Sl E src w l x) (gl : Glob E) (hlen : Fits src) :
    Calls Tryd.prog 94 #[.pointer (some ⟨E.b, 0, none⟩), .int .i32 (chOf l), .int .i64 10, .pointer none] w fun e w' =>
      e = .returned (.tuple #[.int .i32 (chOf (digs isDec 58 l 0 false false).1), .int .i64 (dsOf (digs isDec 58 l 0 false false).2.2.1 (digs isDec 58 l 0 false false).2.2.2)]) ∧
      Sl E src w' (digs isDec 58 l 0 false false).1 x := by
  have H := Lib.hid h
  clear h
  go_enter Tryd.func94, Tryd.ntmps94
  go_wp2_with (fail)
  go_loopg [8, 9] l.length (fun k ch ds wr => ∃ (l1 : List Item) (d u : Bool), l1.length ≤ k ∧ ch = .int .i32 (chOf l1) ∧ ds = .int .i64 (dsOf d u) ∧ Sl E src wr l1 x ∧
    digs isDec 58 l1 0 d u = digs isDec 58 l 0 false false)
  case atStart => exact ⟨l, false, false, Nat.le_refl _, rfl, rfl, H.out, rfl⟩
  case round =>
    obtain ⟨l1, d, u, hk, rfl, rfl, hs, hm⟩ := hrel
    clear H
    have HM := Lib.hid hm
    have HK := Lib.hid hk
    have H := Lib.hid hs
    have or1 := or_one d u
    have or2 := or_two d u
    clear hm hs hk
    by_cases hd : isDec (chOf l1) = true
    · have hlt : chOf l1 < 58 := by unfold isDec at hd; simp only [Bool.and_eq_true, decide_eq_true_eq] at hd; omega
      have hn95 : (chOf l1 == 95) = false := beq_eq_false_iff_ne.2 (by omega)
      have h6 := digs_dig (p := isDec) (m := 58) (inv := 0) (d := d) (u := u) (l := l1) (by decide) (by omega) hd
      rw [if_neg (by omega)] at h6
      have H6 := Lib.hid h6
      clear h6
      go_wp2_with (first
        | (go_at_call 71; refine (isDecimal_spec _ _).mono ?_; rintro e w' ⟨rfl, rfl⟩)
        | (go_at_call 67; refine (next_sl E src _ _ _ H.out gl hlen).mono ?_; clear H; rintro e w' ⟨rfl, h'⟩; have H := Lib.hid h'; clear h'))
      have hm := HM.out
      have hk := HK.out
      have hh := H.out
      rw [H6.out.1] at hm
      have h7 := H6.out.2
      go_roundg (gk - 1)
      case measure => omega
      case rel => exact ⟨l1.tail, _, _, by omega, rfl, rfl, hh, hm⟩
    · go_wp2_with (first
        | (go_at_call 71; refine (isDecimal_spec _ _).mono ?_; rintro e w' ⟨rfl, rfl⟩)
        | (go_at_call 67; refine (next_sl E src _ _ _ H.out gl hlen).mono ?_; clear H; rintro e w' ⟨rfl, h'⟩; have H := Lib.hid h'; clear h'))
      · have hm := HM.out
        have hk := HK.out
        have hh := H.out
        have h6 := digs_sep (p := isDec) (m := 58) (inv := 0) (d := d) (u := u) (by simpa using ‹(chOf l1 == 95) = true›)
        rw [h6.1] at hm
        go_roundg (gk - 1)
        case measure => omega
        case rel => exact ⟨l1.tail, _, _, by omega, rfl, rfl, hh, hm⟩
      · have hm := HM.out
        rw [digs_stop (by simpa using ‹(chOf l1 == 95) = false›) (by simpa using hd)] at hm
        go_ret2
        rw [← hm]
        exact ⟨rfl, H.out⟩
theorem isHexa_end : isHexa (-1) = false := by kernel_rfl
set_option maxRecDepth 100000 in
set_option maxHeartbeats 800000 in
theorem digits_hex (E : Env) (src : List UInt8) (w : World) (l : List Item) (x : Sx) (q : Value) (v : Int) (h : Sl E src w l x) (gl : Glob E) (hlen : Fits src) :
    Calls Tryd.prog 94 #[.pointer (some ⟨E.b, 0, none⟩), .int .i32 (chOf l), .int .i64 16, q] w fun e w' =>
      e = .returned (.tuple #[.int .i32 (chOf (digs isHexa 2147483648 l v false false).1), .int .i64 (dsOf (digs isHexa 2147483648 l v false false).2.2.1 (digs isHexa 2147483648 l v false false).2.2.2)]) ∧
      Sl E src w' (digs isHexa 2147483648 l v false false).1 x ∧ (digs isHexa 2147483648 l v false false).2.1 = v := by
  have H := Lib.hid h
  clear h
  go_enter Tryd.func94, Tryd.ntmps94
  go_wp2_with (fail)
  go_loopg [8, 9] l.length (fun k ch ds wr => ∃ (l1 : List Item) (d u : Bool), l1.length ≤ k ∧ ch = .int .i32 (chOf l1) ∧ ds = .int .i64 (dsOf d u) ∧ Sl E src wr l1 x ∧
    digs isHexa 2147483648 l1 v d u = digs isHexa 2147483648 l v false false)
  case atStart => exact ⟨l, false, false, Nat.le_refl _, rfl, rfl, H.out, rfl⟩
  case round =>
    obtain ⟨l1, d, u, hk, rfl, rfl, hs, hm⟩ := hrel
    clear H
    have hr := hs.range
    have HM := Lib.hid hm
    have HK := Lib.hid hk
    have HR := Lib.hid hr
    have H := Lib.hid hs
    have or1 := or_one d u
    have or2 := or_two d u
    clear hm hs hk hr
    go_wp2_with (first
      | (go_at_call 108; refine (isHex_spec _ _).mono ?_; rintro e w' ⟨rfl, rfl⟩)
      | (go_at_call 67; refine (next_sl E src _ _ _ H.out gl hlen).mono ?_; clear H; rintro e w' ⟨rfl, h'⟩; have H := Lib.hid h'; clear h'))
    · have hm := HM.out
      have hk := HK.out
      have hh := H.out
      have h6 := digs_sep (p := isHexa) (m := 2147483648) (inv := v) (d := d) (u := u) (by simpa using ‹(chOf l1 == 95) = true›)
      rw [h6.1] at hm
      go_roundg (gk - 1)
      case measure => omega
      case rel => exact ⟨l1.tail, _, _, by omega, rfl, rfl, hh, hm⟩
    · have hm := HM.out
      have hk := HK.out
      have hh := H.out
      have hr := HR.out
      have h6 := digs_dig (p := isHexa) (m := 2147483648) (inv := v) (d := d) (u := u) (l := l1) isHexa_end (by simpa using ‹(chOf l1 == 95) = false›) (by assumption)
      rw [h6.1, if_neg (by omega)] at hm
      go_roundg (gk - 1)
      case measure => omega
      case rel => exact ⟨l1.tail, _, _, by omega, rfl, rfl, hh, hm⟩
    · have hm := HM.out
      have hk := HK.out
      have hh := H.out
      have h6 := digs_sep (p := isHexa) (m := 2147483648) (inv := v) (d := d) (u := u) (by simpa using ‹(chOf l1 == 95) = true›)
      rw [h6.1] at hm
      go_roundg (gk - 1)
      case measure => omega
      case rel => exact ⟨l1.tail, _, _, by omega, rfl, rfl, hh, hm⟩
    · have hm := HM.out
      rw [digs_stop (by simpa using ‹(chOf l1 == 95) = false›) (by simpa using ‹¬isHexa (chOf l1) = true›)] at hm
      go_ret2
      rw [← hm]
      exact ⟨rfl, H.out, rfl⟩
def dg (b : Int) (l : List Item) (inv : Int) : List Item × Int × Bool × Bool := if b = 16 then digs isHexa 2147483648 l inv false false else digs isDec (48 + b) l inv false false
theorem digits_sn (E : Env) (src : List UInt8) (w : World) (l : List Item) (x : Sx) (p : Nat) (v : Int) (b : Int) (hb : b = 16 ∨ (2 ≤ b ∧ b ≤ 10)) (h : Sn E src w l x p v) (gl : Glob E) (hlen : Fits src) :
    Calls Tryd.prog 94 #[.pointer (some ⟨E.b, 0, none⟩), .int .i32 (chOf l), .int .i64 b, .pointer (some ⟨p, 0, none⟩)] w fun e w' =>
      e = .returned (.tuple #[.int .i32 (chOf (dg b l v).1), .int .i64 (dsOf (dg b l v).2.2.1 (dg b l v).2.2.2)]) ∧ Sn E src w' (dg b l v).1 x p (dg b l v).2.1 := by
  by_cases h16 : b = 16
  · subst h16
    unfold dg
    rw [if_pos rfl]
    refine (digits_hex (E.at w) src w l x (.pointer (some ⟨p, 0, none⟩)) v h.sl.rebase (h.sl.glob gl) hlen).mono ?_
    rintro e w' ⟨he, hs, hv⟩
    exact ⟨he, by rw [hv]; exact h.of hs⟩
  · unfold dg
    rw [if_neg h16]
    exact digits_dec E src w l x p v b (by omega) h gl hlen
theorem digits_sn_nil (E : Env) (src : List UInt8) (w : World) (l : List Item) (x : Sx) (p : Nat) (v : Int) (h : Sn E src w l x p v) (gl : Glob E) (hlen : Fits src) :
    Calls Tryd.prog 94 #[.pointer (some ⟨E.b, 0, none⟩), .int .i32 (chOf l), .int .i64 10, .pointer none] w fun e w' =>
      e = .returned (.tuple #[.int .i32 (chOf (dg 10 l 0).1), .int .i64 (dsOf (dg 10 l 0).2.2.1 (dg 10 l 0).2.2.2)]) ∧ Sn E src w' (dg 10 l 0).1 x p v :=
  (digits_nil (E.at w) src w l x h.sl.rebase (h.sl.glob gl) hlen).mono fun _ _ ⟨he, k⟩ => ⟨he, h.of k⟩
end Go.Proofs.YtmfihkgbfoapaaaDoor
