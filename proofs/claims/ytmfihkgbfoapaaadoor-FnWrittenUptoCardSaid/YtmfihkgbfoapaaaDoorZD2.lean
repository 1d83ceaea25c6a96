/- Own texts D2 of this claim, cut to what the claim uses. -/
import Derived.Test.YtmfihkgbfoapaaaDoorZD0
import Derived.Deep.LoopGhost
namespace Go.Proofs.YtmfihkgbfoapaaaDoor
open Go Go.RowKit Go.Lib Go.BigFrame
theorem items_rune {src : List UInt8} {c : Item} (h : c ∈ items src) : c.r ≤ 1114111 := by
  induction hn : src.length using Nat.strongRecOn generalizing src with
  | _ n ih =>
    by_cases h0 : 0 < src.length
    · rw [items_cons h0] at h
      have h1 := hd_pos src
      rcases List.mem_cons.1 h with rfl | h
      · exact hd_rune _
      · exact ih (src.drop (hd src).2).length (by rw [List.length_drop]; omega) h rfl
    · rw [List.eq_nil_of_length_eq_zero (l := src) (by omega), items_nil] at h; cases h
theorem Sl.split {E : Env} {src : List UInt8} {w : World} {l : List Item} {x : Sx} (h : Sl E src w l x) : ∃ pre, items src = pre ++ l := by
  obtain ⟨pre, r, _, hd, _⟩ := h; exact ⟨pre, hd.split⟩
theorem chOf_range {src : List UInt8} {pre l : List Item} (h : items src = pre ++ l) : -1 ≤ chOf l ∧ chOf l ≤ 1114111 := by
  cases l with
  | nil => unfold chOf; simp
  | cons c l =>
    have := items_rune (src := src) (c := c) (by rw [h]; simp)
    unfold chOf; simp only; omega
theorem Sl.range {E : Env} {src : List UInt8} {w : World} {l : List Item} {x : Sx} (h : Sl E src w l x) : -1 ≤ chOf l ∧ chOf l ≤ 1114111 := by
  obtain ⟨pre, h⟩ := h.split; exact chOf_range h
theorem Sl.len {E : Env} {src : List UInt8} {w : World} {l : List Item} {x : Sx} (h : Sl E src w l x) : l.length ≤ src.length := by
  obtain ⟨pre, e⟩ := h.split
  have h1 := items_len e
  have h2 := length_le_bytes (l := l) (fun c hc => items_n (src := src) (by rw [e]; exact List.mem_append_right _ hc))
  omega
def Sx.err (x : Sx) : Sx := { x with e := x.e + 1 }
theorem error_sl (E : Env) (src : List UInt8) (w : World) (l : List Item) (x : Sx) (msg : ByteArray) (h : Sl E src w l x) :
    Calls Tryd.prog 90 #[.pointer (some ⟨E.b, 0, none⟩), .string msg] w fun e w' => e = .returned (.tuple #[]) ∧ Sl E src w' l x.err := by
  obtain ⟨pre, r, hR, hd, hx⟩ := h
  refine (error_spec E r w msg hR).mono ?_
  rintro e w' ⟨he, hR'⟩
  have key : ∀ a b : Int, wrap64 (wrap64 (a + b) + 1) = wrap64 (a + 1 + b) := fun a b => by rw [wrap64_succ]; congr 1; omega
  refine ⟨he, pre, _, hR', ⟨hd.split, ?_, hd.lcl, hd.le, hd.pos⟩, ⟨?_, ?_, hx.ch, hx.mode, hx.white, hx.offs, hx.ln, hx.co, ?_⟩⟩
  · obtain ⟨so, sp, se, g, e⟩ := hd.at_
    exact ⟨so, sp, se, ⟨g.off, g.pos, g.end_, g.spse, g.se4, g.len, g.buf, g.sent, g.rem, g.calls⟩, e⟩
  · simp only [hx.ec, Sx.err]; exact key _ _
  · simp only [hx.cnt, Sx.err]; exact key _ _
  · exact hx.tok
theorem errorf_sl (E : Env) (src : List UInt8) (w : World) (l : List Item) (x : Sx) (msg : ByteArray) (h : Sl E src w l x) :
    Calls Tryd.prog 96 #[.pointer (some ⟨E.b, 0, none⟩), .string msg] w fun e w' => e = .returned (.tuple #[]) ∧ Sl E src w' l x.err := by
  have H := Lib.hid h
  clear h
  go_enter Tryd.func96, Tryd.ntmps96
  go_wp2_with (first
    | (go_at_call 90; refine (error_sl E src _ _ _ _ H.out).mono ?_; rintro e w' ⟨rfl, h'⟩))
  go_end0
  exact ⟨rfl, h'⟩
structure Idr where
  p0 : Int → Bool
  p1 : Int → Bool
  e0 : p0 (-1) = false
  e1 : p1 (-1) = false
def Idr.at (I : Idr) (i : Int) (c : Int) : Bool := if i = 0 then I.p0 c else I.p1 c
theorem Idr.at_pos (I : Idr) {i c : Int} (h : 1 ≤ i) : I.at i c = I.p1 c := by unfold Idr.at; rw [if_neg (by omega)]
def IdOk (E : Env) (I : Idr) : Prop := ∀ w r (c i : Int), Raw E w r → -1 ≤ c ∧ c ≤ 1114111 → 0 ≤ i ∧ i ≤ 140737488355328 →
  Calls Tryd.prog 69 #[.pointer (some ⟨E.b, 0, none⟩), .int .i32 c, .int .i64 i] w fun e w' => e = .returned (.bool (I.at i c)) ∧ Below w.heap.size w w'
theorem IdOk.rebase {E : Env} {I : Idr} {w : World} (h : IdOk E I) (f : Fr E w) : IdOk (E.at w) I := fun w1 r c i hR => h w1 r c i (hR.unbase f)
theorem ident_sl {E : Env} {I : Idr} (h : IdOk E I) {src : List UInt8} {w : World} {l : List Item} {x : Sx} (hs : Sl E src w l x) (c i : Int) (hc : -1 ≤ c ∧ c ≤ 1114111) (hi : 0 ≤ i ∧ i ≤ 140737488355328) :
    Calls Tryd.prog 69 #[.pointer (some ⟨E.b, 0, none⟩), .int .i32 c, .int .i64 i] w fun e w' => e = .returned (.bool (I.at i c)) ∧ Sl E src w' l x := by
  obtain ⟨pre, r, hR, hd⟩ := hs
  exact (h w r c i hR hc hi).mono fun e w' ⟨h1, h2⟩ => ⟨h1, Sl.old ⟨pre, r, hR, hd⟩ h2⟩
def more (p : Int → Bool) (l : List Item) : List Item := l.dropWhile fun c => p c.r
theorem more_step {p : Int → Bool} (he : p (-1) = false) {l : List Item} (h : p (chOf l) = true) : more p l = more p l.tail ∧ l.tail.length < l.length := by
  cases l with
  | nil => rw [show chOf [] = -1 from rfl, he] at h; cases h
  | cons c l => exact ⟨by unfold more; rw [List.dropWhile_cons_of_pos (by exact h)]; rfl, by simp⟩
theorem more_stop {p : Int → Bool} {l : List Item} (h : p (chOf l) = false) : more p l = l := by
  cases l with
  | nil => rfl
  | cons c l => unfold more; rw [List.dropWhile_cons_of_neg]; rw [show p c.r = false from h]; simp
set_option maxHeartbeats 400000 in
theorem scanIdentifier_sl (E : Env) (I : Idr) (src : List UInt8) (w : World) (l : List Item) (x : Sx) (h : Sl E src w l x) (gl : Glob E) (hI : IdOk E I) (hlen : Fits src) :
    Calls Tryd.prog 70 #[.pointer (some ⟨E.b, 0, none⟩)] w fun e w' => e = .returned (.int .i32 (chOf (more I.p1 l.tail))) ∧ Sl E src w' (more I.p1 l.tail) x := by
  have H := Lib.hid h
  clear h
  go_enter Tryd.func70, Tryd.ntmps70
  go_wp2_with (first
    | (go_at_call 67; refine (next_sl E src _ _ _ H.out gl hlen).mono ?_; rintro e w1 ⟨rfl, h1⟩))
  have hl1 := h1.len
  have H1 := Lib.hid h1
  clear h1
  go_loopg [3, 4] l.tail.length (fun k ch i wr => ∃ l1 : List Item, l1.length = k ∧ ch = .int .i32 (chOf l1) ∧ (∃ j : Int, i = .int .i64 j ∧ 1 ≤ j ∧ j + k ≤ 1 + src.length) ∧ Sl E src wr l1 x ∧ more I.p1 l1 = more I.p1 l.tail)
  case atStart => exact ⟨l.tail, rfl, rfl, ⟨1, rfl, by omega, by omega⟩, H1.out, rfl⟩
  case round =>
    obtain ⟨l1, hk, rfl, ⟨j, rfl, hj1, hj2⟩, hs, hm⟩ := hrel
    have hr := hs.range
    have hln := hlen
    unfold Fits at hln
    have HM := Lib.hid hm
    have HS := Lib.hid hs
    have HK := Lib.hid (And.intro hk hj2)
    have HR := Lib.hid hr
    clear hm hs hk hr
    go_wp2_with (first
      | (go_at_call 69; refine (ident_sl hI HS.out _ _ HR.out ⟨by omega, by omega⟩).mono ?_; rintro e w2 ⟨rfl, h2⟩)
      | (go_at_call 67; refine (next_sl E src _ _ _ h2 gl hlen).mono ?_; rintro e w3 ⟨rfl, h3⟩))
    · have h5 : I.p1 (chOf l1) = true := by rw [← I.at_pos (show 1 ≤ j by omega)]; assumption
      have h6 := more_step I.e1 h5
      have hm := HM.out
      have hk := HK.out
      go_roundg l1.tail.length
      case measure => omega
      case rel => exact ⟨l1.tail, rfl, rfl, ⟨j + 1, rfl, by omega, by omega⟩, h3, by rw [← h6.1]; exact hm⟩
    · have h5 : I.p1 (chOf l1) = false := by rw [← I.at_pos (show 1 ≤ j by omega)]; assumption
      have hm := HM.out
      go_ret
      rw [← hm, more_stop h5]
      exact ⟨rfl, h2⟩
def Sx.errs (x : Sx) (k : Nat) : Sx := { x with e := x.e + k }
theorem Sx.errs_zero (x : Sx) : x.errs 0 = x := by unfold Sx.errs; simp
theorem Sx.err_eq (x : Sx) : x.err = x.errs 1 := rfl
theorem Sx.errs_errs (x : Sx) (a b : Nat) : (x.errs a).errs b = x.errs (a + b) := by unfold Sx.errs; simp only [Int.natCast_add, Int.add_assoc]
def digRun (b : Int) : Nat → List Item → List Item × Nat
  | 0, l => (l, 0)
  | n + 1, l => if digVal (chOf l) < b then digRun b n l.tail else (l, 1)
theorem digRun_le (b : Int) : ∀ n l, (digRun b n l).1.length ≤ l.length
  | 0, l => Nat.le_refl _
  | n + 1, l => by
    unfold digRun
    split
    · have := digRun_le b n l.tail
      simp only [List.length_tail] at this; omega
    · exact Nat.le_refl _
set_option maxHeartbeats 400000 in
theorem scanDigits_sl (E : Env) (src : List UInt8) (w : World) (l : List Item) (x : Sx) (b : Int) (n : Nat) (hn : n ≤ 8) (h : Sl E src w l x) (gl : Glob E) (hlen : Fits src) :
    Calls Tryd.prog 109 #[.pointer (some ⟨E.b, 0, none⟩), .int .i32 (chOf l), .int .i64 b, .int .i64 n] w fun e w' => e = .returned (.int .i32 (chOf (digRun b n l).1)) ∧ Sl E src w' (digRun b n l).1 (x.errs (digRun b n l).2) := by
  have H := Lib.hid h
  clear h
  go_enter Tryd.func109, Tryd.ntmps109
  go_wp2_with (fail)
  go_loopg [1, 3] n (fun k ch i wr => ∃ l1 : List Item, ch = .int .i32 (chOf l1) ∧ i = .int .i64 k ∧ k ≤ n ∧ Sl E src wr l1 x ∧ digRun b k l1 = digRun b n l)
  case atStart => exact ⟨l, rfl, rfl, by omega, H.out, rfl⟩
  case round =>
    obtain ⟨l1, rfl, rfl, hkn, hs, hm⟩ := hrel
    have HR := Lib.hid hs.range
    have HM := Lib.hid hm
    have HS := Lib.hid hs
    clear hm hs
    go_wp2_with (first
      | (go_at_call 113; refine (digitVal_spec _ _ HR.out).mono ?_; rintro e w2 ⟨rfl, rfl⟩)
      | (go_at_call 67; refine (next_sl E src _ _ _ HS.out gl hlen).mono ?_; rintro e w3 ⟨rfl, h3⟩)
      | (go_at_call 90; refine (error_sl E src _ _ _ _ HS.out).mono ?_; rintro e w3 ⟨rfl, h3⟩))
    · have hm := HM.out
      obtain ⟨k, rfl⟩ : ∃ k, gk = k + 1 := ⟨gk - 1, by omega⟩
      go_roundg k
      case measure => omega
      case rel => exact ⟨l1.tail, rfl, by congr 1; omega, by omega, h3, by rw [← hm]; rw [digRun, if_pos (by assumption)]⟩
    · have hm := HM.out
      obtain ⟨k, rfl⟩ : ∃ k, gk = k + 1 := ⟨gk - 1, by omega⟩
      rw [digRun, if_neg (by omega)] at hm
      go_ret
      rw [← hm]
      exact ⟨rfl, h3⟩
    · have hm := HM.out
      obtain rfl : gk = 0 := by omega
      go_ret
      rw [← hm]
      exact ⟨rfl, by rw [digRun, Sx.errs_zero]; exact HS.out⟩
theorem scanDigits_int (E : Env) (src : List UInt8) (w : World) (l : List Item) (x : Sx) (b m : Int) (hm : 0 ≤ m ∧ m ≤ 8) (h : Sl E src w l x) (gl : Glob E) (hlen : Fits src) :
    Calls Tryd.prog 109 #[.pointer (some ⟨E.b, 0, none⟩), .int .i32 (chOf l), .int .i64 b, .int .i64 m] w fun e w' => e = .returned (.int .i32 (chOf (digRun b m.toNat l).1)) ∧ Sl E src w' (digRun b m.toNat l).1 (x.errs (digRun b m.toNat l).2) := by
  have e : m = (m.toNat : Nat) := by omega
  have := scanDigits_sl E src w l x b m.toNat (by omega) h gl hlen
  rw [← e] at this
  exact this
def escRun (q : Int) (l : List Item) : List Item × Nat :=
  let c := chOf l.tail
  if c = 97 ∨ c = 98 ∨ c = 102 ∨ c = 110 ∨ c = 114 ∨ c = 116 ∨ c = 118 ∨ c = 92 ∨ c = q then (l.tail.tail, 0)
  else if 48 ≤ c ∧ c ≤ 55 then digRun 8 3 l.tail
  else if c = 120 then digRun 16 2 l.tail.tail
  else if c = 117 then digRun 16 4 l.tail.tail
  else if c = 85 then digRun 16 8 l.tail.tail
  else (l.tail, 1)
theorem escRun_lt (q : Int) (l : List Item) (h : l ≠ []) : (escRun q l).1.length < l.length := by
  have h0 : 0 < l.length := List.length_pos_iff.2 h
  have a1 := digRun_le 8 3 l.tail
  have a2 := digRun_le 16 2 l.tail.tail
  have a3 := digRun_le 16 4 l.tail.tail
  have a4 := digRun_le 16 8 l.tail.tail
  simp only [List.length_tail] at a1 a2 a3 a4
  unfold escRun
  dsimp only
  repeat' split
  all_goals (try simp only [List.length_tail])
  all_goals omega
set_option maxRecDepth 100000 in
set_option maxHeartbeats 800000 in
theorem scanEscape_sl (E : Env) (src : List UInt8) (w : World) (l : List Item) (x : Sx) (q : Int) (h : Sl E src w l x) (gl : Glob E) (hlen : Fits src) :
    Calls Tryd.prog 98 #[.pointer (some ⟨E.b, 0, none⟩), .int .i32 q] w fun e w' => e = .returned (.int .i32 (chOf (escRun q l).1)) ∧ Sl E src w' (escRun q l).1 (x.errs (escRun q l).2) := by
  have H := Lib.hid h
  clear h
  go_enter Tryd.func98, Tryd.ntmps98
  go_wp2_with (first
    | (go_at_call 67; refine (next_sl E src _ _ _ H.out gl hlen).mono ?_; clear H; rintro e w' ⟨rfl, h'⟩; have H := Lib.hid h'; clear h')
    | (go_at_call 90; refine (error_sl E src _ _ _ _ H.out).mono ?_; clear H; rintro e w' ⟨rfl, h'⟩; have H := Lib.hid h'; clear h')
    | (go_at_call 109; refine (scanDigits_int E src _ _ _ _ _ (by decide) H.out gl hlen).mono ?_; clear H; rintro e w' ⟨rfl, h'⟩; have H := Lib.hid h'; clear h'))
  all_goals go_ret
  all_goals simp only [beq_iff_eq, beq_eq_false_iff_ne, ne_eq] at *
  all_goals have hh := H.out
  all_goals unfold escRun
  all_goals dsimp only
  all_goals first
    | (rw [if_pos (by omega)]; exact ⟨rfl, by rw [Sx.errs_zero]; exact hh⟩)
    | (rw [if_neg (by omega), if_pos (by omega)]; exact ⟨rfl, hh⟩)
    | (rw [if_neg (by omega), if_neg (by omega), if_pos (by omega)]; exact ⟨rfl, hh⟩)
    | (rw [if_neg (by omega), if_neg (by omega), if_neg (by omega), if_pos (by omega)]; exact ⟨rfl, hh⟩)
    | (rw [if_neg (by omega), if_neg (by omega), if_neg (by omega), if_neg (by omega), if_pos (by omega)]; exact ⟨rfl, hh⟩)
    | (rw [if_neg (by omega), if_neg (by omega), if_neg (by omega), if_neg (by omega), if_neg (by omega)]; exact ⟨rfl, by rw [← Sx.err_eq]; exact hh⟩)
end Go.Proofs.YtmfihkgbfoapaaaDoor
