/- Own texts C3 of this claim, cut to what the claim uses. -/
import Derived.Test.YtmfihkgbfoapaaaDoorZC2
namespace Go.Proofs.YtmfihkgbfoapaaaDoor
open Go Go.RowKit Go.Lib
theorem items_drop {src : List UInt8} {pre l : List Item} (h : items src = pre ++ l) : items (src.drop (bytesOf pre).length) = l := by
  induction pre generalizing src with
  | nil => simpa [bytesOf_nil] using h
  | cons c pre ih =>
    have h0 : 0 < src.length := by
      rcases Nat.eq_zero_or_pos src.length with h1 | h1
      · rw [List.eq_nil_of_length_eq_zero h1, items_nil] at h; cases h
      · exact h1
    rw [items_cons h0, List.cons_append] at h
    injection h with h1 h2
    have := ih h2
    rw [List.drop_drop] at this
    rw [bytesOf_cons, List.length_append, ← h1]
    have hn := hdItem_n h0
    unfold Item.n at hn
    rw [hn]; exact this
theorem items_head {src : List UInt8} {pre l : List Item} {c : Item} (h : items src = pre ++ c :: l) :
    (bytesOf pre).length < src.length ∧ hd (src.drop (bytesOf pre).length) = (c.r, c.n) ∧ 1 ≤ c.n := by
  have h1 := items_drop h
  have hlt : 0 < (src.drop (bytesOf pre).length).length := by
    rcases Nat.eq_zero_or_pos (src.drop (bytesOf pre).length).length with h2 | h2
    · rw [List.eq_nil_of_length_eq_zero h2, items_nil] at h1; cases h1
    · exact h2
  rw [items_cons hlt] at h1
  injection h1 with h3 _
  have hn := hdItem_n hlt
  rw [h3] at hn
  refine ⟨by rw [List.length_drop] at hlt; omega, ?_, by rw [hn]; exact hd_pos _⟩
  rw [← h3]
  exact Prod.ext rfl (by rw [h3]; exact hn.symm)
theorem items_len {src : List UInt8} {pre l : List Item} (h : items src = pre ++ l) : (bytesOf pre).length + (bytesOf l).length = src.length := by
  have := congrArg (fun x => (bytesOf x).length) h
  simp only [bytesOf_items, bytesOf_append, List.length_append] at this
  omega
theorem items_n {src : List UInt8} {c : Item} (h : c ∈ items src) : 1 ≤ c.n := by
  obtain ⟨pre, l, e⟩ := List.append_of_mem h
  exact (items_head e).2.2
theorem length_le_bytes {l : List Item} (h : ∀ c ∈ l, 1 ≤ c.n) : l.length ≤ (bytesOf l).length := by
  induction l with
  | nil => simp
  | cons c l ih =>
    have := ih (fun d hd => h d (List.mem_cons_of_mem _ hd))
    have h1 := h c List.mem_cons_self
    rw [bytesOf_cons, List.length_append, List.length_cons]
    unfold Item.n at h1; omega
def posStep (p : Nat × Nat × Nat) (c : Item) : Nat × Nat × Nat := if c.r = 10 then (p.1 + 1, 0, p.2.1 + 1) else (p.1, p.2.1 + 1, p.2.2)
def posOf (pre : List Item) : Nat × Nat × Nat := pre.foldl posStep (1, 0, 0)
theorem posOf_snoc (pre : List Item) (c : Item) : posOf (pre ++ [c]) = posStep (posOf pre) c := by simp [posOf, List.foldl_append]
theorem posOf_le (pre : List Item) : (posOf pre).1 ≤ pre.length + 1 ∧ (posOf pre).2.1 ≤ pre.length ∧ (posOf pre).2.2 ≤ pre.length := by
  induction hn : pre.length generalizing pre with
  | zero => rw [List.eq_nil_of_length_eq_zero hn]; decide
  | succ n ih =>
    have hne : pre ≠ [] := by intro e; rw [e] at hn; cases hn
    rw [← List.dropLast_concat_getLast hne] at hn ⊢
    rw [posOf_snoc]
    have := ih pre.dropLast (by simp only [List.length_append, List.length_cons, List.length_nil] at hn; omega)
    unfold posStep
    split <;> simp only <;> omega
def lexErr (c : Item) : Nat := if c.bad = true ∨ c.r = 0 then 1 else 0
def lexHead (l : List Item) : Nat := match l with | c :: _ => lexErr c | [] => 0
def chOf (l : List Item) : Int := match l with | c :: _ => (c.r : Int) | [] => -1
def PosAt (pre l : List Item) (r : Regs) : Prop :=
  match l with
  | c :: _ => r.line = (posOf (pre ++ [c])).1 ∧ r.col = (posOf (pre ++ [c])).2.1 ∧ r.lll = (posOf (pre ++ [c])).2.2
  | [] => r.line = (posOf pre).1 ∧ r.col = (if pre = [] then 0 else (posOf pre).2.1 + 1 : Nat) ∧ r.lll = (posOf pre).2.2
structure Rd (src : List UInt8) (pre l : List Item) (r : Regs) : Prop where
  split : items src = pre ++ l
  at_ : At src r (bytesOf (pre ++ l.take 1)).length
  lcl : r.lcl = ((bytesOf (l.take 1)).length : Nat)
  le : r.lcl ≤ r.srcPos
  pos : PosAt pre l r
structure Rd0 (src : List UInt8) (r : Regs) : Prop where
  at_ : At src r 0
  lcl : r.lcl = 0
  line : r.line = 1
  col : r.col = 0
  lll : r.lll = 0
structure Sx where
  e : Int
  ch : Int
  mode : Int
  white : Int
  offs : Int
  ln : Int
  co : Int
  tok : Option Nat
def TokIs (src : List UInt8) (r : Regs) (t : Option Nat) : Prop := match t with | none => r.tokPos = -1 | some st => TokAt src r st ∧ r.tokPos + r.lcl ≤ r.srcPos
structure Rx (src : List UInt8) (r : Regs) (x : Sx) : Prop where
  ec : r.ec = wrap64 x.e
  cnt : r.cnt = wrap64 x.e
  ch : r.ch = x.ch
  mode : r.mode = x.mode
  white : r.white = x.white
  offs : r.offs = x.offs
  ln : r.ln = x.ln
  co : r.co = x.co
  tok : TokIs src r x.tok
def Sc (E : Env) (src : List UInt8) (w : World) (pre l : List Item) (x : Sx) : Prop := ∃ r, Raw E w r ∧ Rd src pre l r ∧ Rx src r x
theorem wrap64_succ (e : Int) : wrap64 (wrap64 e + 1) = wrap64 (e + 1) := by unfold wrap64; omega
theorem Rx.has {src : List UInt8} {r : Regs} {x : Sx} (h : Rx src r x) : r.tokPos < 0 ∨ ∃ st, TokAt src r st := by
  have := h.tok
  cases hx : x.tok with
  | none => rw [hx] at this; exact .inl (by simp only [TokIs] at this; omega)
  | some st => rw [hx] at this; exact .inr ⟨st, this.1⟩
theorem next_regs (E : Env) (src : List UInt8) (r : Regs) (w : World) (A : Nat) (h : Raw E w r) (gl : Glob E) (g : At src r A) (htk : r.tokPos < 0 ∨ ∃ st, TokAt src r st)
    (hcol : 0 ≤ r.col ∧ r.col ≤ 4611686018427387904) (hline : 0 ≤ r.line ∧ r.line ≤ 4611686018427387904) (hlen : src.length ≤ 70368744177664) :
    Calls Tryd.prog 67 #[.pointer (some ⟨E.b, 0, none⟩)] w (NextPost E src A r) := by
  obtain ⟨so, sp, se, g, rfl⟩ := g
  by_cases h1 : gb r.buf sp < 128
  · by_cases h0 : gb r.buf sp = 0
    · exact next_fast_nul E src r w so sp se _ h g rfl h1 h0 hcol hline
    · by_cases h10 : gb r.buf sp = 10
      · exact next_fast_nl E src r w so sp se _ h g rfl h1 h10 hcol hline
      · exact next_fast E src r w so sp se _ h g rfl h1 h0 h10 hcol hline
  · exact next_slow E src r w so sp se _ h gl g rfl (by omega) htk hcol hline hlen
theorem Rx.of_eof {src : List UInt8} {A : Nat} {r r' : Regs} {x : Sx} (h : Rx src r x) (n : NextEof src A r r') : Rx src r' x := by
  have k := n.kept
  refine ⟨n.ec.trans h.ec, n.cnt.trans h.cnt, k.ch.trans h.ch, k.mode.trans h.mode, k.white.trans h.white, k.offs.trans h.offs, k.ln.trans h.ln, k.co.trans h.co, ?_⟩
  have ht := h.tok
  cases hx : x.tok with
  | none => rw [hx] at ht; simp only [TokIs] at ht ⊢; exact (k.tokneg (by omega)).trans ht
  | some st => rw [hx] at ht; have h2 := n.tok st ht.1; exact ⟨h2, by obtain ⟨_, tp, sp, _, t2, t3, t4, _⟩ := h2; rw [t2, t3, n.lcl]; omega⟩
theorem Rx.of_char {src : List UInt8} {A : Nat} {r r' : Regs} {x : Sx} {c : Item} (h : Rx src r x) (n : NextChar src A c.r c.n r r') : Rx src r' { x with e := x.e + lexErr c } := by
  have k := n.kept
  have he : ((c.r = 65533 ∧ c.n = 1) ∨ c.r = 0) ↔ (c.bad = true ∨ c.r = 0) := by
    unfold Item.bad Item.n; simp
  have key : ∀ a : Int, a = wrap64 x.e → (if (c.r = 65533 ∧ c.n = 1) ∨ c.r = 0 then wrap64 (a + 1) else a) = wrap64 (x.e + lexErr c) := by
    intro a ha
    unfold lexErr
    by_cases hc : (c.r = 65533 ∧ c.n = 1) ∨ c.r = 0
    · rw [if_pos hc, if_pos (he.1 hc), ha]; exact wrap64_succ _
    · rw [if_neg hc, if_neg (fun h => hc (he.2 h)), ha]; simp
  refine ⟨n.ec.trans (key _ h.ec), n.cnt.trans (key _ h.cnt), k.ch.trans h.ch, k.mode.trans h.mode, k.white.trans h.white, k.offs.trans h.offs, k.ln.trans h.ln, k.co.trans h.co, ?_⟩
  have ht := h.tok
  cases hx : x.tok with
  | none => rw [hx] at ht; simp only [TokIs] at ht ⊢; exact (k.tokneg (by omega)).trans ht
  | some st => simp only [hx] at ht ⊢; exact ⟨n.tok st ht.1, n.tokle st ht.1⟩
theorem next_spec (E : Env) (src : List UInt8) (w : World) (pre l : List Item) (x : Sx) (h : Sc E src w pre l x) (gl : Glob E) (hlen : src.length ≤ 70368744177664) :
    Calls Tryd.prog 67 #[.pointer (some ⟨E.b, 0, none⟩)] w fun e w' => e = .returned (.int .i32 (chOf l.tail)) ∧ Sc E src w' (pre ++ l.take 1) l.tail { x with e := x.e + lexHead l.tail } := by
  obtain ⟨r, hR, hd, hx⟩ := h
  have hsplit := hd.split
  have hpl : pre.length + l.length ≤ src.length := by
    have h1 := items_len hsplit
    have h2 := length_le_bytes (l := pre ++ l) (fun c hc => items_n (by rw [hsplit]; exact hc))
    rw [bytesOf_append, List.length_append, List.length_append] at h2; omega
  have hb : 0 ≤ r.col ∧ r.col ≤ 4611686018427387904 ∧ 0 ≤ r.line ∧ r.line ≤ 4611686018427387904 := by
    have hp := hd.pos
    cases l with
    | nil =>
      simp only [PosAt] at hp
      have h1 := posOf_le pre
      obtain ⟨p1, p2, p3⟩ := hp
      rw [p1, p2]
      simp only [List.length_nil] at hpl
      split <;> omega
    | cons c l =>
      simp only [PosAt] at hp
      have h1 := posOf_le (pre ++ [c])
      obtain ⟨p1, p2, p3⟩ := hp
      rw [p1, p2]
      simp only [List.length_append, List.length_cons, List.length_nil] at h1 hpl
      omega
  refine (next_regs E src r w _ hR gl hd.at_ hx.has ⟨hb.1, hb.2.1⟩ hb.2.2 hlen).mono ?_
  rintro e w' ⟨r', hR', hcase⟩
  cases l with
  | nil =>
    have hA := items_len hsplit
    rcases hcase with ⟨hA', rfl, hn⟩ | ⟨hA', _, _⟩
    · refine ⟨rfl, r', hR', ⟨by simpa using hsplit, by simpa using hn.at_, ?_, ?_, ?_⟩, ?_⟩
      · rw [hn.lcl]; rfl
      · rw [hn.lcl]; obtain ⟨_, _, _, g, _⟩ := hn.at_; rw [g.pos]; omega
      · have hp := hd.pos
        have hl := hd.lcl
        simp only [PosAt, List.take_nil, bytesOf_nil, List.length_nil] at hp hl
        simp only [PosAt, List.take_nil, List.append_nil, List.tail_nil]
        rw [hn.line, hn.col, hn.lll, hl]
        exact ⟨hp.1, by rw [if_neg (by omega)]; exact hp.2.1, hp.2.2⟩
      · have := hx.of_eof hn
        simpa [lexHead] using this
    · simp only [List.take_nil, List.append_nil, bytesOf_nil, List.length_nil] at hA hA'; omega
  | cons c l =>
    simp only [List.take_succ_cons, List.take_zero, List.tail_cons]
    have hs2 : items src = (pre ++ [c]) ++ l := by simpa using hsplit
    have hp := hd.pos
    simp only [PosAt] at hp
    have hcn : 1 ≤ c.n := (items_head hsplit).2.2
    have hlcl : r.lcl = ((bytesOf [c]).length : Nat) := hd.lcl
    have hlc : 0 < r.lcl := by rw [hlcl, bytesOf_cons, bytesOf_nil]; simp only [List.append_nil]; unfold Item.n at hcn; omega
    cases l with
    | nil =>
      have hA := items_len hs2
      simp only [bytesOf_nil, List.length_nil] at hA
      rcases hcase with ⟨hA', rfl, hn⟩ | ⟨hA', _, _⟩
      · refine ⟨rfl, r', hR', ⟨hs2, by simpa using hn.at_, ?_, ?_, ?_⟩, ?_⟩
        · rw [hn.lcl]; rfl
        · rw [hn.lcl]; obtain ⟨_, _, _, g, _⟩ := hn.at_; rw [g.pos]; omega
        · simp only [PosAt]
          rw [hn.line, hn.col, hn.lll, if_pos hlc, if_neg (by simp), hp.1, hp.2.1, hp.2.2]
          exact ⟨rfl, by omega, rfl⟩
        · have := hx.of_eof hn
          simpa [lexHead] using this
      · simp only [List.take_succ_cons, List.take_zero] at hA'; omega
    | cons d l =>
      obtain ⟨q1, q2, q3⟩ := items_head hs2
      rcases hcase with ⟨hA', _, _⟩ | ⟨hA', rfl, hn⟩
      · simp only [List.take_succ_cons, List.take_zero] at hA'; omega
      · simp only [List.take_succ_cons, List.take_zero] at hn hA' ⊢
        rw [q2] at hn ⊢
        refine ⟨rfl, r', hR', ⟨hs2, ?_, ?_, hn.le, ?_⟩, ?_⟩
        · have := hn.at_
          simp only [List.take_succ_cons, List.take_zero]
          rw [bytesOf_append, List.length_append, bytesOf_cons d [], bytesOf_nil, List.append_nil]
          exact this
        · rw [hn.lcl]; simp only [List.take_succ_cons, List.take_zero, bytesOf_cons, bytesOf_nil, List.append_nil]; rfl
        · simp only [PosAt]
          rw [hn.line, hn.col, hn.lll, posOf_snoc (pre ++ [c]) d, hp.1, hp.2.1, hp.2.2]
          unfold posStep
          by_cases h10 : d.r = 10
          · simp only [h10, if_true]; exact ⟨by omega, rfl, by omega⟩
          · simp only [h10, if_false]; exact ⟨trivial, by omega, trivial⟩
        · exact hx.of_char hn
end Go.Proofs.YtmfihkgbfoapaaaDoor
