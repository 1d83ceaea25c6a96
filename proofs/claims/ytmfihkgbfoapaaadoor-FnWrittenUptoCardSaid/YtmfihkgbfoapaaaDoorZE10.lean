/- Own texts E10 of this claim, cut to what the claim uses. -/
import Derived.Test.YtmfihkgbfoapaaaDoorZE2
import Derived.Test.YtmfihkgbfoapaaaDoorZE7
import Derived.Test.YtmfihkgbfoapaaaDoorZM1
import Derived.Test.YtmfihkgbfoapaaaDoorZP0
namespace Go.Proofs.YtmfihkgbfoapaaaDoor
open Go Go.RowKit Go.Lib Go.BigFrame Go.Proofs.YtmfihkgbfoapaaaDoorW.PrintWords Go.Proofs.YtmfihkgbfoapaaaDoorW.PrintLast
theorem gate_builtin {P : Program} {ops : Array Oper} {Q : _} {o : Oper} {rest : List Oper} {a : Act} {W : World} {b : Builtin} {xs : Array Operand} {ts : Array TypeId} (_ho : o.op = .call { callee := .builtin b, args := xs, argTypes := ts }) (h : wpList P ops Q (o :: rest) a W) : wpList P ops Q (o :: rest) a W := h
def toks (C : Cfg) (src : List UInt8) (l : List Item) : List Got :=
  if _h : (scanGo C src l).tok ≠ -1 ∧ (scanGo C src l).l.length < l.length then scanGo C src l :: toks C src (scanGo C src l).l else [scanGo C src l]
termination_by l.length
decreasing_by exact _h.2
def tokOf (src : List UInt8) (g : Got) : K.S37 :=
  ⟨g.tok, ⟨(txt src (offOf src g.at_) g.l).toArray⟩, ⟨offOf src g.at_, tokLn src g.at_, tokCo src g.at_⟩, ⟨offOf src g.l, lineAt src g.l, colAt src g.l⟩⟩
def errsOf (l : List Got) : Nat := (l.map Got.k).sum
theorem two_blocks (w : World) (o1 o2 : Obj) {W : World} (hW : (w.alloc o1).alloc o2 = W) :
    W.heap[w.heap.size + 1]? = some o2 ∧ Below w.heap.size w W ∧ W.heap.size = w.heap.size + 1 + 1 := by
  subst hW
  have s1 : (w.alloc o1).heap.size = w.heap.size + 1 := World.size_alloc _ _
  have s2 : ((w.alloc o1).alloc o2).heap.size = w.heap.size + 1 + 1 := by rw [World.size_alloc, s1]
  refine ⟨?_, ?_, s2⟩
  · rw [← s1]; exact heap_alloc_new _ o2
  · exact ((Below.refl _ w).alloc (Nat.le_refl _) _).alloc (by omega) _
structure Vars (B : Nat) (w0 : World) : Prop where
  utf8 : Utf8Tabs 2 3 w0
  eof : ∃ a, w0.cell? ⟨0, 0, none⟩ = some (.iface 177 (.pointer (some a)))
  ge : 8 ≤ B
  uni : Uni B w0
theorem Vars.move {B : Nat} {w0 w : World} (h : Vars B w0) (f : Below B w0 w) : Vars B w := by
  have hB := h.ge
  refine ⟨⟨fun c hc => ?_, fun i hi => ⟨?_, ?_⟩⟩, ?_, hB, h.uni.move f⟩
  · rw [cell_below f (show 2 < B by omega)]; exact h.utf8.1 c hc
  · rw [cell_below f (show 3 < B by omega)]; exact (h.utf8.2 i hi).1
  · rw [cell_below f (show 3 < B by omega)]; exact (h.utf8.2 i hi).2
  · obtain ⟨a, he⟩ := h.eof
    exact ⟨a, by rw [cell_below f (show 0 < B by omega)]; exact he⟩
theorem Vars.glob {E : Env} {w : World} (h : Vars E.B w) : Glob (E.at w) := ⟨h.utf8, h.eof, h.ge⟩
structure Between (E : Env) (C : Cfg) (src : List UInt8) (w : World) (l : List Item) (e : Int) : Prop where
  ready : ∃ x, Ready (E.at w) src w l x ∧ x.mode = C.mode ∧ x.white = C.white ∧ x.e = e
  vars : Vars E.B w
  id : IdAt (E.at w) C.I
theorem Ready.frame {E : Env} {src : List UInt8} {w : World} {l : List Item} {x : Sx} (h : Ready E src w l x) : ∃ r, Raw E w r := by
  obtain ⟨r, hr, _⟩ := h.raw; exact ⟨r, hr⟩
theorem info37 : (Tryd.prog.info? 37).map (fun i => (i.zero, i.size, i.bytes)) = some (some (.agg #[.int .i64 0, .string ⟨#[]⟩, .int .i64 0, .int .i64 0, .int .i64 0, .int .i64 0, .int .i64 0, .int .i64 0]), 8, 72) := by kernel_rfl
def tcells (tok : Int) (t : ByteArray) (a b c d e f : Int) : Array Value := #[.int .i64 tok, .string t, .int .i64 a, .int .i64 b, .int .i64 c, .int .i64 d, .int .i64 e, .int .i64 f]
theorem tok_stores {w4 : World} {q : Nat} {tok : Int} (t : ByteArray) (a b c d e f : Int) (h : w4.heap[q]? = some (Obj.cells (tcells tok ⟨#[]⟩ 0 0 0 0 0 0) 37 (0, 0))) {w5 : World}
    (hw : (((((((w4.setCell ⟨q, 1, none⟩ (.string t)).setCell ⟨q, 2, none⟩ (.int .i64 a)).setCell ⟨q, 3, none⟩ (.int .i64 b)).setCell ⟨q, 4, none⟩ (.int .i64 c)).setCell ⟨q, 5, none⟩ (.int .i64 d)).setCell ⟨q, 6, none⟩ (.int .i64 e)).setCell ⟨q, 7, none⟩ (.int .i64 f)) = w5) :
    w5.heap[q]? = some (Obj.cells (tcells tok t a b c d e f) 37 (0, 0)) ∧ (∀ k, k ≠ q → w5.heap[k]? = w4.heap[k]?) ∧ Below q w4 w5 ∧ w5.heap.size = w4.heap.size := by
  subst hw
  unfold tcells at h ⊢
  have h1 := Go.Lib.heap_setCell_same (i := 1) h (.string t)
  rw [show (Array.setIfInBounds (#[.int .i64 tok, .string ⟨#[]⟩, .int .i64 0, .int .i64 0, .int .i64 0, .int .i64 0, .int .i64 0, .int .i64 0] : Array Value) 1 (.string t)) = (#[.int .i64 tok, .string t, .int .i64 0, .int .i64 0, .int .i64 0, .int .i64 0, .int .i64 0, .int .i64 0] : Array Value) from rfl] at h1
  have h2 := Go.Lib.heap_setCell_same (i := 2) h1 (.int .i64 a)
  rw [show (Array.setIfInBounds (#[.int .i64 tok, .string t, .int .i64 0, .int .i64 0, .int .i64 0, .int .i64 0, .int .i64 0, .int .i64 0] : Array Value) 2 (.int .i64 a)) = (#[.int .i64 tok, .string t, .int .i64 a, .int .i64 0, .int .i64 0, .int .i64 0, .int .i64 0, .int .i64 0] : Array Value) from rfl] at h2
  have h3 := Go.Lib.heap_setCell_same (i := 3) h2 (.int .i64 b)
  rw [show (Array.setIfInBounds (#[.int .i64 tok, .string t, .int .i64 a, .int .i64 0, .int .i64 0, .int .i64 0, .int .i64 0, .int .i64 0] : Array Value) 3 (.int .i64 b)) = (#[.int .i64 tok, .string t, .int .i64 a, .int .i64 b, .int .i64 0, .int .i64 0, .int .i64 0, .int .i64 0] : Array Value) from rfl] at h3
  have h4 := Go.Lib.heap_setCell_same (i := 4) h3 (.int .i64 c)
  rw [show (Array.setIfInBounds (#[.int .i64 tok, .string t, .int .i64 a, .int .i64 b, .int .i64 0, .int .i64 0, .int .i64 0, .int .i64 0] : Array Value) 4 (.int .i64 c)) = (#[.int .i64 tok, .string t, .int .i64 a, .int .i64 b, .int .i64 c, .int .i64 0, .int .i64 0, .int .i64 0] : Array Value) from rfl] at h4
  have h5 := Go.Lib.heap_setCell_same (i := 5) h4 (.int .i64 d)
  rw [show (Array.setIfInBounds (#[.int .i64 tok, .string t, .int .i64 a, .int .i64 b, .int .i64 c, .int .i64 0, .int .i64 0, .int .i64 0] : Array Value) 5 (.int .i64 d)) = (#[.int .i64 tok, .string t, .int .i64 a, .int .i64 b, .int .i64 c, .int .i64 d, .int .i64 0, .int .i64 0] : Array Value) from rfl] at h5
  have h6 := Go.Lib.heap_setCell_same (i := 6) h5 (.int .i64 e)
  rw [show (Array.setIfInBounds (#[.int .i64 tok, .string t, .int .i64 a, .int .i64 b, .int .i64 c, .int .i64 d, .int .i64 0, .int .i64 0] : Array Value) 6 (.int .i64 e)) = (#[.int .i64 tok, .string t, .int .i64 a, .int .i64 b, .int .i64 c, .int .i64 d, .int .i64 e, .int .i64 0] : Array Value) from rfl] at h6
  have h7 := Go.Lib.heap_setCell_same (i := 7) h6 (.int .i64 f)
  rw [show (Array.setIfInBounds (#[.int .i64 tok, .string t, .int .i64 a, .int .i64 b, .int .i64 c, .int .i64 d, .int .i64 e, .int .i64 0] : Array Value) 7 (.int .i64 f)) = (#[.int .i64 tok, .string t, .int .i64 a, .int .i64 b, .int .i64 c, .int .i64 d, .int .i64 e, .int .i64 f] : Array Value) from rfl] at h7
  refine ⟨h7, fun k hk => ?_, ?_, ?_⟩
  · iterate 7 rw [Below.heap_setCell _ _ _ _ (by exact hk)]
  · have hq : ∀ {w1 : World} {i : Nat} {v : Value}, Below q w4 w1 → Below q w4 (w1.setCell ⟨q, i, none⟩ v) := fun h => h.setCell (by show q ≤ q; omega) _
    exact hq (hq (hq (hq (hq (hq (hq (Below.refl q w4)))))))
  · simp only [World.size_setCell]
theorem results_ttc (w : World) (tmps : Array Value) (p : Nat) (n : Int) (hp : tmps.getD 8 undef = .pointer (some ⟨p, 0, none⟩)) (hc : w.cell? ⟨p, 0, none⟩ = some (.int .i64 n)) :
    (results Tryd.f24 tmps).run Tryd.prog w = .ok (.tuple #[tmps.getD 6 undef, tmps.getD 7 undef, .int .i64 n]) w := by
  have hp' : tmps[8]?.getD undef = .pointer (some ⟨p, 0, none⟩) := by simpa using hp
  have hu := Tryd.underlying3
  simp [results, hp', asAddr]
  go_simp
theorem after_append {w5 w6 : World} {row : Option Nat} {q : Nat} {x : Obj} (h : w5.heap[q]? = some x) (hg : w5.grownBy w6 row) (hne : row = some q → False) : w6.heap[q]? = some x :=
  (hg.block q (Array.getElem?_eq_some_iff.1 h).1 (fun e => hne e.symm)).trans h
theorem startL_pre (src : List UInt8) : ∃ pre, items src = pre ++ startL src := by
  unfold startL
  split
  · cases h : items src with
    | nil => exact ⟨[], rfl⟩
    | cons c l => exact ⟨[c], rfl⟩
  · exact ⟨[], rfl⟩
theorem suffix_len {src : List UInt8} {pre l : List Item} (h : items src = pre ++ l) : l.length ≤ src.length := by
  have h1 := items_len h
  have h2 := length_le_bytes (l := pre ++ l) (fun c hc => items_n (by rw [h]; exact hc))
  rw [bytesOf_append, List.length_append, List.length_append] at h2; omega
theorem toks_end {C : Cfg} {src : List UInt8} {l : List Item} (h : (scanGo C src l).tok = -1) : toks C src l = [scanGo C src l] := by
  rw [toks, dif_neg (fun h1 => h1.1 h)]
theorem toks_step {C : Cfg} {src : List UInt8} {l : List Item} (h : (scanGo C src l).tok ≠ -1) (h1 : (scanGo C src l).l.length < l.length) : toks C src l = scanGo C src l :: toks C src (scanGo C src l).l := by
  rw [toks, dif_pos ⟨h, h1⟩]
set_option maxRecDepth 100000 in
set_option maxHeartbeats 3200000 in
theorem tokens_run (w : World) (a1 a2 : Option Addr) (k1 k2 : Nat) (src : List UInt8) (sz : List Int) (d : Bool) (m wh : Int) (cu : Bool) (f1 f2 : ByteArray) (k : Nat) (M : Int) (hM : K.impl_mode.f k m = some M) (C : Cfg)
    (hs : SrcAt w.heap.size w a1 k1 src) (hsz : SzAt w.heap.size w a2 sz) (hlen : Fits src) (hl10 : src.length ≤ 10000000000) (hv : Vars w.heap.size w)
    (hC1 : C.mode = if d = true then 1012 else M) (hC2 : C.white = if d = true then 4294977024 else wh) (hC3 : C.I = if d = false ∧ cu = true then idCustom f1 f2 else idGo) (hw : 0 ≤ C.white ∧ C.white < 18446744073709551616) :
    Calls Tryd.prog 24 #[.slice a1 src.length k1, .slice a2 sz.length k2, .agg #[.bool d, .int .i64 m, .int .u64 wh, .bool cu, .string f1, .string f2]] w fun e w' =>
      ∃ v, e = .returned (.tuple #[v, .int .i64 (wrap64 ((lexErrs (items src) : Nat) + (errsOf (toks C src (startL src)) : Nat))), .int .i64 (wrap64 ((lexErrs (items src) : Nat) + (errsOf (toks C src (startL src)) : Nat)))]) ∧
        Kd.R K.k37 37 w' w.heap.size (fun q => w.heap.size ≤ q) v ((toks C src (startL src)).map (tokOf src)) ∧ Below w.heap.size w w' := by
  go_enter Tryd.func24, Tryd.ntmps24
  go_wp2_with (fail)
  obtain ⟨W, hW⟩ : ∃ W, (w.alloc (Obj.cells #[.bool d, .int .i64 m, .int .u64 wh, .bool cu, .string f1, .string f2] 25)).alloc (Obj.cells #[Value.int IntKind.i64 0] 3) = W := ⟨_, rfl⟩
  rw [hW]
  obtain ⟨t1, t2, t3⟩ := two_blocks _ _ _ hW
  clear hW
  obtain ⟨n, hn⟩ : ∃ n, w.heap.size = n := ⟨_, rfl⟩
  rw [hn] at hs hsz hv t1 t2 t3 ⊢
  obtain ⟨p, hp⟩ : ∃ p, n + 1 = p := ⟨_, rfl⟩
  rw [hp] at t1 ⊢
  refine (start_spec W n p a1 a2 k1 k2 src sz d m wh cu f1 f2 k M hM t1 (by omega) (hs.of fun k hk => t2.block k hk) (hsz.of fun k hk => t2.block k hk) hlen).mono ?_
  rintro e w3 ⟨E, rfl, hEB, hEp, hEw, hb, hbR, hB3, hS0, hid1, hid2⟩
  have hB : Below n w w3 := t2.trans (hB3.mono (by omega))
  have hE : E.at w3 = E := by rw [← hEw]; rfl
  have hbt : Between E C src w3 (startL src) 0 := by
    refine ⟨⟨x0 (if d = true then 1012 else M) (if d = true then 4294977024 else wh), ?_, hC1.symm, hC2.symm, rfl⟩, by rw [hEB]; exact hv.move hB, ?_⟩
    · rw [hE]; exact .inr ⟨hS0, rfl, rfl⟩
    · rw [hE, hC3]
      cases d with
      | true => exact .inl ⟨hid1 (.inl rfl), by simp⟩
      | false =>
        cases cu with
        | false => exact .inl ⟨hid1 (.inr rfl), by simp⟩
        | true =>
          obtain ⟨g, g1, g2, g3, g4, g5⟩ := hid2 rfl rfl
          exact .inr ⟨g, _, _, _, _, _, _, g1, by rw [hEw]; exact g2, g3, g4, g5, by simp⟩
  have HB := Lib.hid (And.intro hEB hEp)
  have HT := Lib.hid (And.intro hbt hB)
  have HN := Lib.hid (And.intro hn hp)
  clear hid1 hid2 hS0 hB3 hb hbR hE hEw t1 t2 t3 hs hsz hv hM hC1 hC2 hC3 hbt hB hEB hEp hn hp
  go_wp2_with (fail)
  go_loopg [6] (startL src).length (fun kk v wr => ∃ (l1 : List Item) (xs : List K.S37) (e : Nat), l1.length = kk ∧ Between E C src wr l1 e ∧ (∃ pre, items src = pre ++ l1) ∧ Kd.R K.k37 37 wr n (fun q => n ≤ q) v xs ∧ Below n w wr ∧
    xs ++ (toks C src l1).map (tokOf src) = (toks C src (startL src)).map (tokOf src) ∧ e + errsOf (toks C src l1) = errsOf (toks C src (startL src)) ∧ xs.length + l1.length ≤ src.length)
  case atStart =>
    obtain ⟨pre, hpre⟩ := startL_pre src
    exact ⟨startL src, [], 0, rfl, HT.out.1, ⟨pre, hpre⟩, Kd.R_nil _ _ _ _ _, HT.out.2, by simp, by simp, by simpa using suffix_len hpre⟩
  case round =>
    obtain ⟨l1, xs, e1, hk, hbt, hpre, hR, hBw, htk, her, hlx⟩ := hrel
    obtain ⟨⟨x1, hrd, hxm, hxw, hxe⟩, hvs, hid⟩ := hbt
    have hrng : -8 ≤ (scanGo C src l1).tok ∧ (scanGo C src l1).tok ≤ 1114111 := scanGo_tok C src l1 fun c hc => by obtain ⟨pre, hp⟩ := hpre; exact items_rune (src := src) (by rw [hp]; exact List.mem_append_right _ hc)
    have h45 := Lib.hid (scan_sl (E.at wr) C src wr l1 x1 hrd ⟨hxm, hxw⟩ hw hvs.glob (hid.ok hvs.uni) hlen)
    have HH := Lib.hid (And.intro hk (And.intro hpre (And.intro hR (And.intro hBw (And.intro htk (And.intro her (And.intro hlx (And.intro hvs hid))))))))
    have HX := Lib.hid (And.intro hxm (And.intro hxw hxe))
    have HRAW := Lib.hid hrd.frame
    clear hk hpre hR hBw htk her hlx hvs hid hxm hxw hxe hrd
    generalize hG : scanGo C src l1 = G at hrng h45
    go_wp2_with (first
      | (go_at_call 45; refine (h45.out).mono ?_; clear h45; rintro e w1 ⟨rfl, h'⟩; have S := Lib.hid h'; clear h')
      | (go_at_call 44; refine (kind_spec _ _ hrng).mono ?_; rintro e w2 ⟨rfl, hb2⟩; have HB2 := Lib.hid hb2; clear hb2))
    obtain ⟨X, hX⟩ : ∃ X : Sx, ({ e := x1.e + (G.k : Nat), ch := chOf G.l, mode := x1.mode, white := x1.white, offs := offOf src G.at_, ln := tokLn src G.at_, co := tokCo src G.at_, tok := some (offOf src G.at_) } : Sx) = X := ⟨_, rfl⟩
    rw [hX] at S
    have hXt : X.tok = some (offOf src G.at_) := by rw [← hX]
    have hXo : X.offs = offOf src G.at_ ∧ X.ln = tokLn src G.at_ ∧ X.co = tokCo src G.at_ := by rw [← hX]; exact ⟨rfl, rfl, rfl⟩
    have hb3 : Below w2.heap.size w2 (w2.alloc (Obj.cells #[Value.int IntKind.i64 G.tok, Value.string { data := #[] }, Value.int IntKind.i64 0, Value.int IntKind.i64 0, Value.int IntKind.i64 0, Value.int IntKind.i64 0, Value.int IntKind.i64 0, Value.int IntKind.i64 0] 37)) := (Below.refl _ w2).alloc (Nat.le_refl _) _
    have hq := heap_alloc_new w2 (Obj.cells #[Value.int IntKind.i64 G.tok, Value.string { data := #[] }, Value.int IntKind.i64 0, Value.int IntKind.i64 0, Value.int IntKind.i64 0, Value.int IntKind.i64 0, Value.int IntKind.i64 0, Value.int IntKind.i64 0] 37)
    have S3 := (S.out.old HB2.out).old hb3
    generalize w2.alloc (Obj.cells #[Value.int IntKind.i64 G.tok, Value.string { data := #[] }, Value.int IntKind.i64 0, Value.int IntKind.i64 0, Value.int IntKind.i64 0, Value.int IntKind.i64 0, Value.int IntKind.i64 0, Value.int IntKind.i64 0] 37) = wd at hb3 hq S3 ⊢
    obtain ⟨q, hqq⟩ : ∃ q, w2.heap.size = q := ⟨_, rfl⟩
    rw [hqq] at hq ⊢
    have HQ := Lib.hid (And.intro hqq (And.intro hb3 hq))
    have HXX := Lib.hid hX
    have S3' := S3.rebase
    have HS3 := Lib.hid S3
    clear hqq hb3 hq hX S3
    have hcls : ∀ w', St (E.at wd) src w' G.l X → w'.cell? ⟨E.b, 1044, none⟩ = some (.string ⟨#[]⟩) ∧ w'.cell? ⟨E.b, 1045, none⟩ = some (.int .i64 (offOf src G.at_)) ∧ w'.cell? ⟨E.b, 1046, none⟩ = some (.int .i64 (tokLn src G.at_)) ∧ w'.cell? ⟨E.b, 1047, none⟩ = some (.int .i64 (tokCo src G.at_)) := fun w' h =>
      ⟨h.sl.c_file, by rw [← hXo.1]; exact h.sl.c_offs, by rw [← hXo.2.1]; exact h.sl.c_ln, by rw [← hXo.2.2]; exact h.sl.c_co⟩
    have HC := Lib.hid hcls
    have HT2 := Lib.hid hXt
    clear hcls hXt hXo
    refine wp_region_class_tail (fun w' => St (E.at wd) src w' G.l X) 11 (by kernel_rfl) (by kernel_rfl) (S3'.old (Below.refl _ wd).drew) ?_
    clear S3'
    simp only [List.take_succ_cons, List.take_zero, List.drop_succ_cons, List.drop_zero]
    refine wpQuiet_want rfl ?_
    intro K hK
    refine ⟨.pointer (some ⟨E.b, 0, none⟩), fun w' hw' => ?_, hK _ ?_⟩
    · unfold Oper.quietAt
      go_simp
    clear hK K
    refine wpQuiet_want rfl ?_
    intro K hK
    refine ⟨.string ⟨(txt src (offOf src G.at_) G.l).toArray⟩, fun w' hw' => ?_, hK _ ?_⟩
    · unfold Oper.quietAt
      go_simp
      exact tokenText_st (E.at wd) src w' G.l X _ hw' HT2.out hlen
    clear hK K
    refine wpQuiet_want rfl ?_
    intro K hK
    refine ⟨.pointer (some ⟨E.b, 0, none⟩), fun w' hw' => ?_, hK _ ?_⟩
    · unfold Oper.quietAt
      go_simp
    clear hK K
    refine wpQuiet_want rfl ?_
    intro K hK
    refine ⟨.pointer (some ⟨E.b, 0, none⟩), fun w' hw' => ?_, hK _ ?_⟩
    · unfold Oper.quietAt
      go_simp
    clear hK K
    refine wpQuiet_want rfl ?_
    intro K hK
    refine ⟨.pointer (some ⟨E.b, 1044, none⟩), fun w' hw' => ?_, hK _ ?_⟩
    · unfold Oper.quietAt
      go_simp
    clear hK K
    refine wpQuiet_want rfl ?_
    intro K hK
    refine ⟨Value.agg #[.string ⟨#[]⟩, .int .i64 (offOf src G.at_), .int .i64 (tokLn src G.at_), .int .i64 (tokCo src G.at_)], fun w' hw' => ?_, hK _ ?_⟩
    · obtain ⟨c1, c2, c3, c4⟩ := HC.out w' hw'
      unfold Oper.quietAt
      go_simp
    clear hK K
    refine wpQuiet_want rfl ?_
    intro K hK
    refine ⟨Value.agg #[.int .i64 (offOf src G.at_), .int .i64 (tokLn src G.at_), .int .i64 (tokCo src G.at_)], fun w' hw' => ?_, hK _ ?_⟩
    · unfold Oper.quietAt
      go_simp
      exact (place_spec w' _ _ _ _).mono fun e w'' h => ⟨h.1, hw'.old h.2⟩
    clear hK K
    refine wpQuiet_want rfl ?_
    intro K hK
    refine ⟨.pointer (some ⟨E.b, 0, none⟩), fun w' hw' => ?_, hK _ ?_⟩
    · unfold Oper.quietAt
      go_simp
    clear hK K
    refine wpQuiet_want rfl ?_
    intro K hK
    refine ⟨Value.agg #[.string ⟨#[]⟩, .int .i64 (offOf src G.l), .int .i64 (lineAt src G.l), .int .i64 (colAt src G.l)], fun w' hw' => ?_, hK _ ?_⟩
    · unfold Oper.quietAt
      go_simp
      obtain ⟨r, hr, hp⟩ := hw'.sl.pos hlen
      exact (pos_raw (E.at wd) w' r _ _ _ hr hp).mono fun e w'' h => ⟨h.1, hw'.old h.2⟩
    clear hK K
    refine wpQuiet_want rfl ?_
    intro K hK
    refine ⟨Value.agg #[.int .i64 (offOf src G.l), .int .i64 (lineAt src G.l), .int .i64 (colAt src G.l)], fun w' hw' => ?_, hK _ ?_⟩
    · unfold Oper.quietAt
      go_simp
      exact (place_spec w' _ _ _ _).mono fun e w'' h => ⟨h.1, hw'.old h.2⟩
    clear hK K
    refine wpQuiet_want rfl ?_
    intro K hK
    refine ⟨.pointer (some ⟨q, 1, none⟩), fun w' hw' => ?_, hK _ ?_⟩
    · unfold Oper.quietAt
      go_simp
    clear hK K
    refine wpQuiet_nil ?_
    intro w4 hw4
    -- what the memory holds
    have hBn : n ≤ wr.heap.size := by
      have h1 := HH.out.2.2.2.1.size; have h2 := HN.out.1; omega
    have F1 : Fr (E.at wr) w1 := S.out.sl.frame
    have F4 : Fr (E.at wd) w4 := hw4.sl.frame
    obtain ⟨r0, hr0⟩ := HRAW.out
    obtain ⟨pre3, r3, hr3, -⟩ := HS3.out
    have e12 := HB2.out
    have e23 := HQ.out.2.1
    have hsz1 : wr.heap.size ≤ w1.heap.size := F1.1.size
    have hqw : w2.heap.size = q := HQ.out.1
    have hnq : n ≤ q := by have := e12.size; omega
    have hq4 : w4.heap[q]? = some (Obj.cells (tcells G.tok ⟨#[]⟩ 0 0 0 0 0 0) 37 (0, 0)) := Fr.row37 hr3 F4 q _ HQ.out.2.2
    -- a block that carries over up to w4
    have car : ∀ (k : Nat) (cs : Array Value) (t : TypeId) (fr : Nat × Nat), t ≠ 5 → wr.heap[k]? = some (Obj.cells cs t fr) → k ≠ E.b → k ≠ E.bR → k ≠ E.bC → w4.heap[k]? = some (Obj.cells cs t fr) := by
      intro k cs t fr ht hk h1 h2 h3
      have g1 := F1.2 k _ hk h1 h2 h3 (fun c fz h => by injection h with _ h _; exact ht h)
      have g2 := (e12.block k (lt_of_heap g1)).trans g1
      have g3 := (e23.block k (lt_of_heap g2)).trans g2
      exact F4.2 k _ g3 h1 h2 h3 (fun c fz h => by injection h with _ h _; exact ht h)
    have own4 : ∀ (g : Nat) (cs : Array Value), u6.ownBlock = some g → wr.heap[g]? = some (Obj.cells cs 37 (0, 0)) → w4.heap[g]? = some (Obj.cells cs 37 (0, 0)) := by
      intro g cs _ hg
      have g1 := Fr.row37 hr0 F1 g _ hg
      have g2 := (e12.block g (lt_of_heap g1)).trans g1
      have g3 := (e23.block g (lt_of_heap g2)).trans g2
      exact Fr.row37 hr3 F4 g _ g3
    have hB4 : Below n w w4 := by
      have h1 := HH.out.2.2.2.1
      have hEB := HB.out.1
      have b1 : Below n wr w1 := by have := F1.1; rw [show (E.at wr).B = E.B from rfl, hEB] at this; exact this
      have b4 : Below n wd w4 := by have := F4.1; rw [show (E.at wd).B = E.B from rfl, hEB] at this; exact this
      exact (((h1.trans b1).trans (e12.mono (by omega))).trans (e23.mono (by omega))).trans b4
    have hR4 : Kd.R K.k37 37 w4 n (fun q => n ≤ q) u6 xs := R_keep HH.out.2.2.1 own4
    have hown : ∀ g, u6.ownBlock = some g → g < q := fun g hg => by have := (R_block HH.out.2.2.1 hg).1; have := e12.size; omega
    have hszz : wr.heap.size ≤ w4.heap.size := by have h1 : wr.heap.size ≤ w1.heap.size := hsz1; have h2 := e12.size; have h3 := e23.size; have h4 : wd.heap.size ≤ w4.heap.size := F4.1.size; omega
    have d1 := cell_of_heap (j := 1) hq4
    have d2 := cell_of_heap (j := 2) hq4
    have d3 := cell_of_heap (j := 3) hq4
    have d4 := cell_of_heap (j := 4) hq4
    have d5 := cell_of_heap (j := 5) hq4
    have d6 := cell_of_heap (j := 6) hq4
    have d7 := cell_of_heap (j := 7) hq4
    have f0 := frozen_of_heap hq4
    unfold tcells at d1 d2 d3 d4 d5 d6 d7
    simp at d1 d2 d3 d4 d5 d6 d7
    have HW4 := Lib.hid (And.intro hw4 hq4)
    have HCAR := Lib.hid (And.intro car (And.intro hB4 (And.intro hR4 (And.intro hown (And.intro hnq (And.intro hBn hszz))))))
    clear hszz hw4 hq4 car own4 hB4 hR4 hown F1 F4 hr0 hr3 e12 e23 hsz1 hqw hBn hnq HC HT2
    go_upto_region 4 with (fail)
    obtain ⟨w5, hw5⟩ : ∃ W, (((((((w4.setCell ⟨q, 1, none⟩ (Value.string ⟨(txt src (offOf src G.at_) G.l).toArray⟩)).setCell ⟨q, 2, none⟩ (Value.int .i64 (offOf src G.at_ : Nat))).setCell ⟨q, 3, none⟩ (Value.int .i64 (tokLn src G.at_ : Nat))).setCell ⟨q, 4, none⟩ (Value.int .i64 (tokCo src G.at_ : Nat))).setCell ⟨q, 5, none⟩ (Value.int .i64 (offOf src G.l : Nat))).setCell ⟨q, 6, none⟩ (Value.int .i64 (lineAt src G.l : Nat))).setCell ⟨q, 7, none⟩ (Value.int .i64 (colAt src G.l : Nat))) = W := ⟨_, rfl⟩
    rw [hw5]
    obtain ⟨q5, o5, b5, s5⟩ := tok_stores ⟨(txt src (offOf src G.at_) G.l).toArray⟩ (offOf src G.at_ : Nat) (tokLn src G.at_ : Nat) (tokCo src G.at_ : Nat) (offOf src G.l : Nat) (lineAt src G.l : Nat) (colAt src G.l : Nat) HW4.out.2 hw5
    clear hw5 d1 d2 d3 d4 d5 d6 d7 f0
    have hR5 : Kd.R K.k37 37 w5 n (fun q => n ≤ q) u6 xs := R_keep HCAR.out.2.2.1 fun g cs hg h => (o5 g (by have := HCAR.out.2.2.2.1 g hg; omega)).trans h
    have hB5 : Below n w w5 := HCAR.out.2.1.trans (b5.mono HCAR.out.2.2.2.2.1)
    have c0 := cell_of_heap (j := 0) q5
    have c1 := cell_of_heap (j := 1) q5
    have c2 := cell_of_heap (j := 2) q5
    have c3 := cell_of_heap (j := 3) q5
    have c4 := cell_of_heap (j := 4) q5
    have c5 := cell_of_heap (j := 5) q5
    have c6 := cell_of_heap (j := 6) q5
    have c7 := cell_of_heap (j := 7) q5
    unfold tcells at c0 c1 c2 c3 c4 c5 c6 c7
    simp at c0 c1 c2 c3 c4 c5 c6 c7
    have H5 := Lib.hid (And.intro q5 (And.intro o5 (And.intro s5 (And.intro hR5 hB5))))
    have HL := Lib.hid hl10
    clear q5 o5 b5 s5 hR5 hB5 hl10
    go_upto_region 5 with (first | ((with_reducible refine gate_builtin (b := .append) (xs := #[.tmp 32, .tmp 34]) rfl ?_); at_builtin; refine Kd.R_append K.k37 (w0 := w) n rfl (.tmp 32) (.tmp 34) 28 37 (.agg #[.int .i64 0, .string ⟨#[]⟩, .int .i64 0, .int .i64 0, .int .i64 0, .int .i64 0, .int .i64 0, .int .i64 0]) 72 rfl Tryd.underlying28 info37 rfl (by decide) (by omega) u6 xs (tokOf src G) [.int .i64 G.tok, .string ⟨(txt src (offOf src G.at_) G.l).toArray⟩, .int .i64 (offOf src G.at_ : Nat), .int .i64 (tokLn src G.at_ : Nat), .int .i64 (tokCo src G.at_ : Nat), .int .i64 (offOf src G.l : Nat), .int .i64 (lineAt src G.l : Nat), .int .i64 (colAt src G.l : Nat)] (fun k_ => (n ≤ k_)) (fun _ => False) rfl rfl ?aP (fun _ hk => hk.elim) ?aF ?aO ?aB ?aS ?aL ?_; (case aP => exact K.k37_mkM _ _ _ (tokOf src G)); (case aF => intro k_ hk; have := H5.out.2.2.2.2.size; have := HN.out.1; omega); (case aO => exact H5.out.2.2.2.1); (case aB => exact H5.out.2.2.2.2); (case aS => have := H5.out.2.2.2.2.size; have := HN.out.1; omega); (case aL => have h1 := HH.out.2.2.2.2.2.2.1; have h2 := HL.out; omega); intro v1 w6 ho hb hg hat; have HAP := Lib.hid (And.intro ho (And.intro hb hg)); clear ho hb hg hat))
    clear c0 c1 c2 c3 c4 c5 c6 c7
    obtain ⟨ho, hb, hg⟩ := HAP.out
    have hq6 := after_append H5.out.1 hg (fun e => by have := HCAR.out.2.2.2.1 q e; omega)
    have c0 : w6.cell? ⟨q, 0, none⟩ = some (.int .i64 G.tok) := (cell_of_heap hq6 0).trans rfl
    have S6 : St (E.at w6) src w6 G.l X := by
      refine St.moved (E := E.at wd) HW4.out.1 (fun k hk => ?_) (fun k cs t fr ht h => ?_)
      · have hk' : k < n := by rw [← HB.out.1]; exact hk
        exact (hb.block k hk').trans (HCAR.out.2.1.block k hk').symm
      · have hkq : k ≠ q := fun e => by rw [e, HW4.out.2] at h; injection h with h; injection h with _ h _; exact ht h.symm
        have h5 := (H5.out.2.1 k hkq).trans h
        exact after_append h5 hg (fun e => by
          obtain ⟨_, cs', hc⟩ := R_block H5.out.2.2.2.1 e
          rw [hc] at h5; injection h5 with h5; injection h5 with _ h5 _; exact ht h5.symm)
    have h25 : ∀ (k : Nat) (cs : Array Value) (fr : Nat × Nat), wr.heap[k]? = some (Obj.cells cs 25 fr) → k ≠ E.b → k ≠ E.bR → k ≠ E.bC → w6.heap[k]? = some (Obj.cells cs 25 fr) := fun k cs fr h h1 h2 h3 => by
      have h4 := HCAR.out.1 k cs 25 fr (by decide) h h1 h2 h3
      have hkq : k ≠ q := fun e => by rw [e, HW4.out.2] at h4; injection h4 with h4; injection h4 with _ h4 _; exact absurd h4 (by decide)
      have h5 := (H5.out.2.1 k hkq).trans h4
      exact after_append h5 hg (fun e => by
        obtain ⟨_, cs', hc⟩ := R_block H5.out.2.2.2.1 e
        rw [hc] at h5; injection h5 with h5; injection h5 with _ h5 _; exact absurd h5 (by decide))
    have H6 := Lib.hid (And.intro ho (And.intro hb (And.intro S6 h25)))
    clear ho hb hg hq6 S6 h25
    have HLT := Lib.hid (scanGo_lt C src l1)
    have HGG := Lib.hid hG
    clear hG hrng
    go_wp2_with (fail)
    · refine wp_region_tail 8 (by kernel_rfl) (by kernel_rfl) ?_
      intro wx e1' e2' e3' e4'
      obtain ⟨ho, hb, S6, -⟩ := H6.out
      obtain ⟨pre6, r6, hr6, hd6, hX6, -⟩ := S6
      have hrx := hr6.like wx e1' e2' e3' e4'
      have hbx : Below n w wx := ⟨e3'.trans hb.os, e2'.trans hb.tape, e4'.trans hb.output, by rw [e1']; exact hb.size, fun k hk => by rw [e1']; exact hb.block k hk⟩
      have hox : Kd.R K.k37 37 wx n (fun q => n ≤ q) v1 (xs ++ [tokOf src G]) := R_keep ho fun g cs _ h => by rw [e1']; exact h
      have c1 : wx.cell? ⟨E.b, 1040, none⟩ = some (.int .i64 r6.ec) := hrx.c_ec
      have c2 : wx.cell? ⟨p, 0, none⟩ = some (.int .i64 r6.cnt) := by rw [← HB.out.2]; exact hrx.c_cnt
      have hf2 : wx.frozen? ⟨p, 0, none⟩ = false := by rw [← HB.out.2]; exact hrx.f_cnt
      have hp6 : wx.heap[p]? = some (.cells #[.int .i64 r6.cnt] 3 (0, 0)) := by rw [← HB.out.2]; exact hrx.cnt
      have HE := Lib.hid (And.intro hd6 (And.intro hX6 (And.intro hbx (And.intro hox hp6))))
      have htok : G.tok = -1 := eq_of_beq (by with_reducible assumption)
      have HTK := Lib.hid htok
      clear c0 ho hb hr6 hd6 hX6 hrx hbx hox hp6 e1' e2' e3' e4'
      simp only [List.take_succ_cons, List.take_zero, List.drop_succ_cons, List.drop_zero]
      repeat (go_big_quiet_step (fail))
      refine wpQuiet_nil ?_
      go_wp2_with (fail)
      obtain ⟨hd6, hX6, hbx, hox, hp6⟩ := HE.out
      have hnp : n ≤ p := by have := HN.out.2; omega
      have hpx := Go.Lib.heap_setCell_same (i := 0) hp6 (.int .i64 r6.cnt)
      refine bodyPost_ret (results_ttc _ _ p r6.cnt rfl ((cell_of_heap hpx 0).trans rfl)) rfl ?_
      have hend := (HLT.out.resolve_right fun h => h.1 (by rw [HGG.out]; exact HTK.out)).2
      rw [HGG.out] at hend
      have htk := HH.out.2.2.2.2.1
      have her := HH.out.2.2.2.2.2.1
      rw [toks_end (by rw [HGG.out]; exact HTK.out), HGG.out] at htk her
      have hpre : lexErrs (pre6 ++ G.l.take 1) = lexErrs (items src) := by
        have := hd6.split
        rw [hend] at this ⊢
        rw [this]; simp
      have hXe : X.e = (e1 : Int) + G.k := by rw [← HXX.out, ← HX.out.2.2]
      have hsum : (e1 : Int) + G.k = (errsOf (toks C src (startL src)) : Nat) := by rw [← her]; simp [errsOf]
      have hec : r6.ec = wrap64 ((lexErrs (items src) : Nat) + (errsOf (toks C src (startL src)) : Nat)) := by
        rw [hX6.ec, hpre]; congr 1; show X.e + _ = _; rw [hXe, hsum]; omega
      have hcn : r6.cnt = wrap64 ((lexErrs (items src) : Nat) + (errsOf (toks C src (startL src)) : Nat)) := by
        rw [hX6.cnt, hpre]; congr 1; show X.e + _ = _; rw [hXe, hsum]; omega
      refine ⟨v1, ?_, ?_, ?_⟩
      · show Ending.returned (.tuple #[v1, .int .i64 r6.ec, .int .i64 r6.cnt]) = _
        rw [hec, hcn]
      · rw [HN.out.1, ← htk]
        simp only [List.map_cons, List.map_nil]
        refine R_keep hox fun g cs hg h => ?_
        rw [Below.heap_setCell _ _ _ _ (by
          intro e; have e' : g = p := e
          rw [e', hp6] at h; injection h with h; injection h with _ h _; exact absurd h (by decide))]
        exact h
      · rw [HN.out.1]; exact hbx.setCell (by show n ≤ p; exact hnp) _
    · obtain ⟨ho, hb, S6, h25⟩ := H6.out
      have hne : G.tok ≠ -1 := beq_eq_false_iff_ne.1 (by with_reducible assumption)
      have hlt := (HLT.out.resolve_left fun h => hne (by rw [← HGG.out]; exact h.1)).2
      rw [HGG.out] at hlt
      obtain ⟨hk, hpre, hR, hBw, htk, her, hlx, hvs, hid⟩ := HH.out
      rw [toks_step (by rw [HGG.out]; exact hne) (by rw [HGG.out]; exact hlt), HGG.out] at htk her
      have hbwr : Below n wr w6 := ⟨hb.os.trans hBw.os.symm, hb.tape.trans hBw.tape.symm, hb.output.trans hBw.output.symm, (by have h1 := HCAR.out.2.2.2.2.2.2; have h2 := H5.out.2.2.1; have h3 := HAP.out.2.2.size; omega), fun k hk => (hb.block k hk).trans (hBw.block k hk).symm⟩
      have hbt : Between E C src w6 G.l ((e1 + G.k : Nat) : Int) := by
        refine ⟨⟨X, .inl ⟨S6.sl, by rw [← HXX.out]⟩, by rw [← HXX.out]; exact HX.out.1, by rw [← HXX.out]; exact HX.out.2.1, by rw [← HXX.out]; simp only [HX.out.2.2, Int.natCast_add]⟩, hvs.move (by rw [HB.out.1]; exact hbwr), ?_⟩
        rcases hid with h | ⟨g, d', m', wh', cu', f1', f2', h1, h2, h3, h4, h5, h6⟩
        · exact .inl h
        · exact .inr ⟨g, d', m', wh', cu', f1', f2', h1, h25 g _ _ h2 h3 h4 h5, h3, h4, h5, h6⟩
      go_roundg G.l.length
      case measure => omega
      case rel => exact ⟨G.l, xs ++ [tokOf src G], e1 + G.k, rfl, hbt, S6.sl.split, ho, hb, by rw [← htk]; simp, by rw [← her]; simp [errsOf, Nat.add_assoc], by simp only [List.length_append, List.length_cons, List.length_nil]; omega⟩
end Go.Proofs.YtmfihkgbfoapaaaDoor
