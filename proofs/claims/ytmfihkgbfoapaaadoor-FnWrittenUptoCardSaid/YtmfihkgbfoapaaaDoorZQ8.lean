/- Own texts Q8 of this claim, cut to what the claim uses. -/
import Derived.Test.YtmfihkgbfoapaaaDoorZQ6
import Derived.Test.YtmfihkgbfoapaaaDoorZQ1
namespace Go.Proofs.YtmfihkgbfoapaaaDoor
set_option linter.unusedVariables false
set_option linter.unusedSimpArgs false
open Go Go.RowKit Go.Lib Go.BigFrame Go.Proofs.YtmfihkgbfoapaaaDoorW.PrintWords
theorem let_pos {c : Nat} (h : isLet (c : Int) = true) : 32 < (c : Int) ∧ idGo.p0 c = true ∧ idGo.p1 c = true := by
  unfold isLet at h
  simp only [Bool.or_eq_true, beq_iff_eq, Bool.and_eq_true, decide_eq_true_eq] at h
  have h0 : idGo.p0 c = ((c : Int) == 95 || isLetterU c) := rfl
  have h1 : idGo.p1 c = ((c : Int) == 95 || isLetterU c || isDigitU c) := rfl
  rcases h with h | ⟨h2, h3⟩
  · rw [h0, h1, h]
    exact ⟨by decide, rfl, rfl⟩
  · rw [h0, h1, h3]
    refine ⟨?_, by simp, by simp⟩
    by_cases hb : c < 128
    · have ht := List.all_eq_true.1 let_low c (List.mem_range.2 hb)
      rw [h3] at ht
      simp at ht
      omega
    · omega
theorem more_all {p : Int → Bool} : ∀ {l : List Item}, (∀ c ∈ l, p c.r = true) → more p l = []
  | [], _ => rfl
  | c :: l, h => by
    unfold more
    rw [List.dropWhile_cons_of_pos (by exact h c List.mem_cons_self)]
    exact more_all fun x hx => h x (List.mem_cons_of_mem _ hx)
theorem num_head (n : Nat) (hn : n < 2 ^ 64) (mark : Bool) : isDec (chOf (ascI (numT (n % 4) n mark))) = true := by
  unfold numT
  have h48 : ∀ l, isDec (chOf (ascI (48 :: l))) = true := fun l => by
    show isDec 48 = true
    decide
  split
  · exact h48 _
  · split
    · exact h48 _
    · split
      · exact h48 _
      · obtain ⟨d, hd, -, hc⟩ := base_ch 10 (by decide) mark hn []
        rw [List.append_nil, if_pos (by omega)] at hc
        rw [hc]
        unfold isDec; simp; omega
theorem flt_head (n : Nat) (hn : n < 2 ^ 64) (mark : Bool) : isDec (chOf (ascI (fltT (n % 4) n mark))) = true ∨ (chOf (ascI (fltT (n % 4) n mark)) = 46 ∧ isDec (chOf (ascI (fltT (n % 4) n mark)).tail) = true) := by
  have hb : ∀ rest, isDec (chOf (ascI (baseL 10 mark n) ++ rest)) = true := fun rest => by
    obtain ⟨d, hd, -, hc⟩ := base_ch 10 (by decide) mark hn rest
    rw [if_pos (by omega)] at hc
    rw [hc]
    unfold isDec; simp; omega
  unfold fltT
  split
  · right
    refine ⟨rfl, ?_⟩
    show isDec (chOf (ascI (baseL 10 mark n))) = true
    have := hb []
    rw [List.append_nil] at this
    exact this
  · left
    split
    · rw [ascI_append]; exact hb _
    · split
      · rw [ascI_append]; exact hb _
      · show isDec 48 = true
        decide
theorem piece_num {s1 : List UInt8} {P : List Item} (hs : items s1 = P) {k : Int} (hk : numSpec P = k) (hk0 : k ≠ 0) (h : isDec (chOf P) = true ∨ (chOf P = 46 ∧ isDec (chOf P.tail) = true)) : oneAt wrC s1 P = ⟨k, [], 0, false⟩ := by
  obtain ⟨b4, b24, b16, -⟩ := wr_bits
  have hl := num_law (src := s1) (pre0 := []) (t := P) (rest := []) (k := k) (by rw [hs]; simp) ⟨by decide, by decide, by unfold isLet; rfl⟩ hk hk0 true (.inl rfl)
  simp only [List.append_nil] at hl
  rcases h with h | ⟨h, h2⟩
  · rw [one_num idGo_clean h]
    unfold oneNum
    rw [if_pos b24, b16]
    exact hl.1 h
  · rw [one_dot idGo_clean h]
    unfold oneDot
    rw [if_pos ⟨h2, b16⟩, b16]
    exact hl.2 h trivial
theorem piece_one (kind n : Nat) (s : List UInt8) (hk : kind < 7) (hn : n < 2 ^ 64) (s1 : List UInt8) (hs1 : items s1 = pieceI kind n s) : oneAt wrC s1 (pieceI kind n s) = ⟨-2 - (kind : Int), [], 0, false⟩ := by
  obtain ⟨b4, b24, b16, b64, b32, b128, b256, b512⟩ := wr_bits
  unfold pieceI at hs1 ⊢
  by_cases h1 : kind = 1
  · rw [if_pos h1] at hs1 ⊢
    rw [piece_num hs1 (int_spec n hn _ (Nat.mod_lt _ (by decide))) (by decide) (.inl (num_head n hn _)), h1]; rfl
  rw [if_neg h1] at hs1 ⊢
  by_cases h2 : kind = 2
  · rw [if_pos h2] at hs1 ⊢
    rw [piece_num hs1 (flt_spec n hn _) (by decide) (flt_head n hn _), h2]; rfl
  rw [if_neg h2] at hs1 ⊢
  by_cases h3 : kind = 3
  · rw [if_pos h3]
    have key : ∀ X : List Item, strRun 39 (X ++ [⟨39, [39]⟩]) = ([⟨39, [39]⟩], 1, 0) → oneAt wrC s1 (⟨39, [39]⟩ :: (X ++ [⟨39, [39]⟩])) = ⟨-2 - ((3 : Nat) : Int), [], 0, false⟩ := by
      intro X h
      rw [one_chr idGo_clean rfl]
      unfold oneChr
      rw [if_pos b32]
      simp only [List.tail_cons]
      rw [h]; rfl
    rw [h3]
    by_cases hs : s = []
    · rw [if_pos hs]
      refine key (ascI [92, 85, 48, 48, 49, 48, 102, 102, 102, 102]) ?_
      have e := esc_U (q := 39) (.inr rfl) (X := ascI [48, 48, 49, 48, 102, 102, 102, 102]) (rest := [⟨39, [39]⟩]) rfl (by
        intro c hc
        unfold ascI at hc
        obtain ⟨b, hb, rfl⟩ := List.mem_map.1 hc
        have ht : ([48, 48, 49, 48, 102, 102, 102, 102] : List UInt8).all (fun b => decide (digVal (b.toNat : Int) < 16)) = true := by kernel_rfl
        have := List.all_eq_true.1 ht b hb
        simpa using this)
      rw [show ascI [92, 85, 48, 48, 49, 48, 102, 102, 102, 102] ++ [⟨39, [39]⟩] = ⟨92, [92]⟩ :: ⟨85, [85]⟩ :: (ascI [48, 48, 49, 48, 102, 102, 102, 102] ++ [⟨39, [39]⟩]) from rfl]
      rw [strRun_esc0 (by decide) rfl e, strRun_stop (show chOf [⟨39, [39]⟩] = 39 from rfl)]
    · rw [if_neg hs]
      refine key (inner 39 1 s) ?_
      have e := inner_run (q := 39) (.inr rfl) 1 s [⟨39, [39]⟩] rfl
      have hl : ((items s).take 1).length = 1 := by
        have h0 : 0 < s.length := List.length_pos_iff.2 hs
        rw [items_cons h0]; rfl
      rw [hl] at e
      exact e
  rw [if_neg h3]
  by_cases h4 : kind = 4
  · rw [if_pos h4, h4]
    rw [one_str idGo_clean rfl]
    unfold oneStr
    rw [if_pos b64]
    simp only [List.tail_cons]
    have e := inner_run (q := 34) (.inl rfl) s.length s [⟨34, [34]⟩] rfl
    rw [show ((34 : Nat) : Int) = 34 from rfl] at e
    rw [e]; rfl
  rw [if_neg h4]
  by_cases h5 : kind = 5
  · rw [if_pos h5, h5]
    rw [one_raw idGo_clean rfl]
    unfold oneRaw
    rw [if_pos b128]
    simp only [List.tail_cons]
    have e : ∀ X : List Item, (∀ c ∈ X, c.r ≠ 96) → rawRun (X ++ [⟨96, [96]⟩]) = [⟨96, [96]⟩] := by
      intro X
      induction X with
      | nil => intro _; exact rawRun_stop rfl
      | cons c X ih =>
        intro h
        have hc := h c List.mem_cons_self
        exact (rawRun_step (l := c :: (X ++ [(⟨96, [96]⟩ : Item)])) (by show (c.r : Int) ≠ 96; omega)).trans (ih fun x hx => h x (List.mem_cons_of_mem _ hx))
    rw [e _ (without_ne 96 s)]; rfl
  rw [if_neg h5]
  by_cases h6 : kind = 6
  · rw [if_pos h6, h6]
    have key : ∀ X : List Item, (chOf X = 47 ∨ chOf X = 42) → comment X = ([], 0) → oneAt wrC s1 (⟨47, [47]⟩ :: X) = ⟨-2 - ((6 : Nat) : Int), [], 0, false⟩ := by
      intro X hX h
      rw [one_com idGo_clean rfl]
      unfold oneCom
      rw [if_pos (show (chOf (⟨47, [47]⟩ :: X : List Item).tail = 47 ∨ chOf (⟨47, [47]⟩ :: X : List Item).tail = 42) ∧ _ from ⟨hX, b256⟩)]
      simp only [List.tail_cons]
      rw [h, b512]; rfl
    split
    · refine key _ (.inl rfl) ?_
      unfold comment
      rw [if_pos (show chOf (⟨47, [47]⟩ :: without 10 s) = 47 from rfl)]
      simp only [List.tail_cons]
      have e : ∀ X : List Item, (∀ c ∈ X, c.r ≠ 10) → lineRun X = [] := by
        intro X
        induction X with
        | nil => intro _; rfl
        | cons c X ih =>
          intro h
          have hc := h c List.mem_cons_self
          exact (lineRun_step (l := c :: X) (by show (c.r : Int) ≠ 10; omega) (by show (0 : Int) ≤ (c.r : Int); omega)).trans (ih fun x hx => h x (List.mem_cons_of_mem _ hx))
      rw [e _ (without_ne 10 s)]
    · refine key _ (.inr rfl) ?_
      unfold comment
      rw [if_neg (show ¬ chOf (⟨42, [42]⟩ :: (without 42 s ++ [⟨42, [42]⟩, ⟨47, [47]⟩])) = 47 from by show ¬ (42 : Int) = 47; decide)]
      simp only [List.tail_cons]
      have e : ∀ X : List Item, (∀ c ∈ X, c.r ≠ 42) → comRun (X ++ [⟨42, [42]⟩, ⟨47, [47]⟩]) = ([], 0) := by
        intro X
        induction X with
        | nil => intro _; exact comRun_stop rfl rfl
        | cons c X ih =>
          intro h
          have hc := h c List.mem_cons_self
          exact (comRun_step (l := c :: (X ++ [(⟨42, [42]⟩ : Item), (⟨47, [47]⟩ : Item)])) (by show (0 : Int) ≤ (c.r : Int); omega) (.inl (by show (c.r : Int) ≠ 42; omega))).trans (ih fun x hx => h x (List.mem_cons_of_mem _ hx))
      exact e _ (without_ne 42 s)
  rw [if_neg h6]
  have hk0 : kind = 0 := by omega
  obtain ⟨ha, hne⟩ := letters_all s
  have hp0 : idGo.p0 (chOf (letters s)) = true := by
    cases hl : letters s with
    | nil => exact absurd hl hne
    | cons c t => exact (let_pos (ha c (by rw [hl]; exact List.mem_cons_self))).2.1
  rw [one_id (C := wrC) hp0 b4, hk0]
  have e : more wrC.I.p1 (letters s).tail = [] := more_all fun c hc => (let_pos (ha c (List.mem_of_mem_tail hc))).2.2
  rw [e]; rfl
theorem piece_fine (kind n : Nat) (s : List UInt8) : Fine (pieceI kind n s) := by
  have cf : ∀ (x : UInt8) (X : List Item), 0 < x.toNat ∧ x.toNat < 128 → Fine X → Fine (⟨x.toNat, [x]⟩ :: X) := fun x X hx hX c hc => by
    rcases List.mem_cons.1 hc with rfl | hc
    · exact asc_fine (l := [x]) (by intro b hb; rw [List.mem_singleton] at hb; rw [hb]; exact hx) _ List.mem_cons_self
    · exact hX c hc
  have b16 := base_fine 16 (by decide)
  have b10 := base_fine 10 (by decide)
  have b8 := base_fine 8 (by decide)
  have b2 := base_fine 2 (by decide)
  have cons : ∀ (x : UInt8) (l : List UInt8), 0 < x.toNat ∧ x.toNat < 128 → (∀ b ∈ l, 0 < b.toNat ∧ b.toNat < 128) → ∀ b ∈ x :: l, 0 < b.toNat ∧ b.toNat < 128 := fun x l hx hl b hb => by
    rcases List.mem_cons.1 hb with rfl | hb
    · exact hx
    · exact hl b hb
  have app : ∀ (k l : List UInt8), (∀ b ∈ k, 0 < b.toNat ∧ b.toNat < 128) → (∀ b ∈ l, 0 < b.toNat ∧ b.toNat < 128) → ∀ b ∈ k ++ l, 0 < b.toNat ∧ b.toNat < 128 := fun k l hk hl b hb => by
    rcases List.mem_append.1 hb with hb | hb
    · exact hk b hb
    · exact hl b hb
  unfold pieceI
  split
  · refine asc_fine ?_
    unfold numT
    split
    · exact cons _ _ (by decide) (cons _ _ (by decide) (b16 _ _))
    · split
      · exact cons _ _ (by decide) (cons _ _ (by decide) (b2 _ _))
      · split
        · exact cons _ _ (by decide) (b8 _ _)
        · exact b10 _ _
  · split
    · refine asc_fine ?_
      unfold fltT
      split
      · exact cons _ _ (by decide) (b10 _ _)
      · split
        · exact app _ _ (b10 _ _) (by decide)
        · split
          · exact app _ _ (b10 _ _) (cons _ _ (by decide) (cons _ _ (by decide) (b10 _ _)))
          · exact cons _ _ (by decide) (cons _ _ (by decide) (app _ _ (b16 _ _) (cons _ _ (by decide) (cons _ _ (by decide) (b10 _ _)))))
    · split
      · split
        · exact asc_fine (by decide)
        · exact cf 39 _ (by decide) ((inner_fine (.inr rfl) 1 s).app (cf 39 _ (by decide) Fine.nil))
      · split
        · exact cf 34 _ (by decide) ((inner_fine (.inl rfl) _ s).app (cf 34 _ (by decide) Fine.nil))
        · split
          · exact cf 96 _ (by decide) ((without_fine 96 s).app (cf 96 _ (by decide) Fine.nil))
          · split
            · split
              · exact cf 47 _ (by decide) (cf 47 _ (by decide) (without_fine 10 s))
              · exact cf 47 _ (by decide) (cf 42 _ (by decide) ((without_fine 42 s).app (cf 42 _ (by decide) (cf 47 _ (by decide) Fine.nil))))
            · exact letters_fine s
theorem piece_ch (kind n : Nat) (s : List UInt8) (hn : n < 2 ^ 64) : 32 < chOf (pieceI kind n s) := by
  have hd : ∀ l, isDec (chOf l) = true → 32 < chOf l := fun l h => by
    unfold isDec at h; simp at h; omega
  unfold pieceI
  split
  · exact hd _ (num_head n hn _)
  · split
    · rcases flt_head n hn (n.testBit 3) with h | ⟨h, -⟩
      · exact hd _ h
      · rw [h]; decide
    · split
      · split
        · show (32 : Int) < 39; decide
        · show (32 : Int) < 39; decide
      · split
        · show (32 : Int) < 34; decide
        · split
          · show (32 : Int) < 96; decide
          · split
            · split
              · show (32 : Int) < 47; decide
              · show (32 : Int) < 47; decide
            · obtain ⟨ha, hne⟩ := letters_all s
              cases hl : letters s with
              | nil => exact absurd hl hne
              | cons c t => exact (let_pos (ha c (by rw [hl]; exact List.mem_cons_self))).1
theorem piece_scan (kind n : Nat) (s : List UInt8) (hk : kind < 7) (hn : n < 2 ^ 64) (s1 : List UInt8) (hs1 : items s1 = pieceI kind n s) : scanGo wrC s1 (pieceI kind n s) = ⟨-2 - (kind : Int), pieceI kind n s, [], 0⟩ :=
  scan_stop0 (white_high (by decide) (piece_ch kind n s hn)) (piece_one kind n s hk hn s1 hs1)
def gapB (k : Nat) : List UInt8 := if k = 0 then [10] else if k = 1 then [10, 9] else if k = 2 then [10, 32, 13, 10] else [10, 10, 32, 32]
def gapIx (z : Int) : Nat := (z % 4).toNat
def gapOf (gaps : List Int) (i : Nat) : List UInt8 := if gaps = [] then (if i = 0 then [] else [10]) else gapB (gapIx (gaps.getD (i % gaps.length) 0))
theorem gapB_in (k : Nat) : ∀ b ∈ gapB k, b ∈ ([10, 9, 32, 13] : List UInt8) := by
  unfold gapB
  repeat' split
  all_goals decide
theorem gapB_white (k : Nat) : ∀ b ∈ gapB k, isWh wrC.white (b.toNat : Int) = true := by
  have ht : ([10, 9, 32, 13] : List UInt8).all (fun b => isWh wrC.white (b.toNat : Int)) = true := by kernel_rfl
  intro b hb
  exact List.all_eq_true.1 ht b (gapB_in k b hb)
theorem gap_white (gaps : List Int) (i : Nat) : ∀ b ∈ gapOf gaps i, isWh wrC.white (b.toNat : Int) = true := by
  unfold gapOf
  split
  · split
    · intro b hb; cases hb
    · exact gapB_white 0
  · exact gapB_white _
theorem gap_fine (gaps : List Int) (i : Nat) : Fine (ascI (gapOf gaps i)) := by
  refine asc_fine ?_
  unfold gapOf gapB
  repeat' split
  all_goals decide
theorem gap_head (gaps : List Int) (i : Nat) (h : 0 < i) : ∃ t, ascI (gapOf gaps i) = nlI :: t := by
  unfold gapOf gapB
  repeat' split
  all_goals first
    | omega
    | exact ⟨_, rfl⟩
structure Pc where
  k : Nat
  n : Nat
  s : List UInt8
structure Pc.Ok (p : Pc) : Prop where
  k : p.k < 7
  n : p.n < 2 ^ 64
def Pc.I (p : Pc) : List Item := pieceI p.k p.n p.s
def layI (gaps : List Int) : List Pc → Nat → List Item
  | [], _ => []
  | p :: ps, i => ascI (gapOf gaps i) ++ (p.I ++ layI gaps ps (i + 1))
theorem lay_cons (gaps : List Int) (p : Pc) (ps : List Pc) (i : Nat) : layI gaps (p :: ps) i = ascI (gapOf gaps i) ++ (p.I ++ layI gaps ps (i + 1)) := rfl
def plcI (pre : List Item) : K.S35 := ⟨((bytesOf pre).length : Nat), ((posOf pre).1 : Nat), ((posOf pre).2.1 + 1 : Nat)⟩
def layT (gaps : List Int) : List Pc → Nat → List Item → List K.S37
  | [], _, pre => [⟨-1, ⟨#[]⟩, plcI pre, plcI pre⟩]
  | p :: ps, i, pre => ⟨-2 - (p.k : Int), ⟨(bytesOf p.I).toArray⟩, plcI (pre ++ ascI (gapOf gaps i)), plcI (pre ++ ascI (gapOf gaps i) ++ p.I)⟩ :: layT gaps ps (i + 1) (pre ++ ascI (gapOf gaps i) ++ p.I)
theorem lay_fine (gaps : List Int) : ∀ (ps : List Pc) (i : Nat), Fine (layI gaps ps i)
  | [], _ => Fine.nil
  | p :: ps, i => (gap_fine gaps i).app ((piece_fine _ _ _).app (lay_fine gaps ps (i + 1)))
theorem plc_pre {src : List UInt8} {pre l : List Item} (h : items src = pre ++ l) : offOf src l = (bytesOf pre).length ∧ lineAt src l = (posOf pre).1 ∧ colAt src l = (posOf pre).2.1 + 1 := by
  unfold lineAt colAt
  rw [offOf_pre h, behind_pre h]
  exact ⟨rfl, rfl, rfl⟩
theorem scan_whites {C : Cfg} {src : List UInt8} : ∀ (g : List UInt8) (m : List Item), (∀ b ∈ g, isWh C.white (b.toNat : Int) = true) → scanGo C src (ascI g ++ m) = scanGo C src m
  | [], m, _ => rfl
  | b :: g, m, h => by
    have hb := h b List.mem_cons_self
    rw [scan_white (l := ascI (b :: g) ++ m) (by exact hb)]
    exact scan_whites g m fun x hx => h x (List.mem_cons_of_mem _ hx)
theorem wr_p1 : wrC.I.p1 10 = false := by kernel_rfl
theorem wr_wh : isWh wrC.white 10 = true := by kernel_rfl
theorem lay_scan (gaps : List Int) (p : Pc) (hp : p.Ok) (ps : List Pc) (i : Nat) {src : List UInt8} {pre : List Item} (h : items src = pre ++ layI gaps (p :: ps) i) :
    scanGo wrC src (layI gaps (p :: ps) i) = ⟨-2 - (p.k : Int), p.I ++ layI gaps ps (i + 1), layI gaps ps (i + 1), 0⟩ := by
  have hsf : p.I ++ layI gaps ps (i + 1) <:+ items src := by
    rw [h]
    exact ⟨pre ++ ascI (gapOf gaps i), by rw [lay_cons]; simp⟩
  have hs1 : items (bytesOf p.I) = p.I := (piece_fine _ _ _).items
  have hsc := piece_scan p.k p.n p.s hp.k hp.n (bytesOf p.I) hs1
  show scanGo wrC src (ascI (gapOf gaps i) ++ (p.I ++ layI gaps ps (i + 1))) = _
  rw [scan_whites _ _ (gap_white gaps i)]
  cases ps with
  | nil =>
    show scanGo wrC src (p.I ++ []) = ⟨_, p.I ++ [], [], 0⟩
    have hsf' : p.I <:+ items src := by
      have : p.I ++ layI gaps [] (i + 1) = p.I := List.append_nil _
      rw [this] at hsf; exact hsf
    rw [List.append_nil, scanGo_src (s2 := bytesOf p.I) hsf' (by rw [hs1]; exact List.suffix_refl _)]
    exact hsc
  | cons q qs =>
    obtain ⟨t, ht⟩ := gap_head gaps (i + 1) (by omega)
    have e : layI gaps (q :: qs) (i + 1) = nlI :: (t ++ (q.I ++ layI gaps qs (i + 1 + 1))) := by
      rw [lay_cons, ht]; rfl
    rw [e] at hsf ⊢
    have hj := jn_scanGo (C := wrC) wr_p1 wr_wh (s1 := bytesOf p.I) (s2 := src) (m := t ++ (q.I ++ layI gaps qs (i + 1 + 1))) (l := p.I) (by rw [hs1]; exact List.suffix_refl _) hsf (by rw [show scanGo wrC (bytesOf p.I) p.I = _ from hsc])
    have hj2 : scanGo wrC (bytesOf p.I) p.I = ⟨-2 - (p.k : Int), p.I, [], 0⟩ := hsc
    rw [hj2] at hj
    simp only at hj
    rw [if_neg (by omega)] at hj
    exact hj
theorem lay_toks (gaps : List Int) {src : List UInt8} : ∀ (ps : List Pc) (i : Nat) (pre : List Item), (∀ p ∈ ps, p.Ok) → items src = pre ++ layI gaps ps i →
    (toks wrC src (layI gaps ps i)).map (tokT src) = layT gaps ps i pre ∧ errsOf (toks wrC src (layI gaps ps i)) = 0
  | [], i, pre, _, h => by
    have h' : items src = pre ++ [] := h
    obtain ⟨e1, e2, e3⟩ := plc_pre h'
    have hg : scanGo wrC src [] = ⟨-1, [], [], 0⟩ := scan_stop0 rfl one_end
    show (toks wrC src []).map (tokT src) = _ ∧ errsOf (toks wrC src []) = 0
    rw [toks_end (by rw [hg]), hg]
    refine ⟨?_, rfl⟩
    unfold layT plcI
    show [tokT src ⟨-1, [], [], 0⟩] = _
    unfold tokT
    simp only
    rw [e1, e2, e3]
    have ht : txt src (bytesOf pre).length [] = [] := by
      unfold txt
      rw [e1, Nat.sub_self, List.take_zero]
    rw [ht]
  | p :: ps, i, pre, hp, h => by
    have hsc := lay_scan gaps p (hp p List.mem_cons_self) ps i h
    have h1 : items src = (pre ++ ascI (gapOf gaps i)) ++ (p.I ++ layI gaps ps (i + 1)) := by rw [h, lay_cons]; simp
    have h2 : items src = (pre ++ ascI (gapOf gaps i) ++ p.I) ++ layI gaps ps (i + 1) := by rw [h1]; simp
    obtain ⟨i1, i2⟩ := lay_toks gaps ps (i + 1) _ (fun q hq => hp q (List.mem_cons_of_mem _ hq)) h2
    obtain ⟨e1, e2, e3⟩ := plc_pre h1
    obtain ⟨f1, f2, f3⟩ := plc_pre h2
    have hne : p.I ≠ [] := by
      intro e
      have := piece_ch p.k p.n p.s (hp p List.mem_cons_self).n
      rw [show pieceI p.k p.n p.s = p.I from rfl, e] at this
      exact absurd this (by decide)
    have hlen : (layI gaps ps (i + 1)).length < (layI gaps (p :: ps) i).length := by
      have : 0 < p.I.length := List.length_pos_iff.2 hne
      show _ < (ascI (gapOf gaps i) ++ (p.I ++ layI gaps ps (i + 1))).length
      rw [List.length_append, List.length_append]; omega
    rw [toks_step (by rw [hsc]; simp only; omega) (by rw [hsc]; exact hlen), hsc]
    refine ⟨?_, ?_⟩
    · rw [List.map_cons, i1]
      show tokT src ⟨-2 - (p.k : Int), p.I ++ layI gaps ps (i + 1), layI gaps ps (i + 1), 0⟩ :: _ = _
      rw [layT]
      congr 1
      unfold tokT plcI
      simp only
      rw [txt_bytes h1, e1, e2, e3, f1, f2, f3]
    · unfold errsOf at i2 ⊢
      rw [List.map_cons, List.sum_cons, i2]
theorem lay_law (gaps : List Int) (ps : List Pc) (hp : ∀ p ∈ ps, p.Ok) (hl : (bytesOf (layI gaps ps 0)).length ≤ 10000000000) :
    errNum wrC (bytesOf (layI gaps ps 0)) = 0 ∧ startL (bytesOf (layI gaps ps 0)) = items (bytesOf (layI gaps ps 0)) ∧
    K.laws_same.f (((toks wrC (bytesOf (layI gaps ps 0)) (items (bytesOf (layI gaps ps 0)))).map (tokOf (bytesOf (layI gaps ps 0)))).length + 1) ((toks wrC (bytesOf (layI gaps ps 0)) (items (bytesOf (layI gaps ps 0)))).map (tokOf (bytesOf (layI gaps ps 0)))) (layT gaps ps 0 []) = some true := by
  have hf := lay_fine gaps ps 0
  have hi := hf.items
  have hs : sureL (items (bytesOf (layI gaps ps 0))) = true := by rw [hi]; exact hf.sure
  obtain ⟨h1, h2⟩ := lay_toks gaps (src := bytesOf (layI gaps ps 0)) ps 0 [] hp (by rw [hi]; rfl)
  refine ⟨sure_err hs (by rw [hi]; exact h2), (sure_all2 hs).2, ?_⟩
  have h3 := toks_same2 wrC (bytesOf (layI gaps ps 0)) hl
  rw [hi] at h3 ⊢
  rw [← h1]
  exact h3
end Go.Proofs.YtmfihkgbfoapaaaDoor
