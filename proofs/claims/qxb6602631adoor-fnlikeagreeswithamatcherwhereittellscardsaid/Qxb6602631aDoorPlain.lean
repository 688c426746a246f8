/-
  Plain functions and laws on lists of bytes: a LIKE pattern's literal start, its tokens, and the matcher's table, with no Go in sight.
-/
namespace Go.Proofs.Qxb6602631aDoor

/-- The literal start of a pattern and what follows it; none where a backslash ends the pattern inside that start. -/
def headL : List UInt8 → Option (List UInt8 × List UInt8)
  | [] => some ([], [])
  | c :: r =>
    if c = 37 ∨ c = 95 then some ([], c :: r)
    else if c = 92 then
      match r with
      | [] => none
      | d :: r' => (headL r').map fun x => (d :: x.1, x.2)
    else (headL r).map fun x => (c :: x.1, x.2)

/-- The tokens of a pattern (kind, byte); none where a lone backslash ends it. -/
def tokL : List UInt8 → Option (List (UInt8 × UInt8))
  | [] => some []
  | c :: r =>
    if c = 92 then
      match r with
      | [] => none
      | d :: r' => (tokL r').map fun x => (76, d) :: x
    else if c = 37 ∨ c = 95 then (tokL r).map fun x => (c, c) :: x
    else (tokL r).map fun x => (76, c) :: x

theorem headL_wild (c : UInt8) (r : List UInt8) (h : c = 37 ∨ c = 95) : headL (c :: r) = some ([], c :: r) := by
  rw [headL.eq_def]; simp [h]
theorem headL_esc (d : UInt8) (r : List UInt8) : headL (92 :: d :: r) = (headL r).map fun x => (d :: x.1, x.2) := by
  rw [headL.eq_def]; simp
theorem headL_bad : headL [92] = none := by rw [headL.eq_def]; simp
theorem headL_lit (c : UInt8) (r : List UInt8) (h : ¬ (c = 37 ∨ c = 95)) (h2 : c ≠ 92) : headL (c :: r) = (headL r).map fun x => (c :: x.1, x.2) := by
  rw [headL.eq_def]; simp [h, h2]
theorem tokL_wild (c : UInt8) (r : List UInt8) (h : c = 37 ∨ c = 95) : tokL (c :: r) = (tokL r).map fun x => (c, c) :: x := by
  rw [tokL.eq_def]
  have : c ≠ 92 := by rintro rfl; revert h; decide
  simp [h, this]
theorem tokL_esc (d : UInt8) (r : List UInt8) : tokL (92 :: d :: r) = (tokL r).map fun x => (76, d) :: x := by
  rw [tokL.eq_def]; simp
theorem tokL_bad : tokL [92] = none := by rw [tokL.eq_def]; simp
theorem tokL_lit (c : UInt8) (r : List UInt8) (h : ¬ (c = 37 ∨ c = 95)) (h2 : c ≠ 92) : tokL (c :: r) = (tokL r).map fun x => (76, c) :: x := by
  rw [tokL.eq_def]; simp [h, h2]

/-- The pattern's tokens are its literal start's, then those of what follows. -/
theorem tok_head : ∀ (n : Nat) (p l q : List UInt8), p.length ≤ n → headL p = some (l, q) → tokL p = (tokL q).map fun x => l.map (fun c => ((76 : UInt8), c)) ++ x
  | 0, p, l, q, hn, h => by
    have : p = [] := List.eq_nil_of_length_eq_zero (by omega)
    subst this
    simp [headL] at h
    obtain ⟨rfl, rfl⟩ := h
    simp [tokL]
  | n + 1, [], l, q, hn, h => by
    simp [headL] at h
    obtain ⟨rfl, rfl⟩ := h
    simp [tokL]
  | n + 1, c :: r, l, q, hn, h => by
    simp only [List.length_cons] at hn
    by_cases hw : c = 37 ∨ c = 95
    · rw [headL_wild c r hw] at h
      simp at h
      obtain ⟨rfl, rfl⟩ := h
      cases tokL (c :: r) <;> simp
    · by_cases hb : c = 92
      · subst hb
        match r, hn, h with
        | [], _, h => rw [headL_bad] at h; cases h
        | d :: r', hn, h =>
          rw [headL_esc] at h
          simp only [List.length_cons] at hn
          cases h' : headL r' with
          | none => rw [h'] at h; cases h
          | some x =>
            rw [h'] at h
            obtain ⟨l', q'⟩ := x
            simp at h
            obtain ⟨rfl, rfl⟩ := h
            rw [tokL_esc, tok_head n r' l' q' (by omega) h']
            cases tokL q' <;> simp
      · rw [headL_lit c r hw hb] at h
        cases h' : headL r with
        | none => rw [h'] at h; cases h
        | some x =>
          rw [h'] at h
          obtain ⟨l', q'⟩ := x
          simp at h
          obtain ⟨rfl, rfl⟩ := h
          rw [tokL_lit c r hw hb, tok_head n r l' q' (by omega) h']
          cases tokL q' <;> simp

theorem tok_pct : ∀ (q : List UInt8), (q.all fun c => decide (c.toNat = 37)) = true → tokL q = some (q.map fun _ => ((37 : UInt8), (37 : UInt8)))
  | [], _ => by simp [tokL]
  | c :: r, h => by
    simp only [List.all_cons, Bool.and_eq_true, decide_eq_true_eq] at h
    have hc : c = 37 := UInt8.toNat.inj h.1
    subst hc
    rw [tokL_wild _ _ (.inl rfl), tok_pct r h.2]
    simp

/-! ### The matcher's table -/
def row0 (kd : Nat → Int) : Nat → Bool
  | 0 => true
  | j + 1 => row0 kd j && (kd j == 37)
def rowS (kd lt : Nat → Int) (x : Int) (pv : Nat → Bool) : Nat → Bool
  | 0 => false
  | j + 1 => if kd j == 37 then rowS kd lt x pv j || pv (j + 1) else pv j && (kd j == 95 || lt j == x)
def rows (kd lt s : Nat → Int) : Nat → Nat → Bool
  | 0 => row0 kd
  | a + 1 => rowS kd lt (s a) (rows kd lt s a)

/-- Over literal tokens a row holds at one place alone. -/
theorem rows_lit (kd lt s : Nat → Int) (m : Nat) (hk : ∀ j, j < m → kd j = 76) : ∀ (j a : Nat), j ≤ m → (rows kd lt s a j = true ↔ a = j ∧ ∀ i, i < j → lt i = s i)
  | 0, 0, _ => by simp [rows, row0]
  | 0, a + 1, _ => by simp [rows, rowS]
  | j + 1, 0, hj => by simp [rows, row0, hk j (by omega)]
  | j + 1, a + 1, hj => by
    have ih := rows_lit kd lt s m hk j a (by omega)
    simp only [rows, rowS, hk j (by omega)]
    have e1 : ((76 : Int) == 37) = false := rfl
    have e2 : ((76 : Int) == 95) = false := rfl
    rw [e1, e2]
    simp only [Bool.false_or, Bool.false_eq_true, if_false, Bool.and_eq_true, ih, beq_iff_eq]
    constructor
    · rintro ⟨⟨rfl, h⟩, h2⟩
      refine ⟨rfl, fun i hi => ?_⟩
      by_cases e : i = a
      · subst e; exact h2
      · exact h i (by omega)
    · rintro ⟨h1, h⟩
      obtain rfl : a = j := by omega
      exact ⟨⟨rfl, fun i hi => h i (by omega)⟩, h a (by omega)⟩

/-- Whatever holds behind the literal tokens held at their end, at some earlier place. -/
theorem rows_past (kd lt s : Nat → Int) (m : Nat) : ∀ (d a : Nat), rows kd lt s a (m + d) = true → ∃ a', a' ≤ a ∧ rows kd lt s a' m = true
  | 0, a, h => ⟨a, Nat.le_refl _, h⟩
  | d + 1, 0, h => by
    have : rows kd lt s 0 (m + d) = true := by
      simp only [rows] at h ⊢
      rw [show m + (d + 1) = (m + d) + 1 from rfl, row0] at h
      simp at h
      exact h.1
    exact rows_past kd lt s m d 0 this
  | d + 1, a + 1, h => by
    simp only [rows] at h
    rw [show m + (d + 1) = (m + d) + 1 from rfl, rowS] at h
    split at h
    · simp only [Bool.or_eq_true] at h
      rcases h with h | h
      · obtain ⟨a', h1, h2⟩ := rows_past kd lt s m d (a + 1) (by simpa only [rows] using h)
        exact ⟨a', h1, h2⟩
      · obtain ⟨a', h1, h2⟩ := rows_past kd lt s m (d + 1) a h
        exact ⟨a', by omega, h2⟩
    · simp only [Bool.and_eq_true] at h
      obtain ⟨a', h1, h2⟩ := rows_past kd lt s m d a h.1
      exact ⟨a', by omega, h2⟩

/-- Percent tokens keep what holds, at every later place. -/
theorem rows_pct (kd lt s : Nat → Int) (m t b : Nat) (hk : ∀ j, m ≤ j → j < t → kd j = 37) (hb : rows kd lt s b m = true) :
    ∀ (d e : Nat), m + d ≤ t → (d = 0 → e = 0) → rows kd lt s (b + e) (m + d) = true
  | 0, e, _, he => by rw [he rfl]; exact hb
  | d + 1, 0, hd, _ => by
    have ih := rows_pct kd lt s m t b hk hb d 0 (by omega) (fun _ => rfl)
    have hkk := hk (m + d) (by omega) (by omega)
    cases b with
    | zero =>
      simp only [rows] at ih ⊢
      rw [show m + (d + 1) = (m + d) + 1 from rfl, row0, ih, hkk]; rfl
    | succ b =>
      simp only [rows] at ih ⊢
      rw [show m + (d + 1) = (m + d) + 1 from rfl, rowS, hkk, ih]; rfl
  | d + 1, e + 1, hd, _ => by
    have ih := rows_pct kd lt s m t b hk hb (d + 1) e hd (fun h => by omega)
    have hkk := hk (m + d) (by omega) (by omega)
    rw [show b + (e + 1) = (b + e) + 1 from rfl]
    simp only [rows]
    rw [show m + (d + 1) = (m + d) + 1 from rfl, rowS, hkk]
    rw [show m + (d + 1) = (m + d) + 1 from rfl] at ih
    rw [ih]
    simp

/-! ### The matcher as a function of the bytes -/
def kdL (ts : List (UInt8 × UInt8)) (j : Nat) : Int := ((ts.getD j (0, 0)).1.toNat : Int)
def ltL (ts : List (UInt8 × UInt8)) (j : Nat) : Int := ((ts.getD j (0, 0)).2.toNat : Int)
def byL (s : List UInt8) (i : Nat) : Int := ((s.getD i 0).toNat : Int)
def matchL (s p : List UInt8) : Bool :=
  match tokL p with
  | none => false
  | some ts => rows (kdL ts) (ltL ts) (byL s) s.length ts.length

theorem u8_int {a b : UInt8} : ((a.toNat : Int) = (b.toNat : Int)) ↔ a = b :=
  ⟨fun h => UInt8.toNat.inj (by omega), fun h => by rw [h]⟩

theorem kd_pre (l : List UInt8) (x : List (UInt8 × UInt8)) (j : Nat) (h : j < l.length) : kdL (l.map (fun c => ((76 : UInt8), c)) ++ x) j = 76 := by
  unfold kdL
  rw [List.getD_eq_getElem?_getD, List.getElem?_append_left (by simpa using h)]
  simp [h]
theorem lt_pre (l : List UInt8) (x : List (UInt8 × UInt8)) (j : Nat) (h : j < l.length) : ltL (l.map (fun c => ((76 : UInt8), c)) ++ x) j = byL l j := by
  unfold ltL byL
  rw [List.getD_eq_getElem?_getD, List.getElem?_append_left (by simpa using h)]
  simp [h]
theorem pre_iff (l s : List UInt8) : (l.isPrefixOf s = true) ↔ l.length ≤ s.length ∧ ∀ i, i < l.length → byL l i = byL s i := by
  rw [List.isPrefixOf_iff_prefix, List.prefix_iff_eq_take]
  constructor
  · intro h
    have hl : l.length ≤ s.length := by
      have := congrArg List.length h
      simp at this; omega
    refine ⟨hl, fun i hi => ?_⟩
    unfold byL
    have : l.getD i 0 = (s.take l.length).getD i 0 := by rw [← h]
    rw [this]
    simp [hi]
  · rintro ⟨hl, h⟩
    apply List.ext_getElem
    · simp; omega
    · intro i h1 h2
      have := h i h1
      unfold byL at this
      rw [u8_int] at this
      simp at h2
      simpa [List.getD_eq_getElem?_getD, h1, List.getElem?_eq_getElem (show i < s.length by omega)] using this

/-- A pattern without a wildcard matches itself alone. -/
theorem match_none (s p l : List UInt8) (h : headL p = some (l, [])) : matchL s p = (s == l) := by
  have ht := tok_head p.length p l [] (Nat.le_refl _) h
  have ht' : tokL p = some (l.map (fun c => ((76 : UInt8), c)) ++ []) := by rw [ht]; simp [tokL]
  unfold matchL
  rw [ht']
  simp only [List.append_nil, List.length_map]
  have hr := rows_lit (kdL (l.map fun c => ((76 : UInt8), c))) (ltL (l.map fun c => ((76 : UInt8), c))) (byL s) l.length
    (fun j hj => by have := kd_pre l [] j hj; simpa using this) l.length s.length (Nat.le_refl _)
  rw [Bool.eq_iff_iff, hr, beq_iff_eq]
  have hlt : ∀ i, i < l.length → ltL (l.map fun c => ((76 : UInt8), c)) i = byL l i := fun i hi => by have := lt_pre l [] i hi; simpa using this
  constructor
  · rintro ⟨h1, h2⟩
    have := (pre_iff l s).2 ⟨by omega, fun i hi => by rw [← hlt i hi]; exact h2 i hi⟩
    rw [List.isPrefixOf_iff_prefix] at this
    exact (this.eq_of_length h1.symm).symm
  · rintro rfl
    exact ⟨rfl, fun i hi => hlt i hi⟩

/-- A text that does not begin with the literal start does not match. -/
theorem match_off (s p l q : List UInt8) (h : headL p = some (l, q)) (hp : l.isPrefixOf s = false) : matchL s p = false := by
  have ht := tok_head p.length p l q (Nat.le_refl _) h
  unfold matchL
  rw [ht]
  cases hq : tokL q with
  | none => rfl
  | some x =>
    simp only [Option.map_some, List.length_append, List.length_map]
    rw [Bool.eq_false_iff]
    intro hr
    obtain ⟨a', h1, h2⟩ := rows_past _ _ _ l.length x.length s.length hr
    rw [rows_lit _ _ _ l.length (fun j hj => kd_pre l x j hj) l.length a' (Nat.le_refl _)] at h2
    have : l.isPrefixOf s = true := (pre_iff l s).2 ⟨by omega, fun i hi => by rw [← lt_pre l x i hi]; exact h2.2 i hi⟩
    rw [hp] at this; cases this

/-- A text that begins with it matches where only percent signs follow. -/
theorem match_on (s p l q : List UInt8) (h : headL p = some (l, q)) (hq : q ≠ []) (hpc : (q.all fun c => decide (c.toNat = 37)) = true) (hp : l.isPrefixOf s = true) : matchL s p = true := by
  have ht := tok_head p.length p l q (Nat.le_refl _) h
  unfold matchL
  rw [ht, tok_pct q hpc]
  simp only [Option.map_some, List.length_append, List.length_map]
  obtain ⟨hl, hb⟩ := (pre_iff l s).1 hp
  have hm : rows (kdL (l.map (fun c => ((76 : UInt8), c)) ++ q.map fun _ => ((37 : UInt8), (37 : UInt8)))) (ltL (l.map (fun c => ((76 : UInt8), c)) ++ q.map fun _ => ((37 : UInt8), (37 : UInt8)))) (byL s) l.length l.length = true :=
    (rows_lit _ _ _ l.length (fun j hj => kd_pre l _ j hj) l.length l.length (Nat.le_refl _)).2 ⟨rfl, fun i hi => by rw [lt_pre l _ i hi]; exact hb i hi⟩
  have hk : ∀ j, l.length ≤ j → j < l.length + q.length → kdL (l.map (fun c => ((76 : UInt8), c)) ++ q.map fun _ => ((37 : UInt8), (37 : UInt8))) j = 37 := by
    intro j h1 h2
    unfold kdL
    rw [List.getD_eq_getElem?_getD, List.getElem?_append_right (by simpa using h1)]
    simp [show j - l.length < q.length by omega]
  have := rows_pct _ _ _ l.length (l.length + q.length) l.length hk hm q.length (s.length - l.length) (Nat.le_refl _) (fun e => absurd (List.eq_nil_of_length_eq_zero e) hq)
  rw [show l.length + (s.length - l.length) = s.length by omega] at this
  exact this

end Go.Proofs.Qxb6602631aDoor
