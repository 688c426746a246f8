/-
  Plain facts on classRanges' answer: where it ends, what it may count, and that the text behind its end does not matter.
-/
import Derived.Test.Qxb6603283aDoorShift
namespace Go.Proofs.Qxb6603283aDoor

def cnt (l : List UInt8) : Nat := l.count 45

theorem clsL_drop (r : List UInt8) : ∃ n, clsL r = r.drop n := by
  unfold clsL
  split
  · split
    · obtain ⟨n, _, e⟩ := nameL_drop (r.drop 1)
      exact ⟨1 + (n + 2), by rw [e, List.drop_drop, List.drop_drop]⟩
    · exact ⟨0, rfl⟩
  · exact ⟨0, rfl⟩
theorem nextL_drop (c : UInt8) (r : List UInt8) : ∃ v, r = v ++ nextL c r := by
  have : ∃ n, nextL c r = r.drop n := by
    unfold nextL
    split
    · exact ⟨1, rfl⟩
    · split
      · exact clsL_drop r
      · exact ⟨0, rfl⟩
  obtain ⟨n, e⟩ := this
  exact ⟨r.take n, by rw [e]; exact (List.take_append_drop n r).symm⟩
theorem hit_le (c : UInt8) (r : List UInt8) : hit c r false ≤ cnt [c] := by
  unfold hit cnt
  split
  · rename_i h
    subst h
    rw [if_neg (by decide)]
    split <;> simp
  · exact Nat.zero_le _
theorem hit_first (c : UInt8) (r : List UInt8) : hit c r true = 0 := by
  unfold hit
  split <;> rfl

/-- What the reading leaves, and what it may have counted. -/
theorem scan_split : ∀ (n : Nat) (l : List UInt8) (b : Bool), l.length ≤ n → ∃ u, l = u ++ (scan l b).2 ∧ (scan l b).1 ≤ cnt (if b then u.drop 1 else u) ∧ ((scan l b).2 = [] ∨ ∃ t, (scan l b).2 = 93 :: t) ∧ (b = true → (scan l b).2 ≠ [] → u ≠ [])
  | _, [], b, _ => ⟨[], by rw [scan_nil]; rfl, by rw [scan_nil]; exact Nat.zero_le _, .inl (by rw [scan_nil]), fun _ h => absurd (by rw [scan_nil]) h⟩
  | 0, c :: r, b, h => by simp at h
  | n + 1, c :: r, b, h => by
    by_cases hs : c = 93 ∧ b = false
    · obtain ⟨rfl, rfl⟩ := hs
      rw [scan_stop]
      exact ⟨[], rfl, Nat.zero_le _, .inr ⟨r, rfl⟩, fun h => by cases h⟩
    · obtain ⟨v, hv⟩ := nextL_drop c r
      have hl := nextL_le c r
      simp only [List.length_cons] at h
      obtain ⟨u, h1, h2, h3, _⟩ := scan_split n (nextL c r) false (by omega)
      rw [scan_step c r b hs]
      refine ⟨c :: v ++ u, ?_, ?_, h3, fun _ _ => by simp⟩
      · simp only [List.cons_append, List.append_assoc]
        rw [← h1, ← hv]
      · simp only [Bool.false_eq_true, if_false] at h2
        cases b with
        | true =>
          rw [hit_first]
          simp only [if_true, List.cons_append, List.drop_succ_cons, List.drop_zero, Nat.add_zero]
          refine Nat.le_trans h2 ?_
          unfold cnt; rw [List.count_append]; omega
        | false =>
          have := hit_le c r
          simp only [Bool.false_eq_true, if_false, List.cons_append]
          unfold cnt at *
          rw [List.count_cons, List.count_append]
          rw [List.count_singleton] at this
          omega

/-! ### The text behind the end does not matter -/
theorem az_93 : az.contains 93 = false := rfl
theorem dropWhile_cut (p : UInt8 → Bool) (hp : p 93 = false) (t : List UInt8) : ∀ a : List UInt8, ∃ q, (a ++ 93 :: t).dropWhile p = q ++ 93 :: t ∧ (a ++ [93]).dropWhile p = q ++ [93]
  | [] => ⟨[], by simp [hp], by simp [hp]⟩
  | c :: a => by
    cases h : p c
    · exact ⟨c :: a, by simp [h], by simp [h]⟩
    · obtain ⟨q, h1, h2⟩ := dropWhile_cut p hp t a
      exact ⟨q, by simp only [List.cons_append, List.dropWhile, h]; exact h1, by simp only [List.cons_append, List.dropWhile, h]; exact h2⟩
theorem hasPrefix_one (c d : UInt8) (r : List UInt8) : Lib.hasPrefix (c :: r) [d] = (d == c) := by
  simp [Lib.hasPrefix, List.isPrefixOf]
theorem hasPrefix_two (c c2 d d2 : UInt8) (r : List UInt8) : Lib.hasPrefix (c :: c2 :: r) [d, d2] = ((d == c) && (d2 == c2)) := by
  simp [Lib.hasPrefix, List.isPrefixOf]
theorem hasPrefix_two_one (c d d2 : UInt8) : Lib.hasPrefix [c] [d, d2] = false := by
  simp [Lib.hasPrefix, List.isPrefixOf]
theorem nameL_cut (a t : List UInt8) : ∃ q, nameL (a ++ 93 :: t) = q ++ 93 :: t ∧ nameL (a ++ [93]) = q ++ [93] := by
  unfold nameL Lib.trimPrefix Lib.trimLeftS
  cases a with
  | nil =>
    simp only [List.nil_append]
    rw [hasPrefix_one, hasPrefix_one]
    exact dropWhile_cut (az.contains ·) az_93 t []
  | cons c a =>
    simp only [List.cons_append]
    rw [hasPrefix_one, hasPrefix_one]
    split
    · exact dropWhile_cut (az.contains ·) az_93 t a
    · exact dropWhile_cut (az.contains ·) az_93 t (c :: a)
theorem clsL_cut (a t : List UInt8) (h : t.length + 1 ≤ (clsL (a ++ 93 :: t)).length) : ∃ q, clsL (a ++ 93 :: t) = q ++ 93 :: t ∧ clsL (a ++ [93]) = q ++ [93] := by
  unfold clsL at h ⊢
  cases a with
  | nil =>
    simp only [List.nil_append]
    rw [hasPrefix_one, hasPrefix_one]
    exact ⟨[], rfl, rfl⟩
  | cons c a =>
    simp only [List.cons_append, List.drop_succ_cons, List.drop_zero] at h ⊢
    rw [hasPrefix_one] at h ⊢
    rw [hasPrefix_one]
    split
    · rename_i hc
      rw [if_pos hc] at h
      obtain ⟨q, h1, h2⟩ := nameL_cut a t
      rw [h1] at h ⊢
      rw [h2]
      match q, h with
      | [], h =>
        simp only [List.nil_append] at h ⊢
        have e1 : Lib.hasPrefix (93 :: t) [58, 93] = false := by
          cases t with
          | nil => exact hasPrefix_two_one _ _ _
          | cons x t => rw [hasPrefix_two]; rfl
        rw [e1, hasPrefix_two_one]
        exact ⟨c :: a, rfl, rfl⟩
      | [x], h =>
        simp only [List.cons_append, List.nil_append] at h ⊢
        rw [hasPrefix_two] at h ⊢
        rw [hasPrefix_two]
        split
        · rename_i hx
          rw [if_pos hx] at h
          simp at h
          omega
        · exact ⟨c :: a, rfl, rfl⟩
      | x :: y :: q, h =>
        simp only [List.cons_append] at h ⊢
        rw [hasPrefix_two, hasPrefix_two]
        split
        · exact ⟨q, rfl, rfl⟩
        · exact ⟨c :: a, rfl, rfl⟩
    · exact ⟨c :: a, rfl, rfl⟩
theorem nextL_cut (c : UInt8) (a t : List UInt8) (h : t.length + 1 ≤ (nextL c (a ++ 93 :: t)).length) : ∃ q, nextL c (a ++ 93 :: t) = q ++ 93 :: t ∧ nextL c (a ++ [93]) = q ++ [93] := by
  unfold nextL at h ⊢
  split
  · rename_i hc
    rw [if_pos hc] at h
    cases a with
    | nil => simp at h; omega
    | cons x a => exact ⟨a, rfl, rfl⟩
  · rename_i hc
    rw [if_neg hc] at h
    split
    · rename_i h2
      rw [if_pos h2] at h
      exact clsL_cut a t h
    · exact ⟨a, rfl, rfl⟩
theorem hit_cut (c : UInt8) (a t : List UInt8) (b : Bool) : hit c (a ++ [93]) b = hit c (a ++ 93 :: t) b := by
  have e : Lib.hasPrefix (a ++ [93]) [93] = Lib.hasPrefix (a ++ 93 :: t) [93] := by
    cases a with
    | nil => simp only [List.nil_append]; rw [hasPrefix_one, hasPrefix_one]
    | cons x a => simp only [List.cons_append]; rw [hasPrefix_one, hasPrefix_one]
  unfold hit
  simp only [e]

theorem scan_len (l : List UInt8) (b : Bool) : (scan l b).2.length ≤ l.length := scan_le _ _ _
theorem scan_cut : ∀ (n : Nat) (a t : List UInt8) (b : Bool), a.length ≤ n → (scan (a ++ 93 :: t) b).2 = 93 :: t → scan (a ++ [93]) b = ((scan (a ++ 93 :: t) b).1, [93])
  | _, [], t, b, _, h => by
    cases b with
    | false =>
      simp only [List.nil_append] at h ⊢
      rw [scan_stop, scan_stop]
    | true =>
      simp only [List.nil_append] at h
      rw [scan_step 93 t true (by simp)] at h
      have h1 := scan_len (nextL 93 t) false
      have h2 := nextL_le 93 t
      have h3 := congrArg List.length h
      simp at h3
      omega
  | 0, c :: a, t, b, hn, h => by simp at hn
  | n + 1, c :: a, t, b, hn, h => by
    simp only [List.cons_append, List.length_cons] at hn h ⊢
    by_cases hs : c = 93 ∧ b = false
    · obtain ⟨rfl, rfl⟩ := hs
      rw [scan_stop] at h
      have h3 := congrArg List.length h
      simp at h3
      omega
    · rw [scan_step c _ b hs] at h
      simp only at h
      have h1 := scan_len (nextL c (a ++ 93 :: t)) false
      rw [h] at h1
      obtain ⟨q, e1, e2⟩ := nextL_cut c a t (by simpa using h1)
      rw [e1] at h
      have hql : q.length ≤ n := by
        have := nextL_le c (a ++ 93 :: t)
        rw [e1] at this
        simp at this
        omega
      have ih := scan_cut n q t false hql h
      rw [scan_step c (a ++ [93]) b hs, scan_step c (a ++ 93 :: t) b hs, e1, e2, ih, hit_cut]

/-- All of it, for the whole text from the bracket on. -/
theorem class_split (l : List UInt8) (hl : l ≠ []) : ∃ v, l = v ++ (classL l).2 ∧ 1 ≤ v.length ∧ (classL l).1 ≤ cnt (v.drop 2) ∧ ((classL l).2 = [] ∨ ∃ t, (classL l).2 = 93 :: t ∧ 2 ≤ v.length ∧ classL (v ++ [93]) = ((classL l).1, [93])) := by
  obtain ⟨x, l', rfl⟩ : ∃ x l', l = x :: l' := by cases l with
    | nil => exact absurd rfl hl
    | cons x l' => exact ⟨x, l', rfl⟩
  unfold classL
  obtain ⟨u, h1, h2, h3, h4⟩ := scan_split _ (bodyL (x :: l')) true (Nat.le_refl _)
  simp only [if_true] at h2
  unfold bodyL at h1 h2 h3 h4 ⊢
  simp only [List.drop_succ_cons, List.drop_zero] at h1 h2 h3 h4 ⊢
  cases hp : Lib.hasPrefix l' [94]
  · simp only [hp, Bool.false_eq_true, if_false] at h1 h2 h3 h4 ⊢
    refine ⟨x :: u, by rw [List.cons_append, ← h1], by simp, by simpa using h2, ?_⟩
    rcases h3 with h3 | ⟨t, h3⟩
    · exact .inl h3
    · right
      have hu := h4 trivial (by rw [h3]; simp)
      refine ⟨t, h3, by cases u with
        | nil => exact absurd rfl hu
        | cons a b => simp, ?_⟩
      rw [h3] at h1
      have hp2 : Lib.hasPrefix (u ++ [93]) [94] = false := by
        cases u with
        | nil => exact absurd rfl hu
        | cons a b =>
          rw [h1, List.cons_append, hasPrefix_one] at hp
          rw [List.cons_append, hasPrefix_one]; exact hp
      simp only [List.cons_append, List.drop_succ_cons, List.drop_zero, hp2, Bool.false_eq_true, if_false]
      have := scan_cut u.length u t true (Nat.le_refl _) (by rw [← h1]; exact h3)
      rw [this, ← h1]
  · simp only [hp, if_true] at h1 h2 h3 h4 ⊢
    obtain ⟨y, l'', rfl⟩ : ∃ y l'', l' = y :: l'' := by cases l' with
      | nil => simp [Lib.hasPrefix, List.isPrefixOf] at hp
      | cons y l'' => exact ⟨y, l'', rfl⟩
    simp only [List.drop_succ_cons, List.drop_zero] at h1 h2 h3 h4 ⊢
    refine ⟨x :: y :: u, by rw [List.cons_append, List.cons_append, ← h1], by simp, ?_, ?_⟩
    · simp only [List.drop_succ_cons, List.drop_zero]
      refine Nat.le_trans h2 ?_
      unfold cnt
      exact (List.drop_sublist 1 u).count_le 45
    · rcases h3 with h3 | ⟨t, h3⟩
      · exact .inl h3
      · right
        refine ⟨t, h3, by simp, ?_⟩
        rw [h3] at h1
        have hp2 : Lib.hasPrefix (y :: (u ++ [93])) [94] = true := by
          rw [hasPrefix_one] at hp ⊢; exact hp
        simp only [List.cons_append, List.drop_succ_cons, List.drop_zero, hp2, if_true]
        have := scan_cut u.length u t true (Nat.le_refl _) (by rw [← h1]; exact h3)
        rw [this, ← h1]
end Go.Proofs.Qxb6603283aDoor
