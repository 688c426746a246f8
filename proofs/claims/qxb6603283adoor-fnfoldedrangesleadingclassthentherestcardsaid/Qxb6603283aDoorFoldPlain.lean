/-
  foldedRanges as a plain function of the bytes still to be read and of the flag.
-/
import Derived.Test.Qxb6603283aDoorEnds
import Derived.Test.Qxb6603283aDoorShelf2
namespace Go.Proofs.Qxb6603283aDoor
open Go.RowKit Go.PlainAid

def flagSet : List UInt8 := [105, 109, 115, 85, 45]
/-- The flags that r begins with. -/
def flagRun (r : List UInt8) : List UInt8 := r.take (r.length - (Lib.trimLeftS r flagSet).length)
/-- Does a group whose flags hold an i open? r stands behind the round bracket. -/
def flagI (r : List UInt8) : Bool := Lib.hasPrefix r [63] && decide (0 ≤ Lib.indexByte (flagRun (r.drop 1)) 105)
/-- Where reading goes on behind a backslash. -/
def quoteL (r : List UInt8) : List UInt8 := if Lib.hasPrefix r [81] then (Lib.cut (r.drop 1) [92, 69]).2.1 else r.drop 1

def foldF : Nat → List UInt8 → Bool → Nat
  | 0, _, _ => 0
  | _ + 1, [], _ => 0
  | n + 1, c :: r, b =>
    if c = 92 then foldF n (quoteL r) b
    else if c = 40 then foldF n r (b || flagI r)
    else if c = 91 then (if b then (classL (c :: r)).1 else 0) + foldF n ((classL (c :: r)).2.drop 1) b
    else foldF n r b

theorem cut_drop (l sep : List UInt8) : ∃ n, n ≤ l.length ∧ (Lib.cut l sep).2.1 = l.drop n := by
  unfold Lib.cut
  split
  · by_cases h : (Lib.index l sep).toNat + sep.length ≤ l.length
    · exact ⟨_, h, rfl⟩
    · exact ⟨l.length, Nat.le_refl _, by rw [List.drop_of_length_le (by omega), List.drop_length]⟩
  · exact ⟨l.length, Nat.le_refl _, by rw [List.drop_length]⟩
theorem quoteL_le (r : List UInt8) : (quoteL r).length ≤ r.length := by
  unfold quoteL
  split
  · obtain ⟨n, _, e⟩ := cut_drop (r.drop 1) [92, 69]
    rw [e]; simp
  · simp
theorem cls_rest_le (c : UInt8) (r : List UInt8) : ((classL (c :: r)).2.drop 1).length ≤ r.length := by
  have := class_le (c :: r)
  simp at this ⊢
  omega

theorem fold_fuel : ∀ (n m : Nat) (l : List UInt8) (b : Bool), l.length ≤ n → l.length ≤ m → foldF n l b = foldF m l b
  | 0, m, l, b, hn, _ => by
    have : l = [] := List.eq_nil_of_length_eq_zero (by omega)
    subst this
    cases m <;> rfl
  | n + 1, 0, l, b, _, hm => by
    have : l = [] := List.eq_nil_of_length_eq_zero (by omega)
    subst this
    rfl
  | n + 1, m + 1, [], b, _, _ => rfl
  | n + 1, m + 1, c :: r, b, hn, hm => by
    have h1 := quoteL_le r
    have h2 := cls_rest_le c r
    simp only [List.length_cons] at hn hm
    have i1 := fold_fuel n m (quoteL r) b (by omega) (by omega)
    have i2 := fold_fuel n m r (b || flagI r) (by omega) (by omega)
    have i3 := fold_fuel n m ((classL (c :: r)).2.drop 1) b (by omega) (by omega)
    have i4 := fold_fuel n m r b (by omega) (by omega)
    simp only [foldF, i1, i2, i3, i4]

def fold (l : List UInt8) (b : Bool) : Nat := foldF l.length l b
theorem fold_nil (b : Bool) : fold [] b = 0 := rfl
theorem fold_esc (r : List UInt8) (b : Bool) : fold (92 :: r) b = fold (quoteL r) b := by
  unfold fold
  rw [List.length_cons, foldF, if_pos rfl, fold_fuel r.length (quoteL r).length (quoteL r) b (quoteL_le r) (Nat.le_refl _)]
theorem fold_par (r : List UInt8) (b : Bool) : fold (40 :: r) b = fold r (b || flagI r) := by
  unfold fold
  rw [List.length_cons, foldF, if_neg (by decide), if_pos rfl]
theorem fold_cls (r : List UInt8) (b : Bool) : fold (91 :: r) b = (if b then (classL (91 :: r)).1 else 0) + fold ((classL (91 :: r)).2.drop 1) b := by
  unfold fold
  rw [List.length_cons, foldF, if_neg (by decide), if_neg (by decide), if_pos rfl, fold_fuel r.length _ ((classL (91 :: r)).2.drop 1) b (cls_rest_le 91 r) (Nat.le_refl _)]
theorem fold_else (c : UInt8) (r : List UInt8) (b : Bool) (h1 : c ≠ 92) (h2 : c ≠ 40) (h3 : c ≠ 91) : fold (c :: r) b = fold r b := by
  unfold fold
  rw [List.length_cons, foldF, if_neg h1, if_neg h2, if_neg h3]

/-- Behind "(?i)" the flag is set. -/
theorem fold_lead (l : List UInt8) : fold (40 :: 63 :: 105 :: 41 :: l) false = fold l true := by
  rw [fold_par]
  have e : flagI (63 :: 105 :: 41 :: l) = true := by
    have e1 : Lib.trimLeftS (105 :: 41 :: l) flagSet = 41 :: l := rfl
    have e2 : flagRun (105 :: 41 :: l) = [105] := by
      unfold flagRun
      rw [e1]
      have : (105 :: 41 :: l : List UInt8).length - (41 :: l : List UInt8).length = 1 := by simp
      rw [this]; rfl
    unfold flagI
    rw [hasPrefix_one, List.drop_succ_cons, List.drop_zero, e2]
    rfl
  rw [e, Bool.or_true, fold_else 63 _ _ (by decide) (by decide) (by decide), fold_else 105 _ _ (by decide) (by decide) (by decide), fold_else 41 _ _ (by decide) (by decide) (by decide)]

/-! ### What foldedRanges' loop keeps -/
def InvF (s : ByteArray) (k c : Nat) (b : Bool) (X : Nat) : Prop := X = c + fold (s.data.toList.drop k) b ∧ c ≤ k

section
variable {s : ByteArray} {k c : Nat} {b : Bool} {X : Nat}
theorem invF_start : InvF s 0 0 false (fold s.data.toList false) := ⟨by simp, Nat.le_refl _⟩
theorem invF_end (h : InvF s k c b X) (hk : s.size ≤ k) : X = c := by rw [h.1, drop_all s k hk, fold_nil]; rfl
theorem invF_else (h : InvF s k c b X) (hk : k < s.size) (h1 : (bt s k == 92) = false) (h2 : (bt s k == 40) = false) (h3 : (bt s k == 91) = false) : InvF s (k + 1) c b X := by
  refine ⟨?_, by have := h.2; omega⟩
  rw [h.1, drop_cons s k hk, fold_else _ _ _ ((bt_ne s k hk 92).1 h1) ((bt_ne s k hk 40).1 h2) ((bt_ne s k hk 91).1 h3)]
theorem pre_q (hk : k < s.size) (h : (bt s k == 92) = true) : Lib.hasPrefix (s.data.toList.drop k) [92, 81] = Lib.hasPrefix (s.data.toList.drop (k + 1)) [81] := by
  rw [drop_cons s k hk, (bt_eq s k hk 92).1 h]
  simp [Lib.hasPrefix, List.isPrefixOf]
theorem pre_g (hk : k < s.size) (h : (bt s k == 40) = true) : Lib.hasPrefix (s.data.toList.drop k) [40, 63] = Lib.hasPrefix (s.data.toList.drop (k + 1)) [63] := by
  rw [drop_cons s k hk, (bt_eq s k hk 40).1 h]
  simp [Lib.hasPrefix, List.isPrefixOf]
theorem pre_room {d : UInt8} (h : Lib.hasPrefix (s.data.toList.drop (k + 1)) [d] = true) : k + 2 ≤ s.size := by
  unfold Lib.hasPrefix at h
  rw [List.isPrefixOf_iff_prefix] at h
  have := h.length_le
  rw [drop_len] at this
  simp at this
  omega
theorem invF_esc (h : InvF s k c b X) (hk : k < s.size) (h1 : (bt s k == 92) = true) (hq : Lib.hasPrefix (s.data.toList.drop (k + 1)) [81] = false) : InvF s (k + 2) c b X := by
  refine ⟨?_, by have := h.2; omega⟩
  rw [h.1, drop_cons s k hk, (bt_eq s k hk 92).1 h1, fold_esc, quoteL, hq, List.drop_drop]; rfl
theorem cut_back (s : ByteArray) (k : Nat) (hk : k ≤ s.size) : (Lib.cut (s.data.toList.drop k) [92, 69]).2.1 = s.data.toList.drop (s.size - (Lib.cut (s.data.toList.drop k) [92, 69]).2.1.length) ∧ (Lib.cut (s.data.toList.drop k) [92, 69]).2.1.length ≤ s.size - k := by
  obtain ⟨n, hn, e⟩ := cut_drop (s.data.toList.drop k) [92, 69]
  rw [drop_len] at hn
  have hl : (Lib.cut (s.data.toList.drop k) [92, 69]).2.1.length = s.size - (k + n) := by rw [e, List.drop_drop, drop_len]
  refine ⟨?_, by rw [hl]; omega⟩
  rw [hl, e, List.drop_drop]
  congr 1
  omega
theorem invF_quote (h : InvF s k c b X) (hk : k < s.size) (h1 : (bt s k == 92) = true) (hq : Lib.hasPrefix (s.data.toList.drop (k + 1)) [81] = true) :
    InvF s (s.size - (Lib.cut (s.data.toList.drop (k + 2)) [92, 69]).2.1.length) c b X := by
  have hr := pre_room hq
  have hb := cut_back s (k + 2) hr
  refine ⟨?_, by have := h.2; omega⟩
  rw [h.1, drop_cons s k hk, (bt_eq s k hk 92).1 h1, fold_esc, quoteL, hq, List.drop_drop, ← hb.1]; rfl
theorem invF_nogroup (h : InvF s k c b X) (hk : k < s.size) (h1 : (bt s k == 40) = true) (hq : Lib.hasPrefix (s.data.toList.drop (k + 1)) [63] = false) : InvF s (k + 1) c b X := by
  refine ⟨?_, by have := h.2; omega⟩
  rw [h.1, drop_cons s k hk, (bt_eq s k hk 40).1 h1, fold_par, flagI, hq, Bool.false_and, Bool.or_false]
theorem invF_group (h : InvF s k c false X) (hk : k < s.size) (h1 : (bt s k == 40) = true) (hq : Lib.hasPrefix (s.data.toList.drop (k + 1)) [63] = true) :
    InvF s (k + 1) c (decide (0 ≤ Lib.indexByte (flagRun (s.data.toList.drop (k + 2))) 105)) X := by
  refine ⟨?_, by have := h.2; omega⟩
  rw [h.1, drop_cons s k hk, (bt_eq s k hk 40).1 h1, fold_par, flagI, hq, Bool.true_and, Bool.false_or, List.drop_drop]
theorem invF_grouped (h : InvF s k c true X) (hk : k < s.size) (h1 : (bt s k == 40) = true) : InvF s (k + 1) c true X := by
  refine ⟨?_, by have := h.2; omega⟩
  rw [h.1, drop_cons s k hk, (bt_eq s k hk 40).1 h1, fold_par, Bool.true_or]
theorem cls_rest (s : ByteArray) (o : Nat) (ho : o < s.size) : ∃ e : Nat, (s.size : Int) - ((classL (s.data.toList.drop o)).2.length : Int) = e ∧ o < e ∧ e ≤ s.size ∧ (classL (s.data.toList.drop o)).2 = s.data.toList.drop e ∧ (classL (s.data.toList.drop o)).1 ≤ e - o := by
  have hl0 : s.data.toList.drop o ≠ [] := by
    intro h
    have := congrArg List.length h
    rw [drop_len] at this
    simp at this
    omega
  obtain ⟨v, h1, h2, h3, _⟩ := class_split _ hl0
  have hlen := congrArg List.length h1
  rw [drop_len, List.length_append] at hlen
  refine ⟨o + v.length, by omega, by omega, by omega, ?_, ?_⟩
  · rw [← List.drop_drop]
    conv => rhs; rw [h1]
    exact List.drop_left.symm
  · refine Nat.le_trans h3 (Nat.le_trans List.count_le_length ?_)
    rw [List.length_drop]; omega
theorem invF_cls (h : InvF s k c b X) (hk : k < s.size) (h1 : (bt s k == 91) = true) : ∃ e n : Nat, (s.size : Int) - ((classL (s.data.toList.drop k)).2.length : Int) = e ∧ (classL (s.data.toList.drop k)).1 = n ∧ k < e ∧ e ≤ s.size ∧ n ≤ e - k ∧ InvF s (e + 1) (c + (if b then n else 0)) b X := by
  obtain ⟨e, e1, e2, e3, e4, e5⟩ := cls_rest s k hk
  refine ⟨e, _, e1, rfl, e2, e3, e5, ?_, by have := h.2; split <;> omega⟩
  rw [h.1]
  have hc : s.data.toList.drop k = 91 :: s.data.toList.drop (k + 1) := by rw [drop_cons s k hk, (bt_eq s k hk 91).1 h1]
  conv => lhs; rw [hc, fold_cls, ← hc, e4, List.drop_drop]
  omega
end

/-- The law, with no Go in sight. -/
theorem fold_law (s : ByteArray) (hs : 0 < s.size) (h91 : s.data.toList.head? = some 91) (e : Nat) (he : (s.size : Int) - ((classL s.data.toList).2.length : Int) = e) :
    fold (40 :: 63 :: 105 :: 41 :: s.data.toList) false = (classL s.data.toList).1 + fold (40 :: 63 :: 105 :: 41 :: s.data.toList.drop (e + 1)) false := by
  obtain ⟨e', e1, _, _, e4, _⟩ := cls_rest s 0 hs
  rw [List.drop_zero] at e1 e4
  obtain rfl : e' = e := by omega
  rw [fold_lead, fold_lead]
  obtain ⟨r, hr⟩ : ∃ r, s.data.toList = 91 :: r := by
    cases hl : s.data.toList with
    | nil => rw [hl] at h91; cases h91
    | cons x r => rw [hl] at h91; exact ⟨r, by rw [Option.some.inj h91]⟩
  conv => lhs; rw [hr, fold_cls, ← hr, if_pos rfl, e4, List.drop_drop]
end Go.Proofs.Qxb6603283aDoor
