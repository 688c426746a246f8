/-
  Plain facts for FnAloneModel: where blanks begin and end, and the one answer that both functions give.
-/
import Derived.Test.Qxb6603100aDoorShelf
import Derived.WalkKit
import Derived.WalkSpells
import Derived.WalkLawsBesides
import Derived.PlainAid
import Derived.Lib.Strings
import Derived.Lib.SlTrimSet
namespace Go.Proofs.Qxb6603100aDoor
open Go.RowKit Go.PlainAid

theorem bt_get (s : ByteArray) (k : Nat) (h : k < s.size) : bt s k = (s[k].toNat : Int) := (get_bt s k h).symm
/-- a blank: a space or a tab -/
def blk (c : Int) : Bool := (c == 32) || (c == 9)
theorem blk_ten : blk 10 = false := rfl

/-- From j on up to b all is blank, and ahead of j nothing is, or the text begins there. -/
structure Jc (s : ByteArray) (a b j : Nat) : Prop where
  lo : a ≤ j
  hi : j ≤ b
  all : ∀ x, j ≤ x → x < b → blk (bt s x) = true
  stop : j = a ∨ blk (bt s (j - 1)) = false
structure Kc (s : ByteArray) (e k : Nat) : Prop where
  lo : e ≤ k
  hi : k ≤ s.size
  all : ∀ x, e ≤ x → x < k → blk (bt s x) = true
  stop : k = s.size ∨ blk (bt s k) = false

theorem Jc.exists (s : ByteArray) (a : Nat) : ∀ d, ∃ j, Jc s a (a + d) j
  | 0 => ⟨a, Nat.le_refl _, Nat.le_refl _, fun x h1 h2 => by omega, .inl rfl⟩
  | d + 1 => by
    cases h : blk (bt s (a + d))
    · exact ⟨a + d + 1, by omega, Nat.le_refl _, fun x h1 h2 => by omega, .inr (by simpa using h)⟩
    · obtain ⟨j, hj⟩ := Jc.exists s a d
      refine ⟨j, hj.lo, by have := hj.hi; omega, fun x h1 h2 => ?_, hj.stop⟩
      by_cases e : x = a + d
      · subst e; exact h
      · exact hj.all x h1 (by omega)
theorem Kc.exists (s : ByteArray) : ∀ d e, e + d = s.size → ∃ k, Kc s e k
  | 0, e, h => ⟨e, Nat.le_refl _, by omega, fun x h1 h2 => by omega, .inl (by omega)⟩
  | d + 1, e, h => by
    cases hb : blk (bt s e)
    · exact ⟨e, Nat.le_refl _, by omega, fun x h1 h2 => by omega, .inr hb⟩
    · obtain ⟨k, hk⟩ := Kc.exists s d (e + 1) (by omega)
      refine ⟨k, by have := hk.lo; omega, hk.hi, fun x h1 h2 => ?_, hk.stop⟩
      by_cases e' : x = e
      · subst e'; exact hb
      · exact hk.all x (by omega) h2

/-- The line does not begin where the block's blanks do. -/
def badL (s : ByteArray) (a j : Nat) : Bool := if a < j then bt s (j - 1) != 10 else (!(a == 0)) && (bt s (a - 1) != 10)
/-- Both functions' answer. -/
def ans (s : ByteArray) (a j k : Nat) : Int × Int × Bool :=
  if badL s a j then (0, 0, false)
  else if k = s.size then (j, k, true)
  else if bt s k == 10 then (j, k + 1, true)
  else if (bt s k == 13) && (decide (k + 1 < s.size) && (bt s (k + 1) == 10)) then (j, k + 2, true)
  else (0, 0, false)

theorem Jc.unique {s : ByteArray} {a b j j' : Nat} (h : Jc s a b j) (h' : Jc s a b j') : j = j' := by
  rcases Nat.lt_trichotomy j j' with hlt | he | hlt
  · rcases h'.stop with e | e
    · have := h.lo; omega
    · have := h.all (j' - 1) (by omega) (by have := h'.hi; omega)
      rw [e] at this; cases this
  · exact he
  · rcases h.stop with e | e
    · have := h'.lo; omega
    · have := h'.all (j - 1) (by omega) (by have := h.hi; omega)
      rw [e] at this; cases this

/-- the bytes from a up to b, as the walk cuts them -/
theorem cut_bt (s : ByteArray) (a b x : Nat) (hab : a ≤ b) (hb : b ≤ s.size) (hx : x < b - a) : bt (s.extract a b) x = bt s (a + x) := by
  have h1 : x < (s.extract a b).size := by simp; omega
  rw [bt_get _ _ h1, bt_get _ _ (by omega)]
  congr 2
  have e1 : (s.extract a b)[x] = (s.extract a b).data.toList[x]'(by rw [← Lib.size_eq]; exact h1) := rfl
  have e2 : s[a + x]'(by omega) = s.data.toList[a + x]'(by rw [← Lib.size_eq]; omega) := rfl
  rw [e1, e2]
  have e3 := Lib.extract_data s a b
  have : ∀ (l : List UInt8) (hl : l = (s.data.toList.drop a).take (b - a)) (h : x < l.length), l[x] = s.data.toList[a + x]'(by rw [← Lib.size_eq]; omega) := by
    intro l hl h
    subst hl
    simp
  exact this _ e3 _
theorem list_bt (s : ByteArray) (x : Nat) (c : UInt8) (h : s.data.toList[x]? = some c) : bt s x = (c.toNat : Int) := by
  have hk : x < s.size := by rw [Lib.size_eq]; exact (List.getElem?_eq_some_iff.1 h).1
  rw [bt_get s x hk]
  have : s.data.toList[x]'(by rw [← Lib.size_eq]; exact hk) = c := (List.getElem?_eq_some_iff.1 h).2
  have e : s[x] = c := this
  rw [e]
theorem blk_contains (c : UInt8) : ([32, 9] : List UInt8).contains c = blk (c.toNat : Int) := by
  have h32 : (c == 32) = ((c.toNat : Int) == 32) := by
    rw [Bool.eq_iff_iff]; simp only [beq_iff_eq]
    exact ⟨fun h => by rw [h]; rfl, fun h => UInt8.toNat.inj (by show c.toNat = 32; omega)⟩
  have h9 : (c == 9) = ((c.toNat : Int) == 9) := by
    rw [Bool.eq_iff_iff]; simp only [beq_iff_eq]
    exact ⟨fun h => by rw [h]; rfl, fun h => UInt8.toNat.inj (by show c.toNat = 9; omega)⟩
  unfold blk
  rw [← h32, ← h9]
  simp only [List.contains, List.elem]
  cases (c == 32) <;> cases (c == 9) <;> rfl

theorem dropWhile_nil (p : UInt8 → Bool) : ∀ q : List UInt8, (q.dropWhile p = [] ↔ q.all p = true)
  | [] => by simp
  | c :: r => by
    simp only [List.dropWhile]
    split
    · rename_i h; rw [dropWhile_nil p r]; simp [h]
    · rename_i h; simp [h]
/-- Trim leaves nothing just where all is blank. -/
theorem trimS_nil (q : List UInt8) : Lib.trimS q [32, 9] = [] ↔ q.all (([32, 9] : List UInt8).contains ·) = true := by
  unfold Lib.trimS Lib.trimLeftS Lib.trimRightS
  rw [dropWhile_nil, List.all_reverse]
  constructor
  · intro h
    have hsplit : q.reverse.takeWhile (([32, 9] : List UInt8).contains ·) ++ q.reverse.dropWhile (([32, 9] : List UInt8).contains ·) = q.reverse := List.takeWhile_append_dropWhile
    have : q.reverse.all (([32, 9] : List UInt8).contains ·) = true := by
      rw [← hsplit, List.all_append, h, Bool.and_true]
      exact List.all_takeWhile
    rwa [List.all_reverse] at this
  · intro h
    have : q.reverse.dropWhile (([32, 9] : List UInt8).contains ·) = [] := (dropWhile_nil _ _).2 (by rw [List.all_reverse]; exact h)
    rw [this]; rfl
/-- Trim of a cut, by the bytes. -/
theorem trim_cut (s : ByteArray) (f b : Nat) (hf : f ≤ b) (hb : b ≤ s.size) : (Lib.trimS (s.extract f b).data.toList [32, 9]).isEmpty = true ↔ ∀ x, f ≤ x → x < b → blk (bt s x) = true := by
  rw [List.isEmpty_iff, trimS_nil, List.all_eq_true]
  have hsz : (s.extract f b).size = b - f := by simp; omega
  constructor
  · intro h x h1 h2
    have hx : x - f < (s.extract f b).data.toList.length := by rw [← Lib.size_eq, hsz]; omega
    have := h _ (List.getElem_mem hx)
    rw [blk_contains] at this
    have e := list_bt (s.extract f b) (x - f) _ (List.getElem?_eq_getElem hx)
    rw [cut_bt s f b (x - f) hf hb (by omega), show f + (x - f) = x by omega] at e
    rw [e]; exact this
  · intro h c hc
    obtain ⟨i, hi, rfl⟩ := List.getElem_of_mem hc
    rw [blk_contains]
    have hi' : i < b - f := by rw [← hsz, Lib.size_eq]; exact hi
    have e := list_bt (s.extract f b) i _ (List.getElem?_eq_getElem hi)
    rw [cut_bt s f b i hf hb hi'] at e
    rw [← e]
    exact h (f + i) (by omega) (by omega)
/-- TrimLeft of the text from e on: what is left begins at k. -/
theorem trim_left (s : ByteArray) (e k : Nat) (h : Kc s e k) : (⟨(Lib.trimLeftS (s.extract e s.size).data.toList [32, 9]).toArray⟩ : ByteArray) = s.extract k s.size := by
  have hd : (s.extract e s.size).data.toList = s.data.toList.drop e := by
    rw [Lib.extract_data]
    exact List.take_of_length_le (by rw [List.length_drop, ← Lib.size_eq]; omega)
  have h1 := h.lo
  have h2 := h.hi
  rw [hd, Lib.trimLeftS_drop (s.data.toList.drop e) [32, 9] (k - e) (by rw [List.length_drop, ← Lib.size_eq]; omega)]
  · rw [List.drop_drop, show e + (k - e) = k by omega, Lib.extract_eq]
    congr 2
    exact (List.take_of_length_le (by rw [List.length_drop, ← Lib.size_eq]; omega)).symm
  · intro j b hj hb
    rw [List.getElem?_drop] at hb
    rw [blk_contains, ← list_bt s (e + j) b hb]
    exact h.all _ (by omega) (by omega)
  · intro b hb
    rw [List.getElem?_drop, show e + (k - e) = k by omega] at hb
    rw [blk_contains, ← list_bt s k b hb]
    rcases h.stop with e' | e'
    · have := (List.getElem?_eq_some_iff.1 hb).1
      rw [← Lib.size_eq] at this; omega
    · exact e'

/-- LastIndexByte of a cut, by the bytes. -/
theorem last_cut (s : ByteArray) (a b : Nat) (hab : a ≤ b) (hb : b ≤ s.size) :
    (Lib.lastIndexByte (s.extract a b) 10 = -1 ∧ ∀ x, a ≤ x → x < b → bt s x ≠ 10) ∨
    (∃ i : Nat, a + i < b ∧ Lib.lastIndexByte (s.extract a b) 10 = i ∧ bt s (a + i) = 10 ∧ ∀ x, a + i < x → x < b → bt s x ≠ 10) := by
  have hsz : (s.extract a b).size = b - a := by simp; omega
  have hbt : ∀ x, x < b - a → (((s.extract a b).data[x]!).toNat : Int) = bt s (a + x) := fun x hx => by
    rw [← cut_bt s a b x hab hb hx]
    have hlt : x < (s.extract a b).data.size := by
      have : (s.extract a b).data.size = (s.extract a b).size := rfl
      rw [this, hsz]; exact hx
    rw [bt_get _ _ (by rw [hsz]; exact hx), getElem!_pos (s.extract a b).data x hlt]
    rfl
  rcases Lib.lastIdx_spec (s.extract a b) 10 (s.extract a b).size with ⟨h1, h2⟩ | ⟨i, hi, h1, h2, h3⟩
  · refine .inl ⟨h1, fun x hx1 hx2 => ?_⟩
    have := h2 (x - a) (by rw [hsz]; omega)
    rw [hbt (x - a) (by omega), show a + (x - a) = x by omega] at this
    exact this
  · rw [hsz] at hi
    refine .inr ⟨i, by omega, h1, by rw [← hbt i hi]; exact h2, fun x hx1 hx2 => ?_⟩
    have := h3 (x - a) (by omega) (by rw [hsz]; omega)
    rw [hbt (x - a) (by omega), show a + (x - a) = x by omega] at this
    exact this
end Go.Proofs.Qxb6603100aDoor
