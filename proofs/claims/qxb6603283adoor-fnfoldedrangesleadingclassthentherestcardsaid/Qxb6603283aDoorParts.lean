/-
  What classRanges' loop keeps: lemmas outside the walk.
-/
import Derived.Test.Qxb6603283aDoorShelf
import Derived.Test.Qxb6603283aDoorPlain
import Derived.WalkKit
import Derived.WalkSpells
import Derived.WalkLawsBesides
import Derived.PlainAid
namespace Go.Proofs.Qxb6603283aDoor
open Go.RowKit Go.PlainAid

theorem bt_get (s : ByteArray) (k : Nat) (h : k < s.size) : bt s k = (s[k].toNat : Int) := (get_bt s k h).symm
theorem u8_int {a b : UInt8} : ((a.toNat : Int) = (b.toNat : Int)) ↔ a = b := ⟨fun h => UInt8.toNat.inj (by omega), fun h => by rw [h]⟩
theorem bt_eq (p : ByteArray) (k : Nat) (h : k < p.size) (n : UInt8) : ((bt p k == (n.toNat : Int)) = true) ↔ p[k] = n := by
  rw [bt_get p k h, beq_iff_eq]
  exact u8_int
theorem bt_ne (p : ByteArray) (k : Nat) (h : k < p.size) (n : UInt8) : ((bt p k == (n.toNat : Int)) = false) ↔ p[k] ≠ n := by
  rw [← Bool.not_eq_true, bt_eq p k h n]
theorem drop_cons (s : ByteArray) (k : Nat) (h : k < s.size) : s.data.toList.drop k = s[k] :: s.data.toList.drop (k + 1) := by
  have hk : k < s.data.toList.length := by rw [← Lib.size_eq]; exact h
  rw [List.drop_eq_getElem_cons hk]; rfl
theorem drop_all (s : ByteArray) (k : Nat) (h : s.size ≤ k) : s.data.toList.drop k = [] := List.drop_of_length_le (by rw [← Lib.size_eq]; exact h)
theorem cut_end (s : ByteArray) (a : Nat) : (s.extract a s.size).data.toList = s.data.toList.drop a := by
  rw [Lib.extract_data]
  exact List.take_of_length_le (by rw [List.length_drop, ← Lib.size_eq]; omega)
theorem drop_len (s : ByteArray) (k : Nat) : (s.data.toList.drop k).length = s.size - k := by rw [List.length_drop, ← Lib.size_eq]
theorem ret_bool {a b : Bool} (h : a = b) : Ending.returned (.bool a) = .returned (.bool b) := by rw [h]
theorem ret2 {a b c d : Int} (h : a = c) (h2 : b = d) : Ending.returned (.tuple #[.int .i64 a, .int .i64 b]) = .returned (.tuple #[.int .i64 c, .int .i64 d]) := by rw [h, h2]

/-- X is the answer, c having been counted, the text still to be read from k on. -/
def Inv (s : ByteArray) (F k c : Nat) (X : Nat × List UInt8) : Prop := X = (c + (scan (s.data.toList.drop k) (decide (k = F))).1, (scan (s.data.toList.drop k) (decide (k = F))).2) ∧ c ≤ k

section
variable {s : ByteArray} {F k c : Nat} {X : Nat × List UInt8}
theorem inv_start (F : Nat) : Inv s F F 0 (scan (s.data.toList.drop F) true) := ⟨by simp, Nat.zero_le _⟩
theorem inv_end (h : Inv s F k c X) (hk : s.size ≤ k) : X = (c, []) := by rw [h.1, drop_all s k hk, scan_nil]; rfl
theorem inv_stop (h : Inv s F k c X) (hk : k < s.size) (h93 : (bt s k == 93) = true) (hF : F < k) : X = (c, s.data.toList.drop k) := by
  have e := (bt_eq s k hk 93).1 h93
  rw [h.1, drop_cons s k hk, e, decide_eq_false (by omega), scan_stop]
  rfl
/-- A step that goes on at k', with d counted. -/
theorem inv_step (h : Inv s F k c X) (hk : k < s.size) (hF : F ≤ k) (hno : ¬ ((bt s k == 93) = true ∧ F < k)) {k' d : Nat} (hn : nextL s[k] (s.data.toList.drop (k + 1)) = s.data.toList.drop k') (hk' : k < k')
    (hd : hit s[k] (s.data.toList.drop (k + 1)) (decide (k = F)) = d) (hd1 : d ≤ 1) : Inv s F k' (c + d) X := by
  have hb : decide (k' = F) = false := decide_eq_false (by omega)
  refine ⟨?_, by have := h.2; omega⟩
  rw [h.1, drop_cons s k hk, scan_step _ _ _ ?_, hn, hb, hd]
  · congr 1
    omega
  · rintro ⟨h1, h2⟩
    have h3 := (bt_eq s k hk 93).2 h1
    have h4 := of_decide_eq_false h2
    exact hno ⟨h3, by omega⟩
theorem next_plain (hk : k < s.size) (h92 : (bt s k == 92) = false) (h91 : (bt s k == 91) = false) (r : List UInt8) : nextL s[k] r = r := by
  unfold nextL
  rw [if_neg ((bt_ne s k hk 92).1 h92), if_neg ((bt_ne s k hk 91).1 h91)]
theorem next_esc (hk : k < s.size) (h92 : (bt s k == 92) = true) : nextL s[k] (s.data.toList.drop (k + 1)) = s.data.toList.drop (k + 2) := by
  unfold nextL
  rw [if_pos ((bt_eq s k hk 92).1 h92), List.drop_drop]
theorem hit_no (hk : k < s.size) (h45 : (bt s k == 45) = false) (r : List UInt8) (b : Bool) : hit s[k] r b = 0 := by
  unfold hit
  rw [if_neg ((bt_ne s k hk 45).1 h45)]
theorem hit_yes (hk : k < s.size) (h45 : (bt s k == 45) = true) (r : List UInt8) (b : Bool) : hit s[k] r b = if b then 0 else if Lib.hasPrefix r [93] then 0 else 1 := by
  unfold hit
  rw [if_pos ((bt_eq s k hk 45).1 h45)]

theorem trimLeftS_drop_ex (l cs : List UInt8) : ∃ n, n ≤ l.length ∧ Lib.trimLeftS l cs = l.drop n := by
  unfold Lib.trimLeftS
  induction l with
  | nil => exact ⟨0, Nat.le_refl _, rfl⟩
  | cons a r ih =>
    simp only [List.dropWhile]
    split
    · obtain ⟨n, hn, h⟩ := ih
      exact ⟨n + 1, by simpa using hn, by rw [h]; rfl⟩
    · exact ⟨0, Nat.zero_le _, rfl⟩
theorem nameL_drop (r : List UInt8) : ∃ n, n ≤ r.length ∧ nameL r = r.drop n := by
  unfold nameL Lib.trimPrefix
  split
  · rename_i h
    obtain ⟨n, hn, e⟩ := trimLeftS_drop_ex (r.drop ([94] : List UInt8).length) az
    rw [e, List.drop_drop]
    have hl : 1 ≤ r.length := by
      unfold Lib.hasPrefix at h
      rw [List.isPrefixOf_iff_prefix] at h
      have := h.length_le
      simpa using this
    simp only [List.length_singleton, List.length_drop] at hn ⊢
    exact ⟨1 + n, by omega, rfl⟩
  · exact trimLeftS_drop_ex r az
theorem nameL_back (s : ByteArray) (k : Nat) (hk : k ≤ s.size) : nameL (s.data.toList.drop k) = s.data.toList.drop (s.size - (nameL (s.data.toList.drop k)).length) ∧ (nameL (s.data.toList.drop k)).length ≤ s.size - k := by
  obtain ⟨n, hn, e⟩ := nameL_drop (s.data.toList.drop k)
  rw [drop_len] at hn
  have hl : (nameL (s.data.toList.drop k)).length = s.size - (k + n) := by rw [e, List.drop_drop, drop_len]
  refine ⟨?_, by rw [hl]; omega⟩
  rw [hl, e, List.drop_drop]
  congr 1
  omega
theorem next_cls_none (hk : k < s.size) (h92 : (bt s k == 92) = false) (h91 : (bt s k == 91) = true) (h : Lib.hasPrefix (s.data.toList.drop (k + 1)) [58] = false) : nextL s[k] (s.data.toList.drop (k + 1)) = s.data.toList.drop (k + 1) := by
  unfold nextL clsL
  rw [if_neg ((bt_ne s k hk 92).1 h92), if_pos ((bt_eq s k hk 91).1 h91), h]; rfl
theorem next_cls_no (hk : k < s.size) (h92 : (bt s k == 92) = false) (h91 : (bt s k == 91) = true) (h2 : Lib.hasPrefix (nameL (s.data.toList.drop (k + 2))) [58, 93] = false) : nextL s[k] (s.data.toList.drop (k + 1)) = s.data.toList.drop (k + 1) := by
  unfold nextL clsL
  rw [if_neg ((bt_ne s k hk 92).1 h92), if_pos ((bt_eq s k hk 91).1 h91), List.drop_drop, h2]
  split <;> rfl
theorem next_cls_yes (hk : k < s.size) (h92 : (bt s k == 92) = false) (h91 : (bt s k == 91) = true) (h : Lib.hasPrefix (s.data.toList.drop (k + 1)) [58] = true) (h2 : Lib.hasPrefix (nameL (s.data.toList.drop (k + 2))) [58, 93] = true) (hk2 : k + 2 ≤ s.size) :
    nextL s[k] (s.data.toList.drop (k + 1)) = s.data.toList.drop (s.size - (nameL (s.data.toList.drop (k + 2))).length + 2) := by
  unfold nextL clsL
  rw [if_neg ((bt_ne s k hk 92).1 h92), if_pos ((bt_eq s k hk 91).1 h91), h, List.drop_drop, if_pos rfl, h2, if_pos rfl]
  have := (nameL_back s (k + 2) hk2).1
  rw [show k + 1 + 1 = k + 2 from rfl]
  conv => lhs; rw [this]
  rw [List.drop_drop]
theorem pre_open (hk : k < s.size) (h91 : (bt s k == 91) = true) : Lib.hasPrefix (s.data.toList.drop k) [91, 58] = Lib.hasPrefix (s.data.toList.drop (k + 1)) [58] := by
  rw [drop_cons s k hk, (bt_eq s k hk 91).1 h91]
  simp [Lib.hasPrefix, List.isPrefixOf]
theorem pre_len {r : List UInt8} (h : Lib.hasPrefix r [58] = true) : 1 ≤ r.length := by
  unfold Lib.hasPrefix at h
  rw [List.isPrefixOf_iff_prefix] at h
  simpa using h.length_le
theorem pre_len2 {r : List UInt8} (h : Lib.hasPrefix r [58, 93] = true) : 2 ≤ r.length := by
  unfold Lib.hasPrefix at h
  rw [List.isPrefixOf_iff_prefix] at h
  simpa using h.length_le
end
end Go.Proofs.Qxb6603283aDoor
