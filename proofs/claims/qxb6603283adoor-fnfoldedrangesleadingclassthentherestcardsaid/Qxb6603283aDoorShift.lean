/-
  FnClassRangesShiftInvariant: the law, walked out of the contracts.
-/
import Derived.Test.Qxb6603283aDoorClass
namespace Go.Proofs.Qxb6603283aDoor
open Go.RowKit Go.PlainAid

theorem bytes9 (s : ByteArray) (o : Int) (w : World) (h : s.size ≤ 140737488355328) :
    Calls Tryd.prog 9 #[.string s, .int .i64 o] w fun e w' => e = .returned (.bool (decide (s.size ≤ 1048576))) ∧ w' = w := by
  go_enter Tryd.func9, Tryd.ntmps9
  go_wp2
  all_goals
    go_ret
    exact ⟨ret_bool (by simp; omega), rfl⟩

/-- classRanges' two answers. -/
def ansR (s : ByteArray) (o : Nat) : Int := (classL (s.data.toList.drop o)).1
def ansE (s : ByteArray) (o : Nat) : Int := (s.size : Int) - ((classL (s.data.toList.drop o)).2.length : Int)

theorem zz10 (s : ByteArray) (o : Nat) (w : World) (hs : s.size ≤ 2097152) (ho : o < s.size) :
    Calls Tryd.prog 10 #[.string s, .int .i64 o] w fun r w' => r = .returned (.tuple #[.int .i64 (ansR s o), .int .i64 (ansE s o)]) ∧ Below w.heap.size w w' := by
  have H : Hid (∀ W, Calls Tryd.prog 20 #[.string s, .int .i64 o] W fun r w' => r = .returned (.tuple #[.int .i64 (ansR s o), .int .i64 (ansE s o)]) ∧ Below W.heap.size W w') := fun W => class20 s o W hs ho
  generalize ansR s o = x at *
  generalize ansE s o = y at *
  go_enter Tryd.func10, Tryd.ntmps10
  go_wp2_with (go_at_call 20; refine (H.out _).mono ?_; rintro e w' ⟨rfl, hb⟩)
  go_ret2
  exact ⟨rfl, hb⟩

theorem scan_le : ∀ (n : Nat) (l : List UInt8) (b : Bool), (scanF n l b).2.length ≤ l.length
  | 0, l, b => by simp [scanF]
  | n + 1, [], b => by simp [scanF]
  | n + 1, c :: r, b => by
    rw [scanF]
    split
    · exact Nat.le_refl _
    · have h1 := scan_le n (nextL c r) false
      have h2 := nextL_le c r
      simp only [List.length_cons]
      omega
theorem class_le (l : List UInt8) : (classL l).2.length ≤ l.length - 1 := by
  unfold classL scan
  refine Nat.le_trans (scan_le _ _ _) ?_
  unfold bodyL
  split <;> simp <;> omega
theorem scan_cnt : ∀ (n : Nat) (l : List UInt8) (b : Bool), (scanF n l b).1 ≤ l.length
  | 0, l, b => by simp [scanF]
  | n + 1, [], b => by simp [scanF]
  | n + 1, c :: r, b => by
    rw [scanF]
    split
    · exact Nat.zero_le _
    · have h1 := scan_cnt n (nextL c r) false
      have h2 := nextL_le c r
      have h3 : hit c r b ≤ 1 := by
        unfold hit
        split
        · split
          · omega
          · split <;> omega
        · omega
      simp only [List.length_cons]
      omega
theorem class_cnt (l : List UInt8) : (classL l).1 ≤ l.length := by
  unfold classL scan
  refine Nat.le_trans (scan_cnt _ _ _) ?_
  unfold bodyL
  split <;> simp
theorem ansE_bounds (s : ByteArray) (o : Nat) (ho : o < s.size) : (o : Int) + 1 ≤ ansE s o ∧ ansE s o ≤ s.size := by
  unfold ansE
  have h := class_le (s.data.toList.drop o)
  rw [drop_len] at h
  omega
theorem ansR_bounds (s : ByteArray) (o : Nat) : 0 ≤ ansR s o ∧ ansR s o ≤ s.size := by
  unfold ansR
  have h := class_cnt (s.data.toList.drop o)
  rw [drop_len] at h
  omega
theorem shiftR (s : ByteArray) (o : Nat) : ansR (s.extract o s.size) 0 = ansR s o := by
  unfold ansR
  rw [cut_end, List.drop_zero]
theorem shiftE (s : ByteArray) (o : Nat) (ho : o ≤ s.size) : ansE (s.extract o s.size) 0 + o = ansE s o := by
  unfold ansE
  rw [Lib.size_eq (s.extract o s.size), cut_end, List.drop_zero, drop_len]
  omega

set_option maxRecDepth 100000 in
set_option maxHeartbeats 2000000 in
theorem law3 (s : ByteArray) (o : Int) (w : World) (h : s.size ≤ 140737488355328) (_ho : -9223372036854775808 ≤ o ∧ o ≤ 9223372036854775807) :
    Calls Tryd.prog 3 #[.string s, .int .i64 o] w fun e w' => e = .returned (.bool true) ∧ Below w.heap.size w w' := by
  have h9 := fun W => bytes9 s o W h
  cases hd : decide (s.size ≤ 1048576)
  · rw [hd] at h9
    have H9 : Hid _ := h9
    clear h9 hd
    go_enter Tryd.func3, Tryd.ntmps3
    go_wp2_with (go_at_call 9; refine (H9.out _).mono ?_; rintro e w' ⟨rfl, rfl⟩)
    go_ret
    exact ⟨rfl, Below.refl _ _⟩
  have hs : s.size ≤ 1048576 := by simpa using hd
  rw [hd] at h9
  have H9 : Hid _ := h9
  clear h9 hd
  have hsi : ¬ (1048576 : Int) < (s.size : Int) := by omega
  by_cases q1 : o < 0
  · have d1 : decide (o < 0) = true := by simpa using q1
    go_enter Tryd.func3, Tryd.ntmps3
    go_wp2_with (go_at_call 9; refine (H9.out _).mono ?_; rintro e w' ⟨rfl, rfl⟩)
    go_ret
    exact ⟨rfl, Below.refl _ _⟩
  have d1 : decide (o < 0) = false := by simpa using q1
  by_cases q2 : (s.size : Int) ≤ o
  · have d2 : decide ((s.size : Int) ≤ o) = true := by simpa using q2
    go_enter Tryd.func3, Tryd.ntmps3
    go_wp2_with (go_at_call 9; refine (H9.out _).mono ?_; rintro e w' ⟨rfl, rfl⟩)
    go_ret
    exact ⟨rfl, Below.refl _ _⟩
  obtain ⟨A, rfl⟩ : ∃ A : Nat, o = A := ⟨o.toNat, by omega⟩
  have hA : A < s.size := by omega
  have m1 : decide (s.size ≤ A) = false := by simp; omega
  have HA : Hid _ := fun W => zz10 s A W (by omega) hA
  have HB : Hid (∀ W, Calls Tryd.prog 10 #[.string (s.extract A s.size), .int .i64 0] W fun r w' => r = .returned (.tuple #[.int .i64 (ansR (s.extract A s.size) 0), .int .i64 (ansE (s.extract A s.size) 0)]) ∧ Below W.heap.size W w') := fun W => zz10 (s.extract A s.size) 0 W (by simp; omega) (by simp; omega)
  have e1 := shiftR s A
  have e2 := shiftE s A (by omega)
  have b1 := ansE_bounds s A hA
  rw [e1] at HB
  have e3 : ansE (s.extract A s.size) 0 = ansE s A - A := by omega
  rw [e3] at HB
  generalize ansR s A = x at HA HB
  generalize ansE s A = y at HA HB b1
  obtain ⟨b2, b3⟩ := b1
  clear e1 e2 e3 q1 q2 d1
  have hAi : (A : Int) < (s.size : Int) := by omega
  go_enter Tryd.func3, Tryd.ntmps3
  go_wp2_with (first
    | (go_at_call 9; refine (H9.out _).mono ?_; rintro e w' ⟨rfl, rfl⟩)
    | (go_at_call_of 10 (Value.string s); refine (HA.out _).mono ?_; rintro e w1 ⟨rfl, hb1⟩)
    | (go_at_call_of 10 (Value.string (s.extract A s.size)); refine (HB.out _).mono ?_; rintro e w2 ⟨rfl, hb2⟩))
  go_ret
  exact ⟨rfl, hb1.trans (hb2.mono hb1.size)⟩
end Go.Proofs.Qxb6603283aDoor
