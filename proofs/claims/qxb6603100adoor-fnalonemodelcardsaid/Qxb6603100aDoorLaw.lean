/-
  FnAloneModel: the law, walked out of the contracts.
-/
import Derived.Test.Qxb6603100aDoorAlone
namespace Go.Proofs.Qxb6603100aDoor
open Go.RowKit Go.PlainAid

theorem bytes5 (s : ByteArray) (a b c : Int) (w : World) (h : s.size ≤ 140737488355328) :
    Calls Tryd.prog 5 #[.string s, .int .i64 a, .int .i64 b, .int .i64 c] w fun e w' => e = .returned (.bool (decide (s.size ≤ 1048576))) ∧ w' = w := by
  go_enter Tryd.func5, Tryd.ntmps5
  go_wp2
  all_goals
    go_ret
    exact ⟨ret_bool (by simp; omega), rfl⟩

theorem zz6 (s : ByteArray) (a b e j k : Nat) (w : World) (hs : s.size ≤ 1048576) (hab : a ≤ b) (hbs : b ≤ s.size) (hes : e ≤ s.size) (J : Jc s a b j) (K : Kc s e k) :
    Calls Tryd.prog 6 #[.string s, .int .i64 a, .int .i64 b, .int .i64 e] w fun r w' => r = .returned (.tuple #[.int .i64 (ans s a j k).1, .int .i64 (ans s a j k).2.1, .bool (ans s a j k).2.2]) ∧ Below w.heap.size w w' := by
  have H : Hid _ := fun W => alone9 s a b e j k W hs hab hbs hes J K
  generalize ans s a j k = R at *
  go_enter Tryd.func6, Tryd.ntmps6
  go_wp2_with (go_at_call 9; refine (H.out _).mono ?_; rintro e w' ⟨rfl, hb⟩)
  go_ret3
  exact ⟨rfl, hb⟩

set_option maxRecDepth 100000 in
set_option maxHeartbeats 2000000 in
theorem law3 (s : ByteArray) (a b c : Int) (w : World) (h : s.size ≤ 140737488355328) (_ha : -9223372036854775808 ≤ a ∧ a ≤ 9223372036854775807) (_hb : -9223372036854775808 ≤ b ∧ b ≤ 9223372036854775807) (_hc : -9223372036854775808 ≤ c ∧ c ≤ 9223372036854775807) :
    Calls Tryd.prog 3 #[.string s, .int .i64 a, .int .i64 b, .int .i64 c] w fun e w' => e = .returned (.bool true) ∧ Below w.heap.size w w' := by
  have h5 := fun W => bytes5 s a b c W h
  cases hd : decide (s.size ≤ 1048576)
  · rw [hd] at h5
    have H5 : Hid _ := h5
    clear h5 hd
    go_enter Tryd.func3, Tryd.ntmps3
    go_wp2_with (go_at_call 5; refine (H5.out _).mono ?_; rintro e w' ⟨rfl, rfl⟩)
    go_ret
    exact ⟨rfl, Below.refl _ _⟩
  have hs : s.size ≤ 1048576 := by simpa using hd
  rw [hd] at h5
  have H5 : Hid _ := h5
  clear h5 hd
  have hsi : ¬ (1048576 : Int) < (s.size : Int) := by omega
  by_cases q1 : a < 0
  · have d1 : decide (a < 0) = true := by simpa using q1
    go_enter Tryd.func3, Tryd.ntmps3
    go_wp2_with (go_at_call 5; refine (H5.out _).mono ?_; rintro e w' ⟨rfl, rfl⟩)
    go_ret
    exact ⟨rfl, Below.refl _ _⟩
  have d1 : decide (a < 0) = false := by simpa using q1
  by_cases q2 : b < a
  · have d2 : decide (b < a) = true := by simpa using q2
    go_enter Tryd.func3, Tryd.ntmps3
    go_wp2_with (go_at_call 5; refine (H5.out _).mono ?_; rintro e w' ⟨rfl, rfl⟩)
    go_ret
    exact ⟨rfl, Below.refl _ _⟩
  have d2 : decide (b < a) = false := by simpa using q2
  by_cases q3 : (s.size : Int) < b
  · have d3 : decide ((s.size : Int) < b) = true := by simpa using q3
    go_enter Tryd.func3, Tryd.ntmps3
    go_wp2_with (go_at_call 5; refine (H5.out _).mono ?_; rintro e w' ⟨rfl, rfl⟩)
    go_ret
    exact ⟨rfl, Below.refl _ _⟩
  have d3 : decide ((s.size : Int) < b) = false := by simpa using q3
  by_cases q4 : c < 0
  · have d4 : decide (c < 0) = true := by simpa using q4
    go_enter Tryd.func3, Tryd.ntmps3
    go_wp2_with (go_at_call 5; refine (H5.out _).mono ?_; rintro e w' ⟨rfl, rfl⟩)
    go_ret
    exact ⟨rfl, Below.refl _ _⟩
  have d4 : decide (c < 0) = false := by simpa using q4
  by_cases q5 : (s.size : Int) < c
  · have d5 : decide ((s.size : Int) < c) = true := by simpa using q5
    go_enter Tryd.func3, Tryd.ntmps3
    go_wp2_with (go_at_call 5; refine (H5.out _).mono ?_; rintro e w' ⟨rfl, rfl⟩)
    go_ret
    exact ⟨rfl, Below.refl _ _⟩
  have d5 : decide ((s.size : Int) < c) = false := by simpa using q5
  obtain ⟨A, rfl⟩ : ∃ A : Nat, a = A := ⟨a.toNat, by omega⟩
  obtain ⟨B, rfl⟩ : ∃ B : Nat, b = B := ⟨b.toNat, by omega⟩
  obtain ⟨E, rfl⟩ : ∃ E : Nat, c = E := ⟨c.toNat, by omega⟩
  obtain ⟨j, J⟩ := Jc.exists s A (B - A)
  rw [show A + (B - A) = B by omega] at J
  obtain ⟨k, K⟩ := Kc.exists s (s.size - E) E (by omega)
  have H6 : Hid _ := fun W => zz6 s A B E j k W hs (by omega) (by omega) (by omega) J K
  have H7 : Hid _ := fun W => model7 s A B E j k W hs (by omega) (by omega) (by omega) J K
  generalize ans s A j k = R at H6 H7
  obtain ⟨r1, r2, r3⟩ := R
  have n1 : A ≤ B := by omega
  have n2 : B ≤ s.size := by omega
  have n3 : E ≤ s.size := by omega
  have m1 : decide (B < A) = false := by simp; omega
  have m2 : decide (s.size < B) = false := by simp; omega
  have m3 : decide (s.size < E) = false := by simp; omega
  clear J K q1 q2 q3 q4 q5 d1 d2 d3 d4 d5
  go_enter Tryd.func3, Tryd.ntmps3
  go_wp2_with (first
    | (go_at_call 5; refine (H5.out _).mono ?_; rintro e w' ⟨rfl, rfl⟩)
    | (go_at_call 6; refine (H6.out _).mono ?_; rintro e w1 ⟨rfl, hb1⟩)
    | (go_at_call 7; refine (H7.out _).mono ?_; rintro e w2 ⟨rfl, hb2⟩; subst hb2))
  go_ret
  exact ⟨ret_bool (by simp), hb1⟩
end Go.Proofs.Qxb6603100aDoor
