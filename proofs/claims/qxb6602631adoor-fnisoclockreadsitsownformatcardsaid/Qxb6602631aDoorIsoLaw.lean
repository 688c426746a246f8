/-
  FnIsoClockReadsItsOwnFormat: the law, walked out of the contracts.
-/
import Derived.Test.Qxb6602631aDoorIso
namespace Go.Proofs.Qxb6602631aDoor.Iso
open Go.RowKit Go.PlainAid

theorem bytes9 (n : Int) (s : ByteArray) (b : Bool) (w : World) (h : s.size ≤ 140737488355328) :
    Calls Tryd.prog 9 #[.int .i64 n, .string s, .bool b] w fun e w' => e = .returned (.bool (decide (s.size ≤ 1048576))) ∧ w' = w := by
  go_enter Tryd.func9, Tryd.ntmps9
  go_wp2
  all_goals
    go_ret
    exact ⟨ret_bool (by simp; omega), rfl⟩

def isD (c : Int) : Bool := decide (48 ≤ c ∧ c ≤ 57)
theorem digit10_yes (c : Int) (w : World) (h : 48 ≤ c ∧ c ≤ 57) :
    Calls Tryd.prog 10 #[.int .u8 c] w fun e w' => e = .returned (.int .i64 (c - 48)) ∧ w' = w := by
  obtain ⟨h1, h2⟩ := h
  have d1 : decide (48 ≤ c) = true := by simpa using h1
  have d2 : decide (c ≤ 57) = true := by simpa using h2
  go_enter Tryd.func10, Tryd.ntmps10
  go_wp2
  go_ret
  exact ⟨rfl, rfl⟩
theorem digit10_no (c : Int) (w : World) (h : ¬ (48 ≤ c ∧ c ≤ 57)) :
    Calls Tryd.prog 10 #[.int .u8 c] w fun e w' => e = .returned (.int .i64 (-1)) ∧ w' = w := by
  by_cases h1 : 48 ≤ c
  · have d1 : decide (48 ≤ c) = true := by simpa using h1
    have d2 : decide (c ≤ 57) = false := by simp; omega
    clear h
    go_enter Tryd.func10, Tryd.ntmps10
    go_wp2
    go_ret
    exact ⟨rfl, rfl⟩
  · have d1 : decide (48 ≤ c) = false := by simpa using h1
    clear h
    go_enter Tryd.func10, Tryd.ntmps10
    go_wp2
    go_ret
    exact ⟨rfl, rfl⟩

theorem zz8 (m : Int) (s t : ByteArray) (b : Bool) (w : World) (h : ∀ W, Calls Tryd.prog 21 #[.string s, .bool b] W fun e w' => e = .returned (.tuple #[.int .i64 m, .string t, .bool true]) ∧ Below W.heap.size W w') :
    Calls Tryd.prog 8 #[.string s, .bool b] w fun e w' => e = .returned (.tuple #[.int .i64 m, .string t, .bool true]) ∧ Below w.heap.size w w' := by
  have H : Hid _ := h
  clear h
  go_enter Tryd.func8, Tryd.ntmps8
  go_wp2_with (go_at_call 21; refine (H.out _).mono ?_; rintro e w' ⟨rfl, hb⟩)
  go_ret3
  exact ⟨rfl, hb⟩

theorem head_get (t : ByteArray) (h : 0 < t.size) : t.data.toList.head? = some t[0] := by
  have : t.data.toList[0]? = some t[0] := by
    rw [List.getElem?_eq_getElem (by rw [← Lib.size_eq]; exact h)]; rfl
  rw [List.head?_eq_getElem?]; exact this
theorem empty (r : ByteArray) (h : r.size = 0) : r.toList.isEmpty = true := by
  have e : r.data.toList = [] := List.eq_nil_of_length_eq_zero (by rw [← Lib.size_eq]; exact h)
  rw [Lib.toList_data, e]; rfl

theorem text_list (h1 h2 m1 m2 s1 s2 f1 f2 f3 f4 f5 f6 : Int) (t : ByteArray) :
    (strOfNums [48 + h1, 48 + h2, 58, 48 + m1, 48 + m2, 58, 48 + s1, 48 + s2, 46, 48 + f1, 48 + f2, 48 + f3, 48 + f4, 48 + f5, 48 + f6] ++ t).data.toList = textL h1 h2 m1 m2 s1 s2 f1 f2 f3 f4 f5 f6 t.data.toList := by
  rw [ByteArray.data_append]
  simp [strOfNums, textL, dg]

/-- X is the text of the microsecond m. -/
def TextOf (m : Int) (X : ByteArray) : Prop := ∃ h1 h2 m1 m2 s1 s2 f1 f2 f3 f4 f5 f6, Clock m h1 h2 m1 m2 s1 s2 f1 f2 f3 f4 f5 f6 ∧ X = strOfNums [48 + h1, 48 + h2, 58, 48 + m1, 48 + m2, 58, 48 + s1, 48 + s2, 46, 48 + f1, 48 + f2, 48 + f3, 48 + f4, 48 + f5, 48 + f6]
theorem text11' (m : Int) (w : World) (h0 : 0 ≤ m) (hm : m < 86400000000) :
    Calls Tryd.prog 11 #[.int .i64 m] w fun e w' => (∃ X : ByteArray, e = .returned (.string X) ∧ X.size ≤ 15 ∧ Hid (TextOf m X)) ∧ Below w.heap.size w w' :=
  (text11 m w h0 hm).mono fun e w' ⟨⟨h1, h2, m1, m2, s1, s2, f1, f2, f3, f4, f5, f6, C, he⟩, hb⟩ => ⟨⟨_, he, by rw [strOfNums_size]; simp, ⟨h1, h2, m1, m2, s1, s2, f1, f2, f3, f4, f5, f6, C, rfl⟩⟩, hb⟩
theorem zz8' (m : Int) (X t : ByteArray) (past : Bool) (hX : TextOf m X) (hs : t.size ≤ 65536) (hh : ∀ c, t.data.toList.head? = some c → ¬ (48 ≤ c.toNat ∧ c.toNat ≤ 57)) (W : World) :
    Calls Tryd.prog 8 #[.string (X ++ t), .bool past] W fun e w' => e = .returned (.tuple #[.int .i64 m, .string t, .bool true]) ∧ Below W.heap.size W w' := by
  obtain ⟨h1, h2, m1, m2, s1, s2, f1, f2, f3, f4, f5, f6, C, rfl⟩ := hX
  exact zz8 m _ t past W (fun W' => iso21 m h1 h2 m1 m2 s1 s2 f1 f2 f3 f4 f5 f6 C _ t past W' (text_list h1 h2 m1 m2 s1 s2 f1 f2 f3 f4 f5 f6 t) hs hh)

set_option maxRecDepth 100000 in
set_option maxHeartbeats 2000000 in
theorem law4 (m : Int) (t : ByteArray) (past : Bool) (w : World) (ht : t.size ≤ 140737488355328) (hm0 : -9223372036854775808 ≤ m) (hm1 : m ≤ 9223372036854775807) :
    Calls Tryd.prog 4 #[.int .i64 m, .string t, .bool past] w fun e w' => e = .returned (.bool true) ∧ Below w.heap.size w w' := by
  have h9 := fun W => bytes9 m t past W ht
  by_cases hs : t.size ≤ 65536
  · have hd : decide (t.size ≤ 1048576) = true := by simp; omega
    rw [hd] at h9
    have H9 : Hid _ := h9
    have g1 : ¬ (65536 : Int) < (t.size : Int) := by omega
    clear h9 hd ht
    by_cases hneg : m < 0
    · have d1 : decide (m < 0) = true := by simpa using hneg
      go_enter Tryd.func4, Tryd.ntmps4
      go_wp2_with (go_at_call 9; refine (H9.out _).mono ?_; rintro e w' ⟨rfl, rfl⟩)
      go_ret
      exact ⟨rfl, Below.refl _ _⟩
    have d1 : decide (m < 0) = false := by simpa using hneg
    by_cases hbig : 86400000000 ≤ m
    · have d2 : decide (86400000000 ≤ m) = true := by simpa using hbig
      go_enter Tryd.func4, Tryd.ntmps4
      go_wp2_with (go_at_call 9; refine (H9.out _).mono ?_; rintro e w' ⟨rfl, rfl⟩)
      go_ret
      exact ⟨rfl, Below.refl _ _⟩
    have d2 : decide (86400000000 ≤ m) = false := by simpa using hbig
    have main : (∀ c, t.data.toList.head? = some c → ¬ (48 ≤ c.toNat ∧ c.toNat ≤ 57)) → (0 < t.size → ¬ (48 ≤ bt t 0 ∧ bt t 0 ≤ 57)) →
        Calls Tryd.prog 4 #[.int .i64 m, .string t, .bool past] w fun e w' => e = .returned (.bool true) ∧ Below w.heap.size w w' := by
      intro hh hbt
      have H11 : Hid _ := fun W => text11' m W (by omega) (by omega)
      have H21 : Hid _ := fun X (hX : TextOf m X) W => zz8' m X t past hX hs hh W
      clear hh
      have hb := get_bt t
      by_cases h0 : 0 < t.size
      · have hf := full t h0
        have H10 : Hid _ := fun W => digit10_no (bt t 0) W (hbt h0)
        have i0 : (0 : Int) < (t.size : Int) := by omega
        clear hbt
        go_enter Tryd.func4, Tryd.ntmps4
        go_wp2_with (first
          | (go_at_call 9; refine (H9.out _).mono ?_; rintro e w' ⟨rfl, rfl⟩)
          | (go_at_call 10; refine (H10.out _).mono ?_; rintro e w' ⟨rfl, rfl⟩)
          | (go_at_call 11; refine (H11.out _).mono ?_; rintro e w1 ⟨⟨X, rfl, hX, HX⟩, hb1⟩)
          | (go_at_call 8; refine (H21.out X HX.out _).mono ?_; rintro e w2 ⟨rfl, hb2⟩))
        go_ret
        exact ⟨rfl, hb1.trans (hb2.mono hb1.size)⟩
      · have hf := empty t (by omega)
        clear hbt
        go_enter Tryd.func4, Tryd.ntmps4
        go_wp2_with (first
          | (go_at_call 9; refine (H9.out _).mono ?_; rintro e w' ⟨rfl, rfl⟩)
          | (go_at_call 11; refine (H11.out _).mono ?_; rintro e w1 ⟨⟨X, rfl, hX, HX⟩, hb1⟩)
          | (go_at_call 8; refine (H21.out X HX.out _).mono ?_; rintro e w2 ⟨rfl, hb2⟩))
        go_ret
        exact ⟨rfl, hb1.trans (hb2.mono hb1.size)⟩
    by_cases h0 : 0 < t.size
    · have e0 := head_get t h0
      have eb := bt_get t 0 h0
      by_cases hd : 48 ≤ bt t 0 ∧ bt t 0 ≤ 57
      · have H10 : Hid _ := fun W => digit10_yes (bt t 0) W hd
        have hb := get_bt t
        have hf := full t h0
        have i0 : (0 : Int) < (t.size : Int) := by omega
        have i1 : (0 : Int) ≤ bt t 0 - 48 := by omega
        have dd : decide ((0 : Int) ≤ bt t 0 - 48) = true := by simpa using i1
        clear main eb e0
        go_enter Tryd.func4, Tryd.ntmps4
        go_wp2_with (first
          | (go_at_call 9; refine (H9.out _).mono ?_; rintro e w' ⟨rfl, rfl⟩)
          | (go_at_call 10; refine (H10.out _).mono ?_; rintro e w' ⟨rfl, rfl⟩))
        go_ret
        exact ⟨rfl, Below.refl _ _⟩
      · refine main (fun c hc => ?_) (fun _ => hd)
        rw [e0] at hc
        cases hc
        rw [eb] at hd
        omega
    · refine main (fun c hc => ?_) (fun h => absurd h h0)
      have e : t.data.toList = [] := List.eq_nil_of_length_eq_zero (by rw [← Lib.size_eq]; omega)
      rw [e] at hc; cases hc
  · cases hd : decide (t.size ≤ 1048576)
    · rw [hd] at h9
      have H9 : Hid _ := h9
      clear h9 hd
      go_enter Tryd.func4, Tryd.ntmps4
      go_wp2_with (go_at_call 9; refine (H9.out _).mono ?_; rintro e w' ⟨rfl, rfl⟩)
      go_ret
      exact ⟨rfl, Below.refl _ _⟩
    · rw [hd] at h9
      have H9 : Hid _ := h9
      have g1 : (65536 : Int) < (t.size : Int) := by omega
      clear h9 hd
      go_enter Tryd.func4, Tryd.ntmps4
      go_wp2_with (go_at_call 9; refine (H9.out _).mono ?_; rintro e w' ⟨rfl, rfl⟩)
      go_ret
      exact ⟨rfl, Below.refl _ _⟩
end Go.Proofs.Qxb6602631aDoor.Iso
