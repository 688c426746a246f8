/-
  FnClassRangesEndsAtItsBracketAndIgnoresTheRest: the law, walked out of the contracts.
-/
import Derived.Test.Qxb6603283aDoorEndsPlain
namespace Go.Proofs.Qxb6603283aDoor
open Go.RowKit Go.PlainAid

theorem bytes11 (s : ByteArray) (o : Int) (w : World) (h : s.size ≤ 140737488355328) :
    Calls Tryd.prog 11 #[.string s, .int .i64 o] w fun e w' => e = .returned (.bool (decide (s.size ≤ 1048576))) ∧ w' = w := by
  go_enter Tryd.func11, Tryd.ntmps11
  go_wp2
  all_goals
    go_ret
    exact ⟨ret_bool (by simp; omega), rfl⟩

/-- The dashes from A on, up to B. -/
def dashN (s : ByteArray) (A B : Nat) : Nat := cnt ((s.data.toList.drop A).take (B - A))
theorem dash_start (s : ByteArray) (A : Nat) : dashN s A A = 0 := by
  unfold dashN
  rw [Nat.sub_self]; rfl
theorem dash_none (s : ByteArray) (A B : Nat) (h : B ≤ A) : dashN s A B = 0 := by
  unfold dashN
  rw [Nat.sub_eq_zero_of_le h]; rfl
theorem dash_step (s : ByteArray) (A k : Nat) (hA : A ≤ k) (hk : k < s.size) : dashN s A (k + 1) = dashN s A k + (if s[k] = 45 then 1 else 0) := by
  unfold dashN cnt
  have hl : k - A < (s.data.toList.drop A).length := by rw [drop_len]; omega
  rw [show k + 1 - A = (k - A) + 1 by omega, List.take_succ_eq_append_getElem hl, List.count_append, List.count_singleton]
  have e : (s.data.toList.drop A)[k - A] = s[k] := by
    rw [List.getElem_drop]
    have : A + (k - A) = k := by omega
    simp only [this]
    rfl
  rw [e]
  by_cases h : s[k] = 45
  · rw [if_pos h, h]; rfl
  · rw [if_neg h, if_neg (by simpa using h)]
theorem dash_hit (s : ByteArray) (A k : Nat) (hA : A ≤ k) (hk : k < s.size) (h : (bt s k == 45) = true) : dashN s A (k + 1) = dashN s A k + 1 := by
  rw [dash_step s A k hA hk, if_pos ((bt_eq s k hk 45).1 h)]
theorem dash_miss (s : ByteArray) (A k : Nat) (hA : A ≤ k) (hk : k < s.size) (h : (bt s k == 45) = false) : dashN s A (k + 1) = dashN s A k := by
  rw [dash_step s A k hA hk, if_neg ((bt_ne s k hk 45).1 h)]; rfl
theorem dash_le (s : ByteArray) (A B : Nat) : dashN s A B ≤ B - A := by
  unfold dashN cnt
  refine Nat.le_trans List.count_le_length ?_
  rw [List.length_take]; omega

theorem dashes12 (s : ByteArray) (A B : Nat) (w : World) (hs : s.size ≤ 2097152) (hB : B ≤ s.size) (hA : A ≤ s.size + 1) :
    Calls Tryd.prog 12 #[.string s, .int .i64 A, .int .i64 B] w fun e w' => e = .returned (.int .i64 (dashN s A B)) ∧ w' = w := by
  have hb := get_bt s
  go_enter Tryd.func12, Tryd.ntmps12
  go_wp2
  go_loopw [7, 8] (fun cv kv wr => ∃ k : Nat, A ≤ k ∧ (k = A ∨ k ≤ B) ∧ cv = .int .i64 (dashN s A k) ∧ kv = .int .i64 k ∧ wr = w) (fun _ kv _ => B - (intOf kv).toNat)
  case atStart => exact ⟨A, Nat.le_refl _, .inl rfl, by rw [dash_start]; rfl, rfl, rfl⟩
  case round =>
    obtain ⟨k, hAk, hkB, rfl, rfl, rfl⟩ := hrel
    have hd := dash_le s A k
    by_cases hlt : k < B
    · have hki : (k : Int) < (B : Int) := by omega
      have hks : k < s.size := by omega
      have hksi : (k : Int) < (s.size : Int) := by omega
      cases h45 : (bt s k == 45)
      · have e := dash_miss s A k hAk hks h45
        generalize dashN s A k = c at *
        go_wp2
        go_roundw
        case rel => exact ⟨k + 1, by omega, by omega, by rw [e], by go_num, trivial⟩
        case measure => simp [intOf]; omega
      · have e := dash_hit s A k hAk hks h45
        generalize dashN s A k = c at *
        go_wp2
        go_roundw
        case rel => exact ⟨k + 1, by omega, by omega, by rw [e]; go_num, by go_num, trivial⟩
        case measure => simp [intOf]; omega
    · have hk : dashN s A k = dashN s A B := by
        rcases hkB with rfl | h
        · rw [dash_start, dash_none s k B (by omega)]
        · rw [show k = B by omega]
      go_wp2
      go_ret
      exact ⟨by rw [hk]; rfl, rfl⟩

theorem ends_facts (s : ByteArray) (o : Nat) (ho : o < s.size) : ∃ e r : Nat, ansE s o = e ∧ ansR s o = r ∧ o < e ∧ e ≤ s.size ∧ r ≤ dashN s (o + 2) e ∧
    (e < s.size → (bt s e == 93) = true ∧ o + 2 ≤ e ∧ ansR (s.extract 0 (e + 1)) o = r ∧ ansE (s.extract 0 (e + 1)) o = e) := by
  have hl0 : s.data.toList.drop o ≠ [] := by
    intro h
    have := congrArg List.length h
    rw [drop_len] at this
    simp at this
    omega
  obtain ⟨v, h1, h2, h3, h4⟩ := class_split _ hl0
  have hlen := congrArg List.length h1
  rw [drop_len, List.length_append] at hlen
  have hdrop : s.data.toList.drop (o + v.length) = (classL (s.data.toList.drop o)).2 := by
    rw [← List.drop_drop]
    conv => lhs; rw [h1]
    exact List.drop_left
  refine ⟨o + v.length, (classL (s.data.toList.drop o)).1, ?_, rfl, by omega, by omega, ?_, ?_⟩
  · unfold ansE; omega
  · have e : v.drop 2 = (s.data.toList.drop (o + 2)).take (o + v.length - (o + 2)) := by
      rw [← List.drop_drop, h1]
      by_cases hv : 2 ≤ v.length
      · rw [List.drop_append_of_le_length hv, List.take_append_of_le_length (by rw [List.length_drop]; omega), List.take_of_length_le (by rw [List.length_drop]; omega)]
      · rw [List.drop_of_length_le (by omega), show o + v.length - (o + 2) = 0 by omega]; rfl
    unfold dashN
    rw [← e]
    exact h3
  · intro hlt
    rcases h4 with h4 | ⟨t, h4, h5, h6⟩
    · rw [h4] at hlen
      simp at hlen
      omega
    · have hex : ((s.extract 0 (o + v.length + 1)).data.toList).drop o = v ++ [93] := by
        rw [Lib.extract_data, List.drop_zero, Nat.sub_zero, List.drop_take, h1, h4, show o + v.length + 1 - o = v.length + 1 by omega, List.take_length_add_append]
        rfl
      refine ⟨?_, by omega, ?_, ?_⟩
      · rw [h4, drop_cons s _ hlt] at hdrop
        exact (bt_eq s _ hlt 93).2 (List.cons.inj hdrop).1
      · unfold ansR
        rw [hex, h6]
      · unfold ansE
        rw [hex, h6]
        simp
        omega

set_option maxRecDepth 100000 in
set_option maxHeartbeats 4000000 in
theorem law4 (s : ByteArray) (o : Int) (w : World) (h : s.size ≤ 140737488355328) (_ho : -9223372036854775808 ≤ o ∧ o ≤ 9223372036854775807) :
    Calls Tryd.prog 4 #[.string s, .int .i64 o] w fun e w' => e = .returned (.bool true) ∧ Below w.heap.size w w' := by
  have h9 := fun W => bytes11 s o W h
  cases hd : decide (s.size ≤ 1048576)
  · rw [hd] at h9
    have H9 : Hid _ := h9
    clear h9 hd
    go_enter Tryd.func4, Tryd.ntmps4
    go_wp2_with (go_at_call 11; refine (H9.out _).mono ?_; rintro e w' ⟨rfl, rfl⟩)
    go_ret
    exact ⟨rfl, Below.refl _ _⟩
  have hs : s.size ≤ 1048576 := by simpa using hd
  rw [hd] at h9
  have H9 : Hid _ := h9
  clear h9 hd
  have hsi : ¬ (1048576 : Int) < (s.size : Int) := by omega
  by_cases q1 : o < 0
  · have d1 : decide (o < 0) = true := by simpa using q1
    go_enter Tryd.func4, Tryd.ntmps4
    go_wp2_with (go_at_call 11; refine (H9.out _).mono ?_; rintro e w' ⟨rfl, rfl⟩)
    go_ret
    exact ⟨rfl, Below.refl _ _⟩
  have d1 : decide (o < 0) = false := by simpa using q1
  by_cases q2 : (s.size : Int) ≤ o
  · have d2 : decide ((s.size : Int) ≤ o) = true := by simpa using q2
    go_enter Tryd.func4, Tryd.ntmps4
    go_wp2_with (go_at_call 11; refine (H9.out _).mono ?_; rintro e w' ⟨rfl, rfl⟩)
    go_ret
    exact ⟨rfl, Below.refl _ _⟩
  obtain ⟨A, rfl⟩ : ∃ A : Nat, o = A := ⟨o.toNat, by omega⟩
  have hA : A < s.size := by omega
  have m1 : decide (s.size ≤ A) = false := by simp; omega
  have hb := get_bt s
  obtain ⟨e, r, hE, hR, f1, f2, f3, f4⟩ := ends_facts s A hA
  have HA : Hid _ := fun W => zz10 s A W (by omega) hA
  rw [hE, hR] at HA
  have HD : Hid (∀ W, Calls Tryd.prog 12 #[.string s, .int .i64 ((A + 2 : Nat) : Int), .int .i64 e] W fun r w' => r = .returned (.int .i64 (dashN s (A + 2) e)) ∧ w' = W) := fun W => dashes12 s (A + 2) e W (by omega) f2 (by omega)
  rw [show ((A + 2 : Nat) : Int) = (A : Int) + 2 by omega] at HD
  have f3b : r ≤ s.size := by have := dash_le s (A + 2) e; omega
  have hD := dash_le s (A + 2) e
  generalize dashN s (A + 2) e = D at HD f3 hD
  have t1 : decide (e ≤ A) = false := by simp; omega
  have t2 : decide (s.size < e) = false := by simp; omega
  have t3 : decide (D < r) = false := by simp; omega
  have t4 : ¬ (D : Int) < (r : Int) := by omega
  have t5 : ¬ (e : Int) ≤ (A : Int) := by omega
  have t6 : ¬ (s.size : Int) < (e : Int) := by omega
  by_cases he : e = s.size
  · subst he
    clear f4 hE hR q1 q2 d1
    go_enter Tryd.func4, Tryd.ntmps4
    go_wp2_with (first
      | (go_at_call 11; refine (H9.out _).mono ?_; rintro e w' ⟨rfl, rfl⟩)
      | (go_at_call 12; refine (HD.out _).mono ?_; rintro e w1 ⟨rfl, rfl⟩)
      | (go_at_call 10; refine (HA.out _).mono ?_; rintro e w1 ⟨rfl, hb1⟩))
    go_ret
    exact ⟨rfl, hb1⟩
  obtain ⟨g1, g2, g3, g4⟩ := f4 (by omega)
  have HB : Hid (∀ W, Calls Tryd.prog 10 #[.string (s.extract 0 (e + 1)), .int .i64 A] W fun r w' => r = .returned (.tuple #[.int .i64 (ansR (s.extract 0 (e + 1)) A), .int .i64 (ansE (s.extract 0 (e + 1)) A)]) ∧ Below W.heap.size W w') := fun W => zz10 (s.extract 0 (e + 1)) A W (by simp; omega) (by simp; omega)
  rw [g3, g4] at HB
  have t7 : ((e : Int) == (s.size : Int)) = false := by simp; omega
  have t8 : decide (e < A + 2) = false := by simp; omega
  have t9 : ¬ (e : Int) < (A : Int) + 2 := by omega
  have t10 : e < s.size := by omega
  have t11 : (e : Int) < (s.size : Int) := by omega
  clear f4 hE hR q1 q2 d1 g3 g4
  go_enter Tryd.func4, Tryd.ntmps4
  go_wp2_with (first
    | (go_at_call 11; refine (H9.out _).mono ?_; rintro e w' ⟨rfl, rfl⟩)
    | (go_at_call 12; refine (HD.out _).mono ?_; rintro e w1 ⟨rfl, rfl⟩)
    | (go_at_call_of 10 (Value.string s); refine (HA.out _).mono ?_; rintro e w1 ⟨rfl, hb1⟩)
    | (go_at_call 10; refine (HB.out _).mono ?_; rintro e w2 ⟨rfl, hb2⟩))
  · go_ret
    exact ⟨rfl, hb1.trans (hb2.mono hb1.size)⟩
  · exact absurd (eq_of_beq g1) ‹¬ bt s e = 93›
end Go.Proofs.Qxb6603283aDoor
