/-
  aloneModel and alone, walked: each gives the one plain answer.
-/
import Derived.Test.Qxb6603100aDoorPlain
import Derived.Deep.DeepCutAuto
namespace Go.Proofs.Qxb6603100aDoor
open Go.RowKit Go.PlainAid

theorem ret_bool {a b : Bool} (h : a = b) : Ending.returned (.bool a) = .returned (.bool b) := by rw [h]
theorem ret3 {x : Int × Int × Bool} {a b : Int} {c : Bool} (h : x = (a, b, c)) : Ending.returned (.tuple #[.int .i64 a, .int .i64 b, .bool c]) = .returned (.tuple #[.int .i64 x.1, .int .i64 x.2.1, .bool x.2.2]) := by rw [h]

theorem blank10 (c : Int) (w : World) : Calls Tryd.prog 10 #[.int .u8 c] w fun e w' => e = .returned (.bool (blk c)) ∧ w' = w := by
  cases h : (c == 32)
  · have hb : blk c = (c == 9) := by unfold blk; rw [h]; rfl
    have HB : Hid _ := hb
    clear hb
    go_enter Tryd.func10, Tryd.ntmps10
    go_wp2
    go_ret
    exact ⟨ret_bool HB.out.symm, rfl⟩
  · have hb : blk c = true := by unfold blk; rw [h]; rfl
    have HB : Hid _ := hb
    clear hb
    go_enter Tryd.func10, Tryd.ntmps10
    go_wp2
    go_ret
    exact ⟨ret_bool HB.out.symm, rfl⟩

section
variable {s : ByteArray} {a j k : Nat}
theorem ans_bad (h : badL s a j = true) : ans s a j k = (0, 0, false) := by unfold ans; rw [if_pos h]
theorem ans_end (h : badL s a j = false) (hk : k = s.size) : ans s a j k = ((j : Int), (k : Int), true) := by unfold ans; rw [if_neg (by rw [h]; decide), if_pos hk]
theorem ans_nl (h : badL s a j = false) (hk : ¬ k = s.size) (h1 : (bt s k == 10) = true) : ans s a j k = ((j : Int), (k : Int) + 1, true) := by unfold ans; rw [if_neg (by rw [h]; decide), if_neg hk, if_pos h1]
theorem ans_no13 (h : badL s a j = false) (hk : ¬ k = s.size) (h1 : (bt s k == 10) = false) (h2 : (bt s k == 13) = false) : ans s a j k = (0, 0, false) := by unfold ans; rw [if_neg (by rw [h]; decide), if_neg hk, if_neg (by rw [h1]; decide), if_neg (by rw [h2]; simp)]
theorem ans_nolen (h : badL s a j = false) (hk : ¬ k = s.size) (h1 : (bt s k == 10) = false) (h2 : ¬ k + 1 < s.size) : ans s a j k = (0, 0, false) := by unfold ans; rw [if_neg (by rw [h]; decide), if_neg hk, if_neg (by rw [h1]; decide), if_neg (by rw [decide_eq_false h2]; simp)]
theorem ans_no11 (h : badL s a j = false) (hk : ¬ k = s.size) (h1 : (bt s k == 10) = false) (h2 : (bt s (k + 1) == 10) = false) : ans s a j k = (0, 0, false) := by unfold ans; rw [if_neg (by rw [h]; decide), if_neg hk, if_neg (by rw [h1]; decide), if_neg (by rw [h2]; simp)]
theorem ans_crlf (h : badL s a j = false) (hk : ¬ k = s.size) (h1 : (bt s k == 10) = false) (h2 : (bt s k == 13) = true) (h3 : k + 1 < s.size) (h4 : (bt s (k + 1) == 10) = true) : ans s a j k = ((j : Int), (k : Int) + 2, true) := by
  unfold ans; rw [if_neg (by rw [h]; decide), if_neg hk, if_neg (by rw [h1]; decide), if_pos (by rw [h2, h4, decide_eq_true h3]; rfl)]
end

set_option maxRecDepth 100000 in
set_option maxHeartbeats 4000000 in
theorem model7 (s : ByteArray) (a b e j k : Nat) (w : World) (hs : s.size ≤ 1048576) (_hab : a ≤ b) (hbs : b ≤ s.size) (_hes : e ≤ s.size) (J : Jc s a b j) (K : Kc s e k) :
    Calls Tryd.prog 7 #[.string s, .int .i64 a, .int .i64 b, .int .i64 e] w fun r w' => r = .returned (.tuple #[.int .i64 (ans s a j k).1, .int .i64 (ans s a j k).2.1, .bool (ans s a j k).2.2]) ∧ w' = w := by
  have hb := get_bt s
  have HJ : Hid _ := J
  have HK : Hid _ := K
  have j1 := J.lo; have j2 := J.hi; have k1 := K.lo; have k2 := K.hi
  clear J K
  go_enter Tryd.func7, Tryd.ntmps7
  go_wp2
  go_loop [11] (fun i => ∃ c : Nat, j ≤ c ∧ c ≤ b ∧ i = .int .i64 c) (fun i => (intOf i).toNat)
  case atStart => exact ⟨b, j2, Nat.le_refl _, rfl⟩
  case round =>
    obtain ⟨c, c1, c2, rfl⟩ := hrel
    by_cases hjc : j < c
    · have hbl := HJ.out.all (c - 1) (by omega) (by omega)
      have H10 := fun W => blank10 (bt s (c - 1)) W
      rw [hbl] at H10
      have HH : Hid _ := H10
      clear H10 hbl
      have da : decide ((a : Int) < (c : Int)) = true := by simp; omega
      have hac : (a : Int) < (c : Int) := by omega
      go_wp2_with (go_at_call 10; refine (HH.out _).mono ?_; rintro e w' ⟨rfl, rfl⟩)
      go_round
      case rel => exact ⟨c - 1, by omega, by omega, by go_num⟩
      case measure => simp [intOf]; omega
    · have hc : j = c := by omega
      subst hc
      clear hjc c1 c2
      by_cases haj : a < j
      · have hbl : blk (bt s (j - 1)) = false := by
          rcases HJ.out.stop with h | h
          · omega
          · exact h
        have H10 := fun W => blank10 (bt s (j - 1)) W
        rw [hbl] at H10
        have HH : Hid _ := H10
        clear H10 hbl
        have da : decide ((a : Int) < (j : Int)) = true := by simp; omega
        have hac : (a : Int) < (j : Int) := by omega
        cases h10 : (bt s (j - 1) != 10)
        · have HBAD : Hid (badL s a j = false) := by show badL s a j = false; unfold badL; rw [if_pos haj, h10]
          go_wp2_with (go_at_call 10; refine (HH.out _).mono ?_; rintro e w' ⟨rfl, rfl⟩)
          clear HH h10 da hac haj
          go_loop [13] (fun i => ∃ c : Nat, e ≤ c ∧ c ≤ k ∧ i = .int .i64 c) (fun i => k - (intOf i).toNat)
          case atStart => exact ⟨e, Nat.le_refl _, k1, rfl⟩
          case round =>
            obtain ⟨c, c1, c2, rfl⟩ := hrel
            by_cases hck : c < k
            · have hbl := HK.out.all c c1 hck
              have H10 := fun W => blank10 (bt s c) W
              rw [hbl] at H10
              have HH : Hid _ := H10
              clear H10 hbl
              have hcs : (c : Int) < (s.size : Int) := by omega
              have dc : decide ((c : Int) < (s.size : Int)) = true := by simp; omega
              go_wp2_with (go_at_call 10; refine (HH.out _).mono ?_; rintro e w' ⟨rfl, rfl⟩)
              go_round
              case rel => exact ⟨c + 1, by omega, by omega, by go_num⟩
              case measure => simp [intOf]; omega
            · have hc : c = k := by omega
              subst hc
              by_cases hend : c = s.size
              · have dc : decide ((c : Int) < (s.size : Int)) = false := by simp; omega
                have deq : ((c : Int) == (s.size : Int)) = true := by rw [beq_iff_eq]; omega
                have HA : Hid _ := ans_end (s := s) (a := a) (j := j) (k := c) HBAD.out hend
                have HE : Hid _ := hend
                have hge : ¬ c < s.size := by omega
                have dn : decide (c < s.size) = false := by simp; omega
                clear hend
                go_wp2
                go_ret3
                exact ⟨ret3 HA.out, rfl⟩
              have hlt : c < s.size := by omega
              have hcs : (c : Int) < (s.size : Int) := by omega
              have dc : decide ((c : Int) < (s.size : Int)) = true := by simp; omega
              have deq : ((c : Int) == (s.size : Int)) = false := by rw [Bool.eq_false_iff]; simp; omega
              have hbl : blk (bt s c) = false := by
                rcases HK.out.stop with h | h
                · omega
                · exact h
              have H10 := fun W => blank10 (bt s c) W
              rw [hbl] at H10
              have HH : Hid _ := H10
              clear H10 hbl
              cases h10 : (bt s c == 10)
              · cases h13 : (bt s c == 13)
                · have HA : Hid _ := ans_no13 (s := s) (a := a) (j := j) (k := c) HBAD.out hend h10 h13
                  go_wp2_with (go_at_call 10; refine (HH.out _).mono ?_; rintro e w' ⟨rfl, rfl⟩)
                  go_ret3
                  exact ⟨ret3 HA.out, rfl⟩
                · by_cases hc1 : c + 1 < s.size
                  · have hc1i : (c : Int) + 1 < (s.size : Int) := by omega
                    have dc1 : decide ((c : Int) + 1 < (s.size : Int)) = true := by simp; omega
                    cases h11 : (bt s (c + 1) == 10)
                    · have HA : Hid _ := ans_no11 (s := s) (a := a) (j := j) (k := c) HBAD.out hend h10 h11
                      go_wp2_with (go_at_call 10; refine (HH.out _).mono ?_; rintro e w' ⟨rfl, rfl⟩)
                      go_ret3
                      exact ⟨ret3 HA.out, rfl⟩
                    · have HA : Hid _ := ans_crlf (s := s) (a := a) (j := j) (k := c) HBAD.out hend h10 h13 hc1 h11
                      go_wp2_with (go_at_call 10; refine (HH.out _).mono ?_; rintro e w' ⟨rfl, rfl⟩)
                      go_ret3
                      exact ⟨ret3 HA.out, rfl⟩
                  · have dc1 : decide ((c : Int) + 1 < (s.size : Int)) = false := by simp; omega
                    have HA : Hid _ := ans_nolen (s := s) (a := a) (j := j) (k := c) HBAD.out hend h10 hc1
                    go_wp2_with (go_at_call 10; refine (HH.out _).mono ?_; rintro e w' ⟨rfl, rfl⟩)
                    go_ret3
                    exact ⟨ret3 HA.out, rfl⟩
              · have HA : Hid _ := ans_nl (s := s) (a := a) (j := j) (k := c) HBAD.out hend h10
                go_wp2_with (go_at_call 10; refine (HH.out _).mono ?_; rintro e w' ⟨rfl, rfl⟩)
                go_ret3
                exact ⟨ret3 HA.out, rfl⟩
        · have HA : Hid _ := ans_bad (s := s) (a := a) (j := j) (k := k) (by unfold badL; rw [if_pos haj, h10])
          go_wp2_with (go_at_call 10; refine (HH.out _).mono ?_; rintro e w' ⟨rfl, rfl⟩)
          go_ret3
          exact ⟨ret3 HA.out, rfl⟩
      · have hja : ¬ (a : Int) < (j : Int) := by omega
        have da : decide ((a : Int) < (j : Int)) = false := by simp; omega
        by_cases ha0 : a = 0
        · have da0 : ((a : Int) != 0) = false := by simp; omega
          have HBAD : Hid (badL s a j = false) := by show badL s a j = false; unfold badL; rw [if_neg haj, ha0]; rfl
          have HZ : Hid _ := ha0
          clear ha0
          go_wp2
          clear da0 da hja haj
          go_loop [13] (fun i => ∃ c : Nat, e ≤ c ∧ c ≤ k ∧ i = .int .i64 c) (fun i => k - (intOf i).toNat)
          case atStart => exact ⟨e, Nat.le_refl _, k1, rfl⟩
          case round =>
            obtain ⟨c, c1, c2, rfl⟩ := hrel
            by_cases hck : c < k
            · have hbl := HK.out.all c c1 hck
              have H10 := fun W => blank10 (bt s c) W
              rw [hbl] at H10
              have HH : Hid _ := H10
              clear H10 hbl
              have hcs : (c : Int) < (s.size : Int) := by omega
              have dc : decide ((c : Int) < (s.size : Int)) = true := by simp; omega
              go_wp2_with (go_at_call 10; refine (HH.out _).mono ?_; rintro e w' ⟨rfl, rfl⟩)
              go_round
              case rel => exact ⟨c + 1, by omega, by omega, by go_num⟩
              case measure => simp [intOf]; omega
            · have hc : c = k := by omega
              subst hc
              by_cases hend : c = s.size
              · have dc : decide ((c : Int) < (s.size : Int)) = false := by simp; omega
                have deq : ((c : Int) == (s.size : Int)) = true := by rw [beq_iff_eq]; omega
                have HA : Hid _ := ans_end (s := s) (a := a) (j := j) (k := c) HBAD.out hend
                have HE : Hid _ := hend
                have hge : ¬ c < s.size := by omega
                have dn : decide (c < s.size) = false := by simp; omega
                clear hend
                go_wp2
                go_ret3
                exact ⟨ret3 HA.out, rfl⟩
              have hlt : c < s.size := by omega
              have hcs : (c : Int) < (s.size : Int) := by omega
              have dc : decide ((c : Int) < (s.size : Int)) = true := by simp; omega
              have deq : ((c : Int) == (s.size : Int)) = false := by rw [Bool.eq_false_iff]; simp; omega
              have hbl : blk (bt s c) = false := by
                rcases HK.out.stop with h | h
                · omega
                · exact h
              have H10 := fun W => blank10 (bt s c) W
              rw [hbl] at H10
              have HH : Hid _ := H10
              clear H10 hbl
              cases h10 : (bt s c == 10)
              · cases h13 : (bt s c == 13)
                · have HA : Hid _ := ans_no13 (s := s) (a := a) (j := j) (k := c) HBAD.out hend h10 h13
                  go_wp2_with (go_at_call 10; refine (HH.out _).mono ?_; rintro e w' ⟨rfl, rfl⟩)
                  go_ret3
                  exact ⟨ret3 HA.out, rfl⟩
                · by_cases hc1 : c + 1 < s.size
                  · have hc1i : (c : Int) + 1 < (s.size : Int) := by omega
                    have dc1 : decide ((c : Int) + 1 < (s.size : Int)) = true := by simp; omega
                    cases h11 : (bt s (c + 1) == 10)
                    · have HA : Hid _ := ans_no11 (s := s) (a := a) (j := j) (k := c) HBAD.out hend h10 h11
                      go_wp2_with (go_at_call 10; refine (HH.out _).mono ?_; rintro e w' ⟨rfl, rfl⟩)
                      go_ret3
                      exact ⟨ret3 HA.out, rfl⟩
                    · have HA : Hid _ := ans_crlf (s := s) (a := a) (j := j) (k := c) HBAD.out hend h10 h13 hc1 h11
                      go_wp2_with (go_at_call 10; refine (HH.out _).mono ?_; rintro e w' ⟨rfl, rfl⟩)
                      go_ret3
                      exact ⟨ret3 HA.out, rfl⟩
                  · have dc1 : decide ((c : Int) + 1 < (s.size : Int)) = false := by simp; omega
                    have HA : Hid _ := ans_nolen (s := s) (a := a) (j := j) (k := c) HBAD.out hend h10 hc1
                    go_wp2_with (go_at_call 10; refine (HH.out _).mono ?_; rintro e w' ⟨rfl, rfl⟩)
                    go_ret3
                    exact ⟨ret3 HA.out, rfl⟩
              · have HA : Hid _ := ans_nl (s := s) (a := a) (j := j) (k := c) HBAD.out hend h10
                go_wp2_with (go_at_call 10; refine (HH.out _).mono ?_; rintro e w' ⟨rfl, rfl⟩)
                go_ret3
                exact ⟨ret3 HA.out, rfl⟩
        have da0 : ((a : Int) != 0) = true := by simp; omega
        have ha1 : (0 : Int) ≤ (a : Int) - 1 := by omega
        have ha2 : (a : Int) - 1 < (s.size : Int) := by omega
        have hz : (!(a == 0)) = true := by simp; omega
        cases h10 : (bt s (a - 1) != 10)
        · have HBAD : Hid (badL s a j = false) := by show badL s a j = false; unfold badL; rw [if_neg haj, hz, h10]; rfl
          clear hz
          go_wp2
          clear da0 da hja haj h10 ha1 ha2
          go_loop [13] (fun i => ∃ c : Nat, e ≤ c ∧ c ≤ k ∧ i = .int .i64 c) (fun i => k - (intOf i).toNat)
          case atStart => exact ⟨e, Nat.le_refl _, k1, rfl⟩
          case round =>
            obtain ⟨c, c1, c2, rfl⟩ := hrel
            by_cases hck : c < k
            · have hbl := HK.out.all c c1 hck
              have H10 := fun W => blank10 (bt s c) W
              rw [hbl] at H10
              have HH : Hid _ := H10
              clear H10 hbl
              have hcs : (c : Int) < (s.size : Int) := by omega
              have dc : decide ((c : Int) < (s.size : Int)) = true := by simp; omega
              go_wp2_with (go_at_call 10; refine (HH.out _).mono ?_; rintro e w' ⟨rfl, rfl⟩)
              go_round
              case rel => exact ⟨c + 1, by omega, by omega, by go_num⟩
              case measure => simp [intOf]; omega
            · have hc : c = k := by omega
              subst hc
              by_cases hend : c = s.size
              · have dc : decide ((c : Int) < (s.size : Int)) = false := by simp; omega
                have deq : ((c : Int) == (s.size : Int)) = true := by rw [beq_iff_eq]; omega
                have HA : Hid _ := ans_end (s := s) (a := a) (j := j) (k := c) HBAD.out hend
                have HE : Hid _ := hend
                have hge : ¬ c < s.size := by omega
                have dn : decide (c < s.size) = false := by simp; omega
                clear hend
                go_wp2
                go_ret3
                exact ⟨ret3 HA.out, rfl⟩
              have hlt : c < s.size := by omega
              have hcs : (c : Int) < (s.size : Int) := by omega
              have dc : decide ((c : Int) < (s.size : Int)) = true := by simp; omega
              have deq : ((c : Int) == (s.size : Int)) = false := by rw [Bool.eq_false_iff]; simp; omega
              have hbl : blk (bt s c) = false := by
                rcases HK.out.stop with h | h
                · omega
                · exact h
              have H10 := fun W => blank10 (bt s c) W
              rw [hbl] at H10
              have HH : Hid _ := H10
              clear H10 hbl
              cases h10 : (bt s c == 10)
              · cases h13 : (bt s c == 13)
                · have HA : Hid _ := ans_no13 (s := s) (a := a) (j := j) (k := c) HBAD.out hend h10 h13
                  go_wp2_with (go_at_call 10; refine (HH.out _).mono ?_; rintro e w' ⟨rfl, rfl⟩)
                  go_ret3
                  exact ⟨ret3 HA.out, rfl⟩
                · by_cases hc1 : c + 1 < s.size
                  · have hc1i : (c : Int) + 1 < (s.size : Int) := by omega
                    have dc1 : decide ((c : Int) + 1 < (s.size : Int)) = true := by simp; omega
                    cases h11 : (bt s (c + 1) == 10)
                    · have HA : Hid _ := ans_no11 (s := s) (a := a) (j := j) (k := c) HBAD.out hend h10 h11
                      go_wp2_with (go_at_call 10; refine (HH.out _).mono ?_; rintro e w' ⟨rfl, rfl⟩)
                      go_ret3
                      exact ⟨ret3 HA.out, rfl⟩
                    · have HA : Hid _ := ans_crlf (s := s) (a := a) (j := j) (k := c) HBAD.out hend h10 h13 hc1 h11
                      go_wp2_with (go_at_call 10; refine (HH.out _).mono ?_; rintro e w' ⟨rfl, rfl⟩)
                      go_ret3
                      exact ⟨ret3 HA.out, rfl⟩
                  · have dc1 : decide ((c : Int) + 1 < (s.size : Int)) = false := by simp; omega
                    have HA : Hid _ := ans_nolen (s := s) (a := a) (j := j) (k := c) HBAD.out hend h10 hc1
                    go_wp2_with (go_at_call 10; refine (HH.out _).mono ?_; rintro e w' ⟨rfl, rfl⟩)
                    go_ret3
                    exact ⟨ret3 HA.out, rfl⟩
              · have HA : Hid _ := ans_nl (s := s) (a := a) (j := j) (k := c) HBAD.out hend h10
                go_wp2_with (go_at_call 10; refine (HH.out _).mono ?_; rintro e w' ⟨rfl, rfl⟩)
                go_ret3
                exact ⟨ret3 HA.out, rfl⟩
        · have HA : Hid _ := ans_bad (s := s) (a := a) (j := j) (k := k) (by unfold badL; rw [if_neg haj, hz, h10]; rfl)
          clear hz
          go_wp2
          go_ret3
          exact ⟨ret3 HA.out, rfl⟩
end Go.Proofs.Qxb6603100aDoor
