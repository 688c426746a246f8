/-
  FnFindFirstExactThenFirstASCIIFold: the law, walked out of the contracts.
-/
import Derived.Test.Qxb6602824aDoorFind
import Derived.Test.Qxb6602824aDoorModel
import Derived.Test.Qxb6602824aDoorGate
namespace Go.Proofs.Qxb6602824aDoor
open Go.RowKit Go.PlainAid Go.Deep Go.Maps Go.WideMaps

set_option maxRecDepth 100000 in
set_option maxHeartbeats 8000000 in
theorem law3_ne (n ni : Nat) (S : Nat → ByteArray) (A : Nat → Option Addr) (C : Nat → Nat) (Z : Nat → Int) (key : ByteArray) (a ai ak : Option Addr) (c ci ck : Nat) (fold : Bool) (w : World) (hne : ni ≠ n)
    (hN : Rn w a n A C S) (_hI : Ri w ai ni Z) (_hK : Rb w ak key) (l1 : n ≤ 9223372036854775807) (l2 : ni ≤ 9223372036854775807) (l3 : key.size ≤ 9223372036854775807) (hS : ∀ i, i < n → (S i).size ≤ 9223372036854775807)
    (_hn : a = none → n = 0 ∧ c = 0) (_hni : ai = none → ni = 0 ∧ ci = 0) (_hnk : ak = none → key.size = 0 ∧ ck = 0) (_hA : ∀ i, i < n → A i = none → (S i).size = 0 ∧ C i = 0) :
    Calls Tryd.prog 3 #[.slice a n c, .slice ai ni ci, .slice ak key.size ck, .bool fold] w fun e w' => e = .returned (.bool true) ∧ Below w.heap.size w w' := by
  have H5 : Hid _ := fun (_ : Unit) => bytes5 n ni key.size S A C a ai ak c ci ck fold w hN l1 l2 l3 hS
  have HN : Hid (Rn w a n A C S) := hN
  clear hN _hI _hK
  by_cases g1 : n ≤ 65536 ∧ ni ≤ 65536 ∧ key.size ≤ 1048576
  · obtain ⟨m1, m2, m3⟩ := g1
    have n1 : ¬ (65536 : Int) < (n : Int) := by omega
    have n2 : ¬ (65536 : Int) < (ni : Int) := by omega
    have n3 : ¬ (1048576 : Int) < (key.size : Int) := by omega
    go_enter Tryd.func3, Tryd.ntmps3
    go_wp2_with (go_at_call 5; refine (H5.out ()).mono ?_; rintro e w5 ⟨r5, rfl, hb5, hr5⟩; cases r5)
    · go_ret
      exact ⟨rfl, hb5⟩
    · obtain ⟨_, hSz⟩ := hr5 (by trivial)
      go_loopw [9, 10] (fun z i wr => ∃ k t : Nat, k ≤ n ∧ t ≤ 3145728 ∧ z = .int .i64 t ∧ i = .int .i64 k ∧ Hid (Below w.heap.size w wr)) (fun _ i _ => n - (intOf i).toNat)
      case atStart => exact ⟨0, key.size + 8 * ni + 24 * n, Nat.zero_le _, by omega, by go_num, rfl, hb5⟩
      case round =>
        obtain ⟨k, t, hkn, ht, rfl, rfl, HB⟩ := hrel
        by_cases hlt : k < n
        · obtain ⟨b, o, rfl, hc⟩ := (HN.out).1.resolve_left (by omega)
          have c1 := cell_below HB.out (hc k hlt)
          have hki : (k : Int) < (n : Int) := by omega
          have hsz := hSz k hlt
          by_cases hy : t + (S k).size ≤ 1048576
          · have hy2 : ¬ (1048576 : Int) < (t : Int) + ((S k).size : Int) := by omega
            go_wp2
            go_roundw
            case rel => exact ⟨k + 1, t + (S k).size, by omega, by omega, by go_num, by go_num, HB.out⟩
            case measure => simp [intOf]; omega
          · have hy2 : (1048576 : Int) < (t : Int) + ((S k).size : Int) := by omega
            go_wp2
            go_ret
            exact ⟨rfl, HB.out⟩
        · by_cases hy : t ≤ 1048576
          · have hy2 : ¬ (1048576 : Int) < (t : Int) := by omega
            have hne2 : ((ni : Int) == (n : Int)) = false := by simp; omega
            go_wp2
            go_ret
            exact ⟨rfl, HB.out⟩
          · have hy2 : (1048576 : Int) < (t : Int) := by omega
            go_wp2
            go_ret
            exact ⟨rfl, HB.out⟩
  · by_cases g2 : 65536 < n
    · have n1 : (65536 : Int) < (n : Int) := by omega
      clear g1
      go_enter Tryd.func3, Tryd.ntmps3
      go_wp2_with (go_at_call 5; refine (H5.out ()).mono ?_; rintro e w5 ⟨r5, rfl, hb5, hr5⟩; cases r5)
      all_goals
        go_ret
        exact ⟨rfl, hb5⟩
    · have n1 : ¬ (65536 : Int) < (n : Int) := by omega
      have d1 : decide ((65536 : Int) < (n : Int)) = false := by simp; omega
      by_cases g3 : 65536 < ni
      · have n2 : (65536 : Int) < (ni : Int) := by omega
        clear g1
        go_enter Tryd.func3, Tryd.ntmps3
        go_wp2_with (go_at_call 5; refine (H5.out ()).mono ?_; rintro e w5 ⟨r5, rfl, hb5, hr5⟩; cases r5)
        all_goals
          go_ret
          exact ⟨rfl, hb5⟩
      · have n2 : ¬ (65536 : Int) < (ni : Int) := by omega
        have n3 : (1048576 : Int) < (key.size : Int) := by omega
        have d2 : decide ((65536 : Int) < (ni : Int)) = false := by simp; omega
        clear g1
        go_enter Tryd.func3, Tryd.ntmps3
        go_wp2_with (go_at_call 5; refine (H5.out ()).mono ?_; rintro e w5 ⟨r5, rfl, hb5, hr5⟩; cases r5)
        all_goals
          go_ret
          exact ⟨rfl, hb5⟩

theorem agree {n : Nat} {S : Nat → ByteArray} {Z : Nat → Int} {key : ByteArray} {fold : Bool} {r r' : Int} {ok ok' : Bool} (h : Found n S Z key fold (fun i b => b = like (S i) key) r ok) (h' : Model n S Z key fold r' ok') : r = r' ∧ ok = ok' := by
  unfold Found at h
  simp only at h
  rcases h with ⟨i, h1, h2, h3, rfl, rfl⟩ | ⟨h1, h2⟩
  · rcases h' with ⟨i', g1, g2, g3, rfl, rfl⟩ | ⟨g1, _⟩
    · have : i = i' := by
        rcases Nat.lt_trichotomy i i' with hh | hh | hh
        · exact absurd h2 (g3 i hh)
        · exact hh
        · exact absurd g2 (h3 i' hh)
      rw [this]; exact ⟨rfl, rfl⟩
    · exact absurd h2 (g1 i h1)
  · rcases h' with ⟨i', g1, g2, _⟩ | ⟨_, g2⟩
    · exact absurd g2 (h1 i' g1)
    · rcases h2 with ⟨f1, rfl, rfl⟩ | ⟨f1, h2⟩
      · rcases g2 with ⟨_, rfl, rfl⟩ | ⟨f2, _⟩
        · exact ⟨rfl, rfl⟩
        · rw [f1] at f2; cases f2
      · rcases g2 with ⟨f2, _⟩ | ⟨_, g2⟩
        · rw [f1] at f2; cases f2
        · rcases h2 with ⟨i, p1, p2, p3, rfl, rfl⟩ | ⟨p1, rfl, rfl⟩
          · rcases g2 with ⟨i', q1, q2, q3, rfl, rfl⟩ | ⟨q1, _⟩
            · have : i = i' := by
                rcases Nat.lt_trichotomy i i' with hh | hh | hh
                · rw [q3 i hh] at p2; cases p2
                · exact hh
                · have : false = like (S i') key := p3 i' hh
                  rw [q2] at this; cases this
              rw [this]; exact ⟨rfl, rfl⟩
            · rw [q1 i p1] at p2; cases p2
          · rcases g2 with ⟨i', q1, q2, _⟩ | ⟨_, rfl, rfl⟩
            · have : false = like (S i') key := p1 i' q1
              rw [q2] at this; cases this
            · exact ⟨rfl, rfl⟩

set_option maxRecDepth 100000 in
set_option maxHeartbeats 8000000 in
theorem law3_eq (n : Nat) (S : Nat → ByteArray) (A : Nat → Option Addr) (C : Nat → Nat) (Z : Nat → Int) (key : ByteArray) (a ai ak : Option Addr) (c ci ck : Nat) (fold : Bool) (w : World)
    (hN : Rn w a n A C S) (hI : Ri w ai n Z) (hK : Rb w ak key) (l1 : n ≤ 9223372036854775807) (l2 : n ≤ 9223372036854775807) (l3 : key.size ≤ 9223372036854775807) (hS : ∀ i, i < n → (S i).size ≤ 9223372036854775807)
    (hn : a = none → n = 0 ∧ c = 0) (hni : ai = none → n = 0 ∧ ci = 0) (hnk : ak = none → key.size = 0 ∧ ck = 0) (hA : ∀ i, i < n → A i = none → (S i).size = 0 ∧ C i = 0) :
    Calls Tryd.prog 3 #[.slice a n c, .slice ai n ci, .slice ak key.size ck, .bool fold] w fun e w' => e = .returned (.bool true) ∧ Below w.heap.size w w' := by
  have H5 : Hid _ := fun (_ : Unit) => bytes5 n n key.size S A C a ai ak c ci ck fold w hN l1 l2 l3 hS
  have HN : Hid (Rn w a n A C S) := hN
  have HI : Hid (Ri w ai n Z) := hI
  have HK : Hid (Rb w ak key) := hK
  clear hN hI hK
  by_cases g1 : n ≤ 65536 ∧ n ≤ 65536 ∧ key.size ≤ 1048576
  · obtain ⟨m1, m2, m3⟩ := g1
    have n1 : ¬ (65536 : Int) < (n : Int) := by omega
    have n2 : ¬ (65536 : Int) < (n : Int) := by omega
    have n3 : ¬ (1048576 : Int) < (key.size : Int) := by omega
    go_enter Tryd.func3, Tryd.ntmps3
    go_wp2_with (go_at_call 5; refine (H5.out ()).mono ?_; rintro e w5 ⟨r5, rfl, hb5, hr5⟩; cases r5)
    · go_ret
      exact ⟨rfl, hb5⟩
    · obtain ⟨_, hSz⟩ := hr5 (by trivial)
      go_loopw [9, 10] (fun z i wr => ∃ k t : Nat, k ≤ n ∧ t ≤ 3145728 ∧ z = .int .i64 t ∧ i = .int .i64 k ∧ Hid (Below w.heap.size w wr)) (fun _ i _ => n - (intOf i).toNat)
      case atStart => exact ⟨0, key.size + 8 * n + 24 * n, Nat.zero_le _, by omega, by go_num, rfl, hb5⟩
      case round =>
        obtain ⟨k, t, hkn, ht, rfl, rfl, HB⟩ := hrel
        by_cases hlt : k < n
        · obtain ⟨b, o, rfl, hc⟩ := (HN.out).1.resolve_left (by omega)
          have c1 := cell_below HB.out (hc k hlt)
          have hki : (k : Int) < (n : Int) := by omega
          have hsz := hSz k hlt
          by_cases hy : t + (S k).size ≤ 1048576
          · have hy2 : ¬ (1048576 : Int) < (t : Int) + ((S k).size : Int) := by omega
            go_wp2
            go_roundw
            case rel => exact ⟨k + 1, t + (S k).size, by omega, by omega, by go_num, by go_num, HB.out⟩
            case measure => simp [intOf]; omega
          · have hy2 : (1048576 : Int) < (t : Int) + ((S k).size : Int) := by omega
            go_wp2
            go_ret
            exact ⟨rfl, HB.out⟩
        · by_cases hy : t ≤ 1048576
          · have hy2 : ¬ (1048576 : Int) < (t : Int) := by omega
            cases fold with
            | false =>
              go_wp2_with (first
              | (go_at_call 7; refine (CloneN n S A C a c _ (Rn.below HN.out HB.out) m1 hSz hn hA).mono ?_; rintro e w7 ⟨a7, c7, A7, C7, rfl, hb7, hr7⟩; have x7 := (HB.out).trans (hb7.mono (HB.out).size))
              | (go_at_call 8; refine (CloneI n Z ai ci _ (Ri.below HI.out x7) (by omega) hni).mono ?_; rintro e w8 ⟨a8, c8, rfl, hb8, hr8, _⟩; have x8 := x7.trans (hb8.mono x7.size))
              | (go_at_call 9; refine (CloneB key ak ck _ (Rb.below HK.out x8) m3 hnk).mono ?_; rintro e w9 ⟨a9, c9, rfl, hb9, hr9, _⟩; have x9 := x8.trans (hb9.mono x8.size); have r7 := (hr7.below hb8).below hb9; have r8 := hr8.below hb9)
              | (go_at_call 10; refine (exact10 n S A7 C7 a7 c7 _ r7 m1 hSz).mono ?_; rintro e w10 ⟨rfl, hb10, D, hown, hG⟩; have x10 := x9.trans (hb10.mono x9.size))
              | (go_at_call 11; refine (find11 n S A7 C7 Z key a7 a8 a9 c7 c8 c9 _ false D (fun i b => b = like (S i) key) _ (r7.below hb10) (r8.below hb10) (hr9.below hb10) m1 m3 hown hG (fun h => by cases h)).mono ?_; rintro e w11 ⟨r11, ok11, rfl, hb11, hf⟩; have x11 := x10.trans (hb11.mono x10.size))
              | (go_at_call 12; refine (model12 n S A7 C7 Z key a7 a8 a9 c7 c8 c9 false _ ((r7.below hb10).below hb11) ((r8.below hb10).below hb11) ((hr9.below hb10).below hb11) m1 m3 hSz).mono ?_; rintro e w12 ⟨r12, ok12, rfl, hb12, hm⟩; have x12 := x11.trans (hb12.mono x11.size); obtain ⟨e1, e2⟩ := agree hf hm; subst e1; subst e2))
              go_ret
              exact ⟨by simp, x12⟩
            | true =>
              have H6 : Hid _ := fun (_ : Unit) => ascii6 n S A C key a ak c ck _ (Rn.below HN.out HB.out) (Rb.below HK.out HB.out) m1 m3 hSz
              go_wp2_with (go_at_call 6; refine (H6.out ()).mono ?_; rintro e w6 ⟨r6, rfl, hb6, hr6⟩; cases r6)
              · go_ret
                exact ⟨rfl, HB.out.trans (hb6.mono HB.out.size)⟩
              · have x6 := HB.out.trans (hb6.mono HB.out.size)
                obtain ⟨has1, has2⟩ := hr6 (by trivial)
                have HS1 : Hid (ascii key) := has1
                have HS2 : Hid (∀ i, i < n → ascii (S i)) := has2
                clear has1 has2 hr6
                go_wp2_with (first
              | (go_at_call 7; refine (CloneN n S A C a c _ (Rn.below HN.out x6) m1 hSz hn hA).mono ?_; rintro e w7 ⟨a7, c7, A7, C7, rfl, hb7, hr7⟩; have x7 := (x6).trans (hb7.mono (x6).size))
              | (go_at_call 8; refine (CloneI n Z ai ci _ (Ri.below HI.out x7) (by omega) hni).mono ?_; rintro e w8 ⟨a8, c8, rfl, hb8, hr8, _⟩; have x8 := x7.trans (hb8.mono x7.size))
              | (go_at_call 9; refine (CloneB key ak ck _ (Rb.below HK.out x8) m3 hnk).mono ?_; rintro e w9 ⟨a9, c9, rfl, hb9, hr9, _⟩; have x9 := x8.trans (hb9.mono x8.size); have r7 := (hr7.below hb8).below hb9; have r8 := hr8.below hb9)
              | (go_at_call 10; refine (exact10 n S A7 C7 a7 c7 _ r7 m1 hSz).mono ?_; rintro e w10 ⟨rfl, hb10, D, hown, hG⟩; have x10 := x9.trans (hb10.mono x9.size))
              | (go_at_call 11; refine (find11 n S A7 C7 Z key a7 a8 a9 c7 c8 c9 _ true D (fun i b => b = like (S i) key) _ (r7.below hb10) (r8.below hb10) (hr9.below hb10) m1 m3 hown hG (fun _ W i hW hi => (fold_ascii (S i) key (A7 i) a9 (C7 i) c9 W (Rb.below ((r7.below hb10).2 i hi) hW) (Rb.below (hr9.below hb10) hW) (hSz i hi) m3 (HS2.out i hi) HS1.out).mono fun e w2 hh => ⟨_, hh.1, rfl, hh.2⟩)).mono ?_; rintro e w11 ⟨r11, ok11, rfl, hb11, hf⟩; have x11 := x10.trans (hb11.mono x10.size))
              | (go_at_call 12; refine (model12 n S A7 C7 Z key a7 a8 a9 c7 c8 c9 true _ ((r7.below hb10).below hb11) ((r8.below hb10).below hb11) ((hr9.below hb10).below hb11) m1 m3 hSz).mono ?_; rintro e w12 ⟨r12, ok12, rfl, hb12, hm⟩; have x12 := x11.trans (hb12.mono x11.size); obtain ⟨e1, e2⟩ := agree hf hm; subst e1; subst e2))
                go_ret
                exact ⟨by simp, x12⟩
          · have hy2 : (1048576 : Int) < (t : Int) := by omega
            go_wp2
            go_ret
            exact ⟨rfl, HB.out⟩
  · by_cases g2 : 65536 < n
    · have n1 : (65536 : Int) < (n : Int) := by omega
      clear g1
      go_enter Tryd.func3, Tryd.ntmps3
      go_wp2_with (go_at_call 5; refine (H5.out ()).mono ?_; rintro e w5 ⟨r5, rfl, hb5, hr5⟩; cases r5)
      all_goals
        go_ret
        exact ⟨rfl, hb5⟩
    · have n1 : ¬ (65536 : Int) < (n : Int) := by omega
      have d1 : decide ((65536 : Int) < (n : Int)) = false := by simp; omega
      by_cases g3 : 65536 < n
      · have n2 : (65536 : Int) < (n : Int) := by omega
        clear g1
        go_enter Tryd.func3, Tryd.ntmps3
        go_wp2_with (go_at_call 5; refine (H5.out ()).mono ?_; rintro e w5 ⟨r5, rfl, hb5, hr5⟩; cases r5)
        all_goals
          go_ret
          exact ⟨rfl, hb5⟩
      · have n2 : ¬ (65536 : Int) < (n : Int) := by omega
        have n3 : (1048576 : Int) < (key.size : Int) := by omega
        have d2 : decide ((65536 : Int) < (n : Int)) = false := by simp; omega
        clear g1
        go_enter Tryd.func3, Tryd.ntmps3
        go_wp2_with (go_at_call 5; refine (H5.out ()).mono ?_; rintro e w5 ⟨r5, rfl, hb5, hr5⟩; cases r5)
        all_goals
          go_ret
          exact ⟨rfl, hb5⟩
end Go.Proofs.Qxb6602824aDoor
