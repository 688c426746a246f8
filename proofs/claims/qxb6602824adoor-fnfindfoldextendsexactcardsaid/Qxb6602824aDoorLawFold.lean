/-
  FnFindFoldExtendsExact: the law, walked out of the contracts.
-/
import Derived.Test.Qxb6602824aDoorFind
import Derived.Test.Qxb6602824aDoorHold
import Derived.Test.Qxb6602824aDoorEqual
namespace Go.Proofs.Qxb6602824aDoor
open Go.RowKit Go.PlainAid Go.Deep Go.Maps Go.WideMaps

theorem owns_below {w w' : World} {B n : Nat} {D : DataW Unit} (h : w.ownsMap Tryd.prog 9 (plainElem Tryd.prog 3) B n D) (hb : Below w.heap.size w w') : w'.ownsMap Tryd.prog 9 (plainElem Tryd.prog 3) B n D :=
  h.kept (row := none) ⟨hb.os, hb.tape, hb.output, hb.size, fun k hk _ => hb.block k hk⟩ (by simp)

/-- The exact answer, the answer under folding and mHasName's, side by side. -/
theorem agree4 {n : Nat} {S : Nat → ByteArray} {Z : Nat → Int} {key : ByteArray} {P Q : Nat → Bool → Prop} {r r' : Int} {ok ok' h : Bool} (h1 : Found n S Z key false P r ok) (h2 : Found n S Z key true Q r' ok')
    (h3 : (h = true ∧ ∃ i, i < n ∧ S i = key) ∨ (h = false ∧ ∀ i, i < n → S i ≠ key)) :
    (ok = true ∧ ok' = true ∧ h = true ∧ r' = r ∧ ∃ i, i < n ∧ r = Z i) ∨ (ok = false ∧ r = 0 ∧ h = false ∧ ((ok' = true ∧ ∃ i, i < n ∧ r' = Z i) ∨ (ok' = false ∧ r' = 0))) := by
  rcases h1 with ⟨i, a1, a2, a3, a4, a5⟩ | ⟨a1, a2⟩
  · rcases h2 with ⟨i', b1, b2, b3, b4, b5⟩ | ⟨b1, _⟩
    · have e : i = i' := by
        rcases Nat.lt_trichotomy i i' with hh | hh | hh
        · exact absurd a2 (b3 i hh)
        · exact hh
        · exact absurd b2 (a3 i' hh)
      rcases h3 with ⟨c1, _⟩ | ⟨_, c2⟩
      · exact .inl ⟨a5, b5, c1, by rw [b4, a4, e], i, a1, a4⟩
      · exact absurd a2 (c2 i a1)
    · exact absurd a2 (b1 i a1)
  · rcases h3 with ⟨_, i, c1, c2⟩ | ⟨c1, _⟩
    · exact absurd c2 (a1 i c1)
    · rcases a2 with ⟨_, a3, a4⟩ | ⟨a3, _⟩
      · refine .inr ⟨a4, a3, c1, ?_⟩
        rcases h2 with ⟨i', b1, b2, b3, b4, b5⟩ | ⟨_, ⟨b2, _⟩ | ⟨_, ⟨i, b2, _, _, b3, b4⟩ | ⟨_, b2, b3⟩⟩⟩
        · exact .inl ⟨b5, i', b1, b4⟩
        · cases b2
        · exact .inl ⟨b4, i, b2, b3⟩
        · exact .inr ⟨b3, b2⟩
      · cases a3

set_option maxRecDepth 100000 in
set_option maxHeartbeats 8000000 in
theorem law4_ne (n ni : Nat) (S : Nat → ByteArray) (A : Nat → Option Addr) (C : Nat → Nat) (key : ByteArray) (a ai ak : Option Addr) (c ci ck : Nat) (w : World) (hne : ni ≠ n)
    (hN : Rn w a n A C S) (l1 : n ≤ 9223372036854775807) (l2 : ni ≤ 9223372036854775807) (l3 : key.size ≤ 9223372036854775807) (hS : ∀ i, i < n → (S i).size ≤ 9223372036854775807) :
    Calls Tryd.prog 4 #[.slice a n c, .slice ai ni ci, .slice ak key.size ck] w fun e w' => e = .returned (.bool true) ∧ Below w.heap.size w w' := by
  have H5 : Hid _ := fun (_ : Unit) => bytes13 n ni key.size S A C a ai ak c ci ck w hN l1 l2 l3 hS
  have HN : Hid (Rn w a n A C S) := hN
  clear hN
  by_cases g1 : n ≤ 65536 ∧ ni ≤ 65536 ∧ key.size ≤ 1048576
  · obtain ⟨m1, m2, m3⟩ := g1
    have n1 : ¬ (65536 : Int) < (n : Int) := by omega
    have n2 : ¬ (65536 : Int) < (ni : Int) := by omega
    have n3 : ¬ (1048576 : Int) < (key.size : Int) := by omega
    go_enter Tryd.func4, Tryd.ntmps4
    go_wp2_with (go_at_call 13; refine (H5.out ()).mono ?_; rintro e w5 ⟨r5, rfl, hb5, hr5⟩; cases r5)
    · go_ret
      exact ⟨rfl, hb5⟩
    · obtain ⟨_, hSz⟩ := hr5 (by trivial)
      go_loopw [7, 8] (fun z i wr => ∃ k t : Nat, k ≤ n ∧ t ≤ 3145728 ∧ z = .int .i64 t ∧ i = .int .i64 k ∧ Hid (Below w.heap.size w wr)) (fun _ i _ => n - (intOf i).toNat)
      case atStart => exact ⟨0, key.size + 8 * ni + 24 * n, Nat.zero_le _, by omega, by go_num, rfl, hb5⟩
      case round =>
        obtain ⟨k, t, hkn, ht, rfl, rfl, HB⟩ := hrel
        by_cases hlt : k < n
        · obtain ⟨b, o, rfl, hc⟩ := (HN.out).1.resolve_left (by omega)
          have c1 := cell_below HB.out (hc k hlt)
          have hki : (k : Int) < (n : Int) := by omega
          have hsz := hSz k hlt
          by_cases hy : t + (S k).size ≤ 1048576
          · have hy2 : ¬ (1048576 : Int) < (t : Int) + ((S k).size : Int) := by omega
            go_wp2
            go_roundw
            case rel => exact ⟨k + 1, t + (S k).size, by omega, by omega, by go_num, by go_num, HB.out⟩
            case measure => simp [intOf]; omega
          · have hy2 : (1048576 : Int) < (t : Int) + ((S k).size : Int) := by omega
            go_wp2
            go_ret
            exact ⟨rfl, HB.out⟩
        · by_cases hy : t ≤ 1048576
          · have hy2 : ¬ (1048576 : Int) < (t : Int) := by omega
            have hne2 : ((ni : Int) == (n : Int)) = false := by simp; omega
            go_wp2
            go_ret
            exact ⟨rfl, HB.out⟩
          · have hy2 : (1048576 : Int) < (t : Int) := by omega
            go_wp2
            go_ret
            exact ⟨rfl, HB.out⟩
  · by_cases g2 : 65536 < n
    · have n1 : (65536 : Int) < (n : Int) := by omega
      clear g1
      go_enter Tryd.func4, Tryd.ntmps4
      go_wp2_with (go_at_call 13; refine (H5.out ()).mono ?_; rintro e w5 ⟨r5, rfl, hb5, hr5⟩; cases r5)
      all_goals
        go_ret
        exact ⟨rfl, hb5⟩
    · have n1 : ¬ (65536 : Int) < (n : Int) := by omega
      have d1 : decide ((65536 : Int) < (n : Int)) = false := by simp; omega
      by_cases g3 : 65536 < ni
      · have n2 : (65536 : Int) < (ni : Int) := by omega
        clear g1
        go_enter Tryd.func4, Tryd.ntmps4
        go_wp2_with (go_at_call 13; refine (H5.out ()).mono ?_; rintro e w5 ⟨r5, rfl, hb5, hr5⟩; cases r5)
        all_goals
          go_ret
          exact ⟨rfl, hb5⟩
      · have n2 : ¬ (65536 : Int) < (ni : Int) := by omega
        have n3 : (1048576 : Int) < (key.size : Int) := by omega
        have d2 : decide ((65536 : Int) < (ni : Int)) = false := by simp; omega
        clear g1
        go_enter Tryd.func4, Tryd.ntmps4
        go_wp2_with (go_at_call 13; refine (H5.out ()).mono ?_; rintro e w5 ⟨r5, rfl, hb5, hr5⟩; cases r5)
        all_goals
          go_ret
          exact ⟨rfl, hb5⟩

set_option maxRecDepth 100000 in
set_option maxHeartbeats 8000000 in
theorem law4_eq (n : Nat) (S : Nat → ByteArray) (A : Nat → Option Addr) (C : Nat → Nat) (Z : Nat → Int) (key : ByteArray) (a ai ak : Option Addr) (c ci ck : Nat) (w : World) (hT : Tabs w)
    (hN : Rn w a n A C S) (hI : Ri w ai n Z) (hK : Rb w ak key) (l1 : n ≤ 9223372036854775807) (l2 : n ≤ 9223372036854775807) (l3 : key.size ≤ 9223372036854775807) (hS : ∀ i, i < n → (S i).size ≤ 9223372036854775807)
    (hn : a = none → n = 0 ∧ c = 0) (hni : ai = none → n = 0 ∧ ci = 0) (hnk : ak = none → key.size = 0 ∧ ck = 0) (hA : ∀ i, i < n → A i = none → (S i).size = 0 ∧ C i = 0) :
    Calls Tryd.prog 4 #[.slice a n c, .slice ai n ci, .slice ak key.size ck] w fun e w' => e = .returned (.bool true) ∧ Below w.heap.size w w' := by
  have HT : Hid (Tabs w) := hT
  clear hT
  have H5 : Hid _ := fun (_ : Unit) => bytes13 n n key.size S A C a ai ak c ci ck w hN l1 l2 l3 hS
  have HN : Hid (Rn w a n A C S) := hN
  have HI : Hid (Ri w ai n Z) := hI
  have HK : Hid (Rb w ak key) := hK
  clear hN hI hK
  by_cases g1 : n ≤ 65536 ∧ n ≤ 65536 ∧ key.size ≤ 1048576
  · obtain ⟨m1, m2, m3⟩ := g1
    have n1 : ¬ (65536 : Int) < (n : Int) := by omega
    have n2 : ¬ (65536 : Int) < (n : Int) := by omega
    have n3 : ¬ (1048576 : Int) < (key.size : Int) := by omega
    go_enter Tryd.func4, Tryd.ntmps4
    go_wp2_with (go_at_call 13; refine (H5.out ()).mono ?_; rintro e w5 ⟨r5, rfl, hb5, hr5⟩; cases r5)
    · go_ret
      exact ⟨rfl, hb5⟩
    · obtain ⟨_, hSz⟩ := hr5 (by trivial)
      go_loopw [7, 8] (fun z i wr => ∃ k t : Nat, k ≤ n ∧ t ≤ 3145728 ∧ z = .int .i64 t ∧ i = .int .i64 k ∧ Hid (Below w.heap.size w wr)) (fun _ i _ => n - (intOf i).toNat)
      case atStart => exact ⟨0, key.size + 8 * n + 24 * n, Nat.zero_le _, by omega, by go_num, rfl, hb5⟩
      case round =>
        obtain ⟨k, t, hkn, ht, rfl, rfl, HB⟩ := hrel
        by_cases hlt : k < n
        · obtain ⟨b, o, rfl, hc⟩ := (HN.out).1.resolve_left (by omega)
          have c1 := cell_below HB.out (hc k hlt)
          have hki : (k : Int) < (n : Int) := by omega
          have hsz := hSz k hlt
          by_cases hy : t + (S k).size ≤ 1048576
          · have hy2 : ¬ (1048576 : Int) < (t : Int) + ((S k).size : Int) := by omega
            go_wp2
            go_roundw
            case rel => exact ⟨k + 1, t + (S k).size, by omega, by omega, by go_num, by go_num, HB.out⟩
            case measure => simp [intOf]; omega
          · have hy2 : (1048576 : Int) < (t : Int) + ((S k).size : Int) := by omega
            go_wp2
            go_ret
            exact ⟨rfl, HB.out⟩
        · by_cases hy : t ≤ 1048576
          · have hy2 : ¬ (1048576 : Int) < (t : Int) := by omega
            go_wp2_with (first
              | (go_at_call 7; refine (CloneN n S A C a c _ (Rn.below HN.out HB.out) m1 hSz hn hA).mono ?_; rintro e w7 ⟨a7, c7, A7, C7, rfl, hb7, hr7, hcap7⟩; have x7 := (HB.out).trans (hb7.mono (HB.out).size))
              | (go_at_call 8; refine (CloneI n Z ai ci _ (Ri.below HI.out x7) (by omega) hni).mono ?_; rintro e w8 ⟨a8, c8, rfl, hb8, hr8, _⟩; have x8 := x7.trans (hb8.mono x7.size))
              | (go_at_call 9; refine (CloneB key ak ck _ (Rb.below HK.out x8) m3 hnk).mono ?_; rintro e w9 ⟨a9, c9, rfl, hb9, hr9, _, hcap9⟩; have x9 := x8.trans (hb9.mono x8.size); have r7 := (hr7.below hb8).below hb9; have r8 := hr8.below hb9)
              | (go_at_call 10; refine (exact10 n S A7 C7 a7 c7 _ r7 m1 hSz).mono ?_; rintro e w10 ⟨rfl, hb10, D, hown, hG⟩; have x10 := x9.trans (hb10.mono x9.size))
              | (go_at_call 11; refine (find11 n S A7 C7 Z key a7 a8 a9 c7 c8 c9 _ true D (fun _ _ => True) _ ((r7.below hb10).below hb11) ((r8.below hb10).below hb11) ((hr9.below hb10).below hb11) m1 m3 (owns_below hown hb11) hG (fun _ W i hW hi => (equal_any (S i) key (A7 i) a9 (C7 i) c9 W (Tabs.below HT.out (x11.trans (hW.mono x11.size))) (Rb.below (((r7.below hb10).below hb11).2 i hi) hW) (Rb.below ((hr9.below hb10).below hb11) hW) (hSz i hi) m3 (hcap7 i hi) hcap9).mono fun e w2 hh => by obtain ⟨bb, q1, q2⟩ := hh; exact ⟨bb, q1, True.intro, q2⟩)).mono ?_; rintro e w12 ⟨r12, ok12, rfl, hb12, hf2⟩; have x12 := x11.trans (hb12.mono x11.size))
              | (go_at_call 11; refine (find11 n S A7 C7 Z key a7 a8 a9 c7 c8 c9 _ false D (fun _ _ => True) _ (r7.below hb10) (r8.below hb10) (hr9.below hb10) m1 m3 hown hG (fun h => by cases h)).mono ?_; rintro e w11 ⟨r11, ok11, rfl, hb11, hf⟩; have x11 := x10.trans (hb11.mono x10.size))
              | (go_at_call 14; refine (has14 n S A7 C7 key a7 a9 c7 c9 _ (((r7.below hb10).below hb11).below hb12) (((hr9.below hb10).below hb11).below hb12) m1 m3 hSz).mono ?_; rintro e w14 ⟨r14, rfl, hb14, hh⟩; have x14 := x12.trans (hb14.mono x12.size); rcases agree4 hf hf2 hh with ⟨rfl, rfl, rfl, rfl, hv⟩ | ⟨rfl, rfl, rfl, ⟨rfl, hv⟩ | ⟨rfl, rfl⟩⟩)
              | (go_at_call 15; refine (holds15 n Z _ a8 c8 _ ((((r8.below hb10).below hb11).below hb12).below hb14) m1 hv).mono ?_; rintro e w15 ⟨rfl, hb15⟩; have x15 := x14.trans (hb15.mono x14.size)))
            all_goals
              go_ret
              first | exact ⟨rfl, x15⟩ | exact ⟨rfl, x14⟩ | exact ⟨by simp, x15⟩ | exact ⟨by simp, x14⟩
          · have hy2 : (1048576 : Int) < (t : Int) := by omega
            go_wp2
            go_ret
            exact ⟨rfl, HB.out⟩
  · by_cases g2 : 65536 < n
    · have n1 : (65536 : Int) < (n : Int) := by omega
      clear g1
      go_enter Tryd.func4, Tryd.ntmps4
      go_wp2_with (go_at_call 13; refine (H5.out ()).mono ?_; rintro e w5 ⟨r5, rfl, hb5, hr5⟩; cases r5)
      all_goals
        go_ret
        exact ⟨rfl, hb5⟩
    · have n1 : ¬ (65536 : Int) < (n : Int) := by omega
      have d1 : decide ((65536 : Int) < (n : Int)) = false := by simp; omega
      by_cases g3 : 65536 < n
      · have n2 : (65536 : Int) < (n : Int) := by omega
        clear g1
        go_enter Tryd.func4, Tryd.ntmps4
        go_wp2_with (go_at_call 13; refine (H5.out ()).mono ?_; rintro e w5 ⟨r5, rfl, hb5, hr5⟩; cases r5)
        all_goals
          go_ret
          exact ⟨rfl, hb5⟩
      · have n2 : ¬ (65536 : Int) < (n : Int) := by omega
        have n3 : (1048576 : Int) < (key.size : Int) := by omega
        have d2 : decide ((65536 : Int) < (n : Int)) = false := by simp; omega
        clear g1
        go_enter Tryd.func4, Tryd.ntmps4
        go_wp2_with (go_at_call 13; refine (H5.out ()).mono ?_; rintro e w5 ⟨r5, rfl, hb5, hr5⟩; cases r5)
        all_goals
          go_ret
          exact ⟨rfl, hb5⟩
end Go.Proofs.Qxb6602824aDoor
