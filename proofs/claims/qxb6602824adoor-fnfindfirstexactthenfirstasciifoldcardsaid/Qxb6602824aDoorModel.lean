/-
  mFindModel, mAllASCII and the bound on the lengths, walked.
-/
import Derived.Test.Qxb6602824aDoorFold
namespace Go.Proofs.Qxb6602824aDoor
open Go.RowKit Go.PlainAid Go.Deep

/-- mFindModel's answer. -/
def Model (n : Nat) (S : Nat → ByteArray) (Z : Nat → Int) (key : ByteArray) (fold : Bool) (r : Int) (ok : Bool) : Prop :=
  (∃ i, i < n ∧ S i = key ∧ (∀ j, j < i → S j ≠ key) ∧ r = Z i ∧ ok = true) ∨
  ((∀ j, j < n → S j ≠ key) ∧ ((fold = false ∧ r = 0 ∧ ok = false) ∨
    (fold = true ∧ ((∃ i, i < n ∧ like (S i) key = true ∧ (∀ j, j < i → like (S j) key = false) ∧ r = Z i ∧ ok = true) ∨ ((∀ j, j < n → like (S j) key = false) ∧ r = 0 ∧ ok = false)))))
def IsModel (w : World) (n : Nat) (S : Nat → ByteArray) (Z : Nat → Int) (key : ByteArray) (fold : Bool) (e : Ending) (w' : World) : Prop :=
  ∃ r ok, e = .returned (.tuple #[.int .i64 r, .bool ok]) ∧ Below w.heap.size w w' ∧ Model n S Z key fold r ok

set_option maxRecDepth 100000 in
set_option maxHeartbeats 4000000 in
theorem model12 (n : Nat) (S : Nat → ByteArray) (A : Nat → Option Addr) (C : Nat → Nat) (Z : Nat → Int) (key : ByteArray) (a ai ak : Option Addr) (c ci ck : Nat) (fold : Bool) (w : World)
    (hN : Rn w a n A C S) (hI : Ri w ai n Z) (hK : Rb w ak key) (h : n ≤ 65536) (hk : key.size ≤ 1048576) (hS : ∀ i, i < n → (S i).size ≤ 1048576) :
    Calls Tryd.prog 12 #[.slice a n c, .slice ai n ci, .slice ak key.size ck, .bool fold] w fun e w' => IsModel w n S Z key fold e w' := by
  by_cases h0 : n = 0
  · have HM : Hid (Model n S Z key fold 0 false) := .inr ⟨fun j hj => by omega, by
      cases fold
      · exact .inl ⟨rfl, rfl, rfl⟩
      · exact .inr ⟨rfl, .inr ⟨fun j hj => by omega, rfl, rfl⟩⟩⟩
    have h0i : ¬ (0 : Int) < (n : Int) := by omega
    have h0n : ¬ 0 < n := by omega
    clear h0 hN hI hK hS
    go_enter Tryd.func12, Tryd.ntmps12
    go_wp2
    go_loopw [10] (fun i wr => i = .int .i64 0 ∧ wr = w) (fun _ _ => 0)
    case atStart => exact ⟨rfl, rfl⟩
    case round =>
      obtain ⟨rfl, rfl⟩ := hrel
      cases fold with
      | false =>
        go_wp2
        go_ret2
        exact ⟨_, _, rfl, Below.refl _ _, HM.out⟩
      | true =>
        go_wp2
        go_loopw [11] (fun i wz => i = .int .i64 0 ∧ wz = wr) (fun _ _ => 0)
        case atStart => exact ⟨rfl, rfl⟩
        case round =>
          obtain ⟨rfl, rfl⟩ := hrel
          go_wp2
          go_ret2
          exact ⟨_, _, rfl, Below.refl _ _, HM.out⟩
  · obtain ⟨b, o, rfl, hc⟩ := hN.1.resolve_left h0
    obtain ⟨b', o', rfl, hc'⟩ := hI.resolve_left h0
    have HR : Hid _ := hN.2
    have HK : Hid (Rb w ak key) := hK
    clear hN hI hK
    go_enter Tryd.func12, Tryd.ntmps12
    go_wp2
    go_loopw [10] (fun i wr => ∃ k : Nat, k ≤ n ∧ i = .int .i64 k ∧ Hid (Below w.heap.size w wr) ∧ Hid (∀ j, j < k → S j ≠ key)) (fun i _ => n - (intOf i).toNat)
    case atStart => exact ⟨0, Nat.zero_le _, rfl, Below.refl _ _, fun j hj => absurd hj (Nat.not_lt_zero _)⟩
    case round =>
      obtain ⟨k, hkn, rfl, HB, HP⟩ := hrel
      by_cases hlt : k < n
      · have c1 := cell_below HB.out (hc k hlt)
        have c2 := cell_below HB.out (hc' k hlt)
        have hki : (k : Int) < (n : Int) := by omega
        have HC : Hid _ := fun (_ : Unit) => same17 (S k) key (A k) ak (C k) ck wr (Rb.below (HR.out k hlt) HB.out) (Rb.below HK.out HB.out) (hS k hlt) hk
        by_cases he : S k = key
        · rw [decide_eq_true he] at HC
          have HQ : Hid (S k = key) := he
          clear he
          go_wp2_with (go_at_call 17; refine (HC.out ()).mono ?_; rintro e w2 ⟨rfl, hb2⟩; have d1 := cell_below hb2 c2)
          go_ret2
          exact ⟨_, _, rfl, HB.out.trans (hb2.mono HB.out.size), .inl ⟨k, hlt, HQ.out, HP.out, rfl, rfl⟩⟩
        · rw [decide_eq_false he] at HC
          have R2 : Hid (∀ j, j < k + 1 → S j ≠ key) := fun j hj => by
            by_cases hj2 : j < k
            · exact HP.out j hj2
            · obtain rfl : j = k := by omega
              exact he
          clear he
          go_wp2_with (go_at_call 17; refine (HC.out ()).mono ?_; rintro e w2 ⟨rfl, hb2⟩)
          have R1 : Hid _ := HB.out.trans (hb2.mono HB.out.size)
          go_roundw
          case rel => exact ⟨k + 1, by omega, by go_num, R1.out, R2.out⟩
          case measure => simp [intOf]; omega
      · obtain rfl : n = k := by omega
        cases fold with
        | false =>
          go_wp2
          go_ret2
          exact ⟨_, _, rfl, HB.out, .inr ⟨HP.out, .inl ⟨rfl, rfl, rfl⟩⟩⟩
        | true =>
          have HNO : Hid _ := HP.out
          clear HP
          go_wp2
          go_loopw [11] (fun i wz => ∃ k : Nat, k ≤ n ∧ i = .int .i64 k ∧ Hid (Below w.heap.size w wz) ∧ Hid (∀ j, j < k → like (S j) key = false)) (fun i _ => n - (intOf i).toNat)
          case atStart => exact ⟨0, Nat.zero_le _, rfl, HB.out, fun j hj => absurd hj (Nat.not_lt_zero _)⟩
          case round =>
            obtain ⟨k2, hkn2, rfl, HB2, HP2⟩ := hrel
            by_cases hlt2 : k2 < n
            · have c1 := cell_below HB2.out (hc k2 hlt2)
              have c2 := cell_below HB2.out (hc' k2 hlt2)
              have hki : (k2 : Int) < (n : Int) := by omega
              have HC : Hid _ := fun (_ : Unit) => like18 (S k2) key (A k2) ak (C k2) ck _ (Rb.below (HR.out k2 hlt2) HB2.out) (Rb.below HK.out HB2.out) (hS k2 hlt2) hk
              cases he : like (S k2) key
              · rw [he] at HC
                have R2 : Hid (∀ j, j < k2 + 1 → like (S j) key = false) := fun j hj => by
                  by_cases hj2 : j < k2
                  · exact HP2.out j hj2
                  · obtain rfl : j = k2 := by omega
                    exact he
                clear he
                go_wp2_with (go_at_call 18; refine (HC.out ()).mono ?_; rintro e w2 ⟨rfl, hb2⟩)
                have R1 : Hid _ := HB2.out.trans (hb2.mono HB2.out.size)
                go_roundw
                case rel => exact ⟨k2 + 1, by omega, by go_num, R1.out, R2.out⟩
                case measure => simp [intOf]; omega
              · rw [he] at HC
                have HQ : Hid (like (S k2) key = true) := he
                clear he
                go_wp2_with (go_at_call 18; refine (HC.out ()).mono ?_; rintro e w2 ⟨rfl, hb2⟩; have d1 := cell_below hb2 c2)
                go_ret2
                exact ⟨_, _, rfl, HB2.out.trans (hb2.mono HB2.out.size), .inr ⟨HNO.out, .inr ⟨rfl, .inl ⟨k2, hlt2, HQ.out, HP2.out, rfl, rfl⟩⟩⟩⟩
            · obtain rfl : n = k2 := by omega
              go_wp2
              go_ret2
              exact ⟨_, _, rfl, HB2.out, .inr ⟨HNO.out, .inr ⟨rfl, .inr ⟨HP2.out, rfl, rfl⟩⟩⟩⟩
end Go.Proofs.Qxb6602824aDoor
