/-
  mAllASCII and the bound on the lengths, walked.
-/
import Derived.Test.Qxb6602824aDoorFold
namespace Go.Proofs.Qxb6602824aDoor
open Go.RowKit Go.PlainAid Go.Deep

def IsAscii (w : World) (n : Nat) (S : Nat → ByteArray) (key : ByteArray) (e : Ending) (w' : World) : Prop :=
  ∃ r, e = .returned (.bool r) ∧ Below w.heap.size w w' ∧ (r = true → ascii key ∧ ∀ i, i < n → ascii (S i))

set_option maxRecDepth 100000 in
set_option maxHeartbeats 4000000 in
theorem ascii6 (n : Nat) (S : Nat → ByteArray) (A : Nat → Option Addr) (C : Nat → Nat) (key : ByteArray) (a ak : Option Addr) (c ck : Nat) (w : World)
    (hN : Rn w a n A C S) (hK : Rb w ak key) (h : n ≤ 65536) (hk : key.size ≤ 1048576) (hS : ∀ i, i < n → (S i).size ≤ 1048576) :
    Calls Tryd.prog 6 #[.slice a n c, .slice ak key.size ck] w fun e w' => IsAscii w n S key e w' := by
  have HK : Hid (Rb w ak key) := hK
  have HN : Hid (Rn w a n A C S) := hN
  clear hK hN
  go_enter Tryd.func6, Tryd.ntmps6
  go_wp2
  go_loopw [5] (fun i wr => ∃ k : Nat, k ≤ key.size ∧ i = .int .i64 k ∧ Hid (Below w.heap.size w wr) ∧ Hid (∀ j, j < k → bt key j < 128)) (fun i _ => key.size - (intOf i).toNat)
  case atStart => exact ⟨0, Nat.zero_le _, rfl, Below.refl _ _, fun j hj => absurd hj (Nat.not_lt_zero _)⟩
  case round =>
    obtain ⟨k, hkn, rfl, HB, HP⟩ := hrel
    by_cases hlt : k < key.size
    · obtain ⟨b, o, rfl, hc⟩ := (HK.out).resolve_left (by omega)
      have c1 := cell_below HB.out (hc k hlt)
      have hki : (k : Int) < (key.size : Int) := by omega
      by_cases hx : bt key k < 128
      · have hx2 : ¬ 128 ≤ bt key k := by omega
        have R2 : Hid (∀ j, j < k + 1 → bt key j < 128) := fun j hj => by
          by_cases hj2 : j < k
          · exact HP.out j hj2
          · obtain rfl : j = k := by omega
            exact hx
        go_wp2
        go_roundw
        case rel => exact ⟨k + 1, by omega, by go_num, HB.out, R2.out⟩
        case measure => simp [intOf]; omega
      · have hx2 : 128 ≤ bt key k := by omega
        go_wp2
        go_ret
        exact ⟨_, rfl, HB.out, fun h => by cases h⟩
    · have HA : Hid (ascii key) := fun j hj => HP.out j (by omega)
      clear HP
      go_wp2
      go_loopw [6] (fun i wz => ∃ k : Nat, k ≤ n ∧ i = .int .i64 k ∧ Hid (Below w.heap.size w wz) ∧ Hid (∀ j, j < k → ascii (S j))) (fun i _ => n - (intOf i).toNat)
      case atStart => exact ⟨0, Nat.zero_le _, rfl, HB.out, fun j hj => absurd hj (Nat.not_lt_zero _)⟩
      case round =>
        obtain ⟨m, hmn, rfl, HB2, HP⟩ := hrel
        by_cases hlt2 : m < n
        · obtain ⟨b, o, rfl, hc⟩ := (HN.out).1.resolve_left (by omega)
          have c1 := cell_below HB2.out (hc m hlt2)
          have hki : (m : Int) < (n : Int) := by omega
          have HR : Hid (Rb w (A m) (S m)) := (HN.out).2 m hlt2
          have hsz := hS m hlt2
          go_wp2
          go_loopw [8] (fun i wy => ∃ q : Nat, q ≤ (S m).size ∧ i = .int .i64 q ∧ Hid (Below w.heap.size w wy) ∧ Hid (∀ j, j < q → bt (S m) j < 128)) (fun i _ => (S m).size - (intOf i).toNat)
          case atStart => exact ⟨0, Nat.zero_le _, rfl, HB2.out, fun j hj => absurd hj (Nat.not_lt_zero _)⟩
          case round =>
            obtain ⟨q, hqn, rfl, HB3, HP3⟩ := hrel
            by_cases hlt3 : q < (S m).size
            · obtain ⟨b3, o3, eA, hc3⟩ := (HR.out).resolve_left (by omega)
              have c3 := cell_below HB3.out (hc3 q hlt3)
              have hki3 : (q : Int) < ((S m).size : Int) := by omega
              by_cases hx : bt (S m) q < 128
              · have hx2 : ¬ 128 ≤ bt (S m) q := by omega
                have R2 : Hid (∀ j, j < q + 1 → bt (S m) j < 128) := fun j hj => by
                  by_cases hj2 : j < q
                  · exact HP3.out j hj2
                  · obtain rfl : j = q := by omega
                    exact hx
                go_wp2
                go_roundw
                case rel => exact ⟨q + 1, by omega, by go_num, HB3.out, R2.out⟩
                case measure => simp [intOf]; omega
              · have hx2 : 128 ≤ bt (S m) q := by omega
                go_wp2
                go_ret
                exact ⟨_, rfl, HB3.out, fun h => by cases h⟩
            · have R3 : Hid (∀ j, j < m + 1 → ascii (S j)) := fun j hj => by
                by_cases hj2 : j < m
                · exact HP.out j hj2
                · obtain rfl : j = m := by omega
                  exact fun i hi => HP3.out i (by omega)
              go_wp2
              go_roundw
              case rel => exact ⟨m + 1, by omega, by go_num, HB3.out, R3.out⟩
              case measure => simp [intOf]; omega
        · go_wp2
          go_ret
          exact ⟨_, rfl, HB2.out, fun _ => ⟨HA.out, fun i hi => HP.out i (by omega)⟩⟩

def IsBytes (w : World) (n : Nat) (S : Nat → ByteArray) (e : Ending) (w' : World) : Prop :=
  ∃ r, e = .returned (.bool r) ∧ Below w.heap.size w w' ∧ (r = true → n ≤ 1048576 ∧ ∀ i, i < n → (S i).size ≤ 1048576)

set_option maxRecDepth 100000 in
set_option maxHeartbeats 4000000 in
theorem bytes5 (n ni nk : Nat) (S : Nat → ByteArray) (A : Nat → Option Addr) (C : Nat → Nat) (a ai ak : Option Addr) (c ci ck : Nat) (fold : Bool) (w : World)
    (hN : Rn w a n A C S) (h1 : n ≤ 9223372036854775807) (h2 : ni ≤ 9223372036854775807) (h3 : nk ≤ 9223372036854775807) (hS : ∀ i, i < n → (S i).size ≤ 9223372036854775807) :
    Calls Tryd.prog 5 #[.slice a n c, .slice ai ni ci, .slice ak nk ck, .bool fold] w fun e w' => IsBytes w n S e w' := by
  have HN : Hid (Rn w a n A C S) := hN
  clear hN
  by_cases hn : 1048576 < n
  · have hni : (1048576 : Int) < (n : Int) := by omega
    go_enter Tryd.func5, Tryd.ntmps5
    go_wp2
    go_ret
    exact ⟨_, rfl, Below.refl _ _, fun h => by cases h⟩
  have hni : ¬ (1048576 : Int) < (n : Int) := by omega
  go_enter Tryd.func5, Tryd.ntmps5
  go_wp2
  go_loopw [9, 10] (fun z i wr => ∃ k t : Nat, k ≤ n ∧ t ≤ 1048576 ∧ z = .int .i64 t ∧ i = .int .i64 k ∧ Hid (Below w.heap.size w wr) ∧ Hid (∀ j, j < k → (S j).size ≤ 1048576)) (fun _ i _ => n - (intOf i).toNat)
  case atStart => exact ⟨0, n, Nat.zero_le _, by omega, by go_num, rfl, Below.refl _ _, fun j hj => absurd hj (Nat.not_lt_zero _)⟩
  case round =>
    obtain ⟨k, t, hkn, ht, rfl, rfl, HB, HP⟩ := hrel
    by_cases hlt : k < n
    · obtain ⟨b, o, rfl, hc⟩ := (HN.out).1.resolve_left (by omega)
      have c1 := cell_below HB.out (hc k hlt)
      have hki : (k : Int) < (n : Int) := by omega
      have hsz := hS k hlt
      by_cases hx : (S k).size ≤ 1048576
      · have hx2 : ¬ (1048576 : Int) < ((S k).size : Int) := by omega
        have R2 : Hid (∀ j, j < k + 1 → (S j).size ≤ 1048576) := fun j hj => by
          by_cases hj2 : j < k
          · exact HP.out j hj2
          · obtain rfl : j = k := by omega
            exact hx
        by_cases hy : t + (S k).size ≤ 1048576
        · have hy2 : ¬ (1048576 : Int) < (t : Int) + ((S k).size : Int) := by omega
          go_wp2
          go_roundw
          case rel => exact ⟨k + 1, t + (S k).size, by omega, hy, by go_num, by go_num, HB.out, R2.out⟩
          case measure => simp [intOf]; omega
        · have hy2 : (1048576 : Int) < (t : Int) + ((S k).size : Int) := by omega
          go_wp2
          go_ret
          exact ⟨_, rfl, HB.out, fun h => by cases h⟩
      · have hx2 : (1048576 : Int) < ((S k).size : Int) := by omega
        go_wp2
        go_ret
        exact ⟨_, rfl, HB.out, fun h => by cases h⟩
    · have HA : Hid (n ≤ 1048576 ∧ ∀ i, i < n → (S i).size ≤ 1048576) := ⟨by omega, fun i hi => HP.out i (by omega)⟩
      go_wp2
      all_goals
        go_ret
        exact ⟨_, rfl, HB.out, fun _ => HA.out⟩
end Go.Proofs.Qxb6602824aDoor
