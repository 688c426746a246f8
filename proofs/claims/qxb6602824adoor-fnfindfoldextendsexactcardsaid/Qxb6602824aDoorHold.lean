/-
  mHasName, mHolds and the bound on the lengths, walked.
-/
import Derived.Test.Qxb6602824aDoorFold
namespace Go.Proofs.Qxb6602824aDoor
open Go.RowKit Go.PlainAid Go.Deep

/-- mHasName's answer. -/
def IsHas (w : World) (n : Nat) (S : Nat → ByteArray) (key : ByteArray) (e : Ending) (w' : World) : Prop :=
  ∃ r, e = .returned (.bool r) ∧ Below w.heap.size w w' ∧ ((r = true ∧ ∃ i, i < n ∧ S i = key) ∨ (r = false ∧ ∀ i, i < n → S i ≠ key))

set_option maxRecDepth 100000 in
set_option maxHeartbeats 4000000 in
theorem has14 (n : Nat) (S : Nat → ByteArray) (A : Nat → Option Addr) (C : Nat → Nat) (key : ByteArray) (a ak : Option Addr) (c ck : Nat) (w : World)
    (hN : Rn w a n A C S) (hK : Rb w ak key) (h : n ≤ 65536) (hk : key.size ≤ 1048576) (hS : ∀ i, i < n → (S i).size ≤ 1048576) :
    Calls Tryd.prog 14 #[.slice a n c, .slice ak key.size ck] w fun e w' => IsHas w n S key e w' := by
  have HN : Hid (Rn w a n A C S) := hN
  have HK : Hid (Rb w ak key) := hK
  clear hN hK
  go_enter Tryd.func14, Tryd.ntmps14
  go_wp2
  go_loopw [5] (fun i wr => ∃ k : Nat, k ≤ n ∧ i = .int .i64 k ∧ Hid (Below w.heap.size w wr) ∧ Hid (∀ j, j < k → S j ≠ key)) (fun i _ => n - (intOf i).toNat)
  case atStart => exact ⟨0, Nat.zero_le _, rfl, Below.refl _ _, fun j hj => absurd hj (Nat.not_lt_zero _)⟩
  case round =>
    obtain ⟨k, hkn, rfl, HB, HP⟩ := hrel
    by_cases hlt : k < n
    · obtain ⟨b, o, rfl, hc⟩ := (HN.out).1.resolve_left (by omega)
      have c1 := cell_below HB.out (hc k hlt)
      have hki : (k : Int) < (n : Int) := by omega
      have HC : Hid _ := fun (_ : Unit) => same17 (S k) key (A k) ak (C k) ck wr (Rb.below ((HN.out).2 k hlt) HB.out) (Rb.below HK.out HB.out) (hS k hlt) hk
      clear hc
      by_cases he : S k = key
      · rw [decide_eq_true he] at HC
        have HQ : Hid (S k = key) := he
        clear he
        go_wp2_with (go_at_call 17; refine (HC.out ()).mono ?_; rintro e w2 ⟨rfl, hb2⟩)
        go_ret
        exact ⟨_, rfl, HB.out.trans (hb2.mono HB.out.size), .inl ⟨rfl, k, hlt, HQ.out⟩⟩
      · rw [decide_eq_false he] at HC
        have HQ : Hid (S k ≠ key) := he
        clear he
        go_wp2_with (go_at_call 17; refine (HC.out ()).mono ?_; rintro e w2 ⟨rfl, hb2⟩)
        go_roundw
        case rel => exact ⟨k + 1, by omega, by go_num, HB.out.trans (hb2.mono HB.out.size), fun j hj => by
          by_cases hj2 : j < k
          · exact HP.out j hj2
          · obtain rfl : j = k := by omega
            exact HQ.out⟩
        case measure => simp [intOf]; omega
    · have HA : Hid (∀ i, i < n → S i ≠ key) := fun i hi => HP.out i (by omega)
      go_wp2
      go_ret
      exact ⟨_, rfl, HB.out, .inr ⟨rfl, HA.out⟩⟩

set_option maxRecDepth 100000 in
set_option maxHeartbeats 4000000 in
theorem holds15 (n : Nat) (Z : Nat → Int) (v : Int) (ai : Option Addr) (ci : Nat) (w : World) (hI : Ri w ai n Z) (h : n ≤ 65536) (hv : ∃ i, i < n ∧ v = Z i) :
    Calls Tryd.prog 15 #[.slice ai n ci, .int .i64 v] w fun e w' => e = .returned (.bool true) ∧ Below w.heap.size w w' := by
  have HV : Hid _ := hv
  obtain ⟨b, o, rfl, hc⟩ := hI.resolve_left (by obtain ⟨i, hi, _⟩ := hv; omega)
  clear hv hI
  go_enter Tryd.func15, Tryd.ntmps15
  go_wp2
  go_loopw [5] (fun i wr => ∃ k : Nat, k ≤ n ∧ i = .int .i64 k ∧ Hid (Below w.heap.size w wr) ∧ Hid (∀ j, j < k → Z j ≠ v)) (fun i _ => n - (intOf i).toNat)
  case atStart => exact ⟨0, Nat.zero_le _, rfl, Below.refl _ _, fun j hj => absurd hj (Nat.not_lt_zero _)⟩
  case round =>
    obtain ⟨k, hkn, rfl, HB, HP⟩ := hrel
    by_cases hlt : k < n
    · have c1 := cell_below HB.out (hc k hlt)
      have hki : (k : Int) < (n : Int) := by omega
      clear hc
      by_cases he : Z k = v
      · rw [he] at c1
        clear he
        go_wp2
        go_ret
        exact ⟨rfl, HB.out⟩
      · have HQ : Hid (Z k ≠ v) := he
        have he2 : (Z k == v) = false := beq_eq_false_iff_ne.2 he
        go_wp2
        go_roundw
        case rel => exact ⟨k + 1, by omega, by go_num, HB.out, fun j hj => by
          by_cases hj2 : j < k
          · exact HP.out j hj2
          · obtain rfl : j = k := by omega
            exact HQ.out⟩
        case measure => simp [intOf]; omega
    · exfalso
      obtain ⟨i, hi, e⟩ := HV.out
      exact HP.out i (by omega) e.symm

def IsBytes13 (w : World) (n : Nat) (S : Nat → ByteArray) (e : Ending) (w' : World) : Prop :=
  ∃ r, e = .returned (.bool r) ∧ Below w.heap.size w w' ∧ (r = true → n ≤ 1048576 ∧ ∀ i, i < n → (S i).size ≤ 1048576)

set_option maxRecDepth 100000 in
set_option maxHeartbeats 4000000 in
theorem bytes13 (n ni nk : Nat) (S : Nat → ByteArray) (A : Nat → Option Addr) (C : Nat → Nat) (a ai ak : Option Addr) (c ci ck : Nat) (w : World)
    (hN : Rn w a n A C S) (h1 : n ≤ 9223372036854775807) (h2 : ni ≤ 9223372036854775807) (h3 : nk ≤ 9223372036854775807) (hS : ∀ i, i < n → (S i).size ≤ 9223372036854775807) :
    Calls Tryd.prog 13 #[.slice a n c, .slice ai ni ci, .slice ak nk ck] w fun e w' => IsBytes13 w n S e w' := by
  have HN : Hid (Rn w a n A C S) := hN
  clear hN
  by_cases hn : 1048576 < n
  · have hni : (1048576 : Int) < (n : Int) := by omega
    go_enter Tryd.func13, Tryd.ntmps13
    go_wp2
    go_ret
    exact ⟨_, rfl, Below.refl _ _, fun h => by cases h⟩
  have hni : ¬ (1048576 : Int) < (n : Int) := by omega
  go_enter Tryd.func13, Tryd.ntmps13
  go_wp2
  go_loopw [7, 8] (fun z i wr => ∃ k t : Nat, k ≤ n ∧ t ≤ 1048576 ∧ z = .int .i64 t ∧ i = .int .i64 k ∧ Hid (Below w.heap.size w wr) ∧ Hid (∀ j, j < k → (S j).size ≤ 1048576)) (fun _ i _ => n - (intOf i).toNat)
  case atStart => exact ⟨0, n, Nat.zero_le _, by omega, by go_num, rfl, Below.refl _ _, fun j hj => absurd hj (Nat.not_lt_zero _)⟩
  case round =>
    obtain ⟨k, t, hkn, ht, rfl, rfl, HB, HP⟩ := hrel
    by_cases hlt : k < n
    · obtain ⟨b, o, rfl, hc⟩ := (HN.out).1.resolve_left (by omega)
      have c1 := cell_below HB.out (hc k hlt)
      have hki : (k : Int) < (n : Int) := by omega
      have hsz := hS k hlt
      by_cases hx : (S k).size ≤ 1048576
      · have hx2 : ¬ (1048576 : Int) < ((S k).size : Int) := by omega
        have R2 : Hid (∀ j, j < k + 1 → (S j).size ≤ 1048576) := fun j hj => by
          by_cases hj2 : j < k
          · exact HP.out j hj2
          · obtain rfl : j = k := by omega
            exact hx
        by_cases hy : t + (S k).size ≤ 1048576
        · have hy2 : ¬ (1048576 : Int) < (t : Int) + ((S k).size : Int) := by omega
          go_wp2
          go_roundw
          case rel => exact ⟨k + 1, t + (S k).size, by omega, hy, by go_num, by go_num, HB.out, R2.out⟩
          case measure => simp [intOf]; omega
        · have hy2 : (1048576 : Int) < (t : Int) + ((S k).size : Int) := by omega
          go_wp2
          go_ret
          exact ⟨_, rfl, HB.out, fun h => by cases h⟩
      · have hx2 : (1048576 : Int) < ((S k).size : Int) := by omega
        go_wp2
        go_ret
        exact ⟨_, rfl, HB.out, fun h => by cases h⟩
    · have HA : Hid (n ≤ 1048576 ∧ ∀ i, i < n → (S i).size ≤ 1048576) := ⟨by omega, fun i hi => HP.out i (by omega)⟩
      go_wp2
      all_goals
        go_ret
        exact ⟨_, rfl, HB.out, fun _ => HA.out⟩
end Go.Proofs.Qxb6602824aDoor
