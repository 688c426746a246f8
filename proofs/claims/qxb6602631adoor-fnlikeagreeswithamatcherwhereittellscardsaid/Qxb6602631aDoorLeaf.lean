/-
  The leaves on like's road: plain functions on a string's bytes, each walked once.
-/
import Derived.Test.Qxb6602631aDoorProg
import Derived.WalkKit
import Derived.WalkSpells
import Derived.WalkLawsBesides
import Derived.PlainAid
import Derived.Lib.SlTrimSet
import Derived.Lib.Strings
namespace Go.Proofs.Qxb6602631aDoor
open Go.RowKit Go.PlainAid

theorem take_snoc (s : ByteArray) (k : Nat) (h : k < s.size) : s.data.toList.take (k + 1) = s.data.toList.take k ++ [s[k]] := by
  rw [List.take_succ_eq_append_getElem (by simpa using h)]; rfl
theorem take_all (s : ByteArray) (k : Nat) (h : s.size ≤ k) : s.data.toList.take k = s.data.toList := List.take_of_length_le (by simpa using h)

/-- every byte below 128 -/
def asciiL (l : List UInt8) : Bool := l.all fun c => decide (c.toNat < 128)
def pctL (l : List UInt8) : Bool := l.all fun c => decide (c.toNat = 37)

theorem all_take (p : UInt8 → Bool) (s : ByteArray) (k : Nat) (h : k < s.size) : (s.data.toList.take (k + 1)).all p = ((s.data.toList.take k).all p && p s[k]) := by
  rw [take_snoc s k h]; simp
theorem all_of_no (p : UInt8 → Bool) (s : ByteArray) (k : Nat) (h : k < s.size) (hp : p s[k] = false) : s.data.toList.all p = false := by
  rw [List.all_eq_false]
  refine ⟨s[k], ?_, by simp [hp]⟩
  have : s[k] = s.data.toList[k]'(by simpa using h) := rfl
  rw [this]; exact List.getElem_mem _

theorem bt_get (s : ByteArray) (k : Nat) (h : k < s.size) : bt s k = (s[k].toNat : Int) := (get_bt s k h).symm
theorem ret_bool {a b : Bool} (h : a = b) : Ending.returned (.bool a) = .returned (.bool b) := by rw [h]
theorem ret_str {a b : ByteArray} (h : a = b) : Ending.returned (.string a) = .returned (.string b) := by rw [h]

theorem ascii_no (s : ByteArray) (k : Nat) (h : k < s.size) (hb : 128 ≤ bt s k) : false = asciiL s.data.toList :=
  (all_of_no _ s k h (by rw [bt_get s k h] at hb; simp; omega)).symm
theorem ascii_yes (s : ByteArray) (k : Nat) (h : k < s.size) (hb : bt s k < 128) (H : asciiL (s.data.toList.take k) = true) : asciiL (s.data.toList.take (k + 1)) = true := by
  unfold asciiL at *
  rw [all_take _ s k h, H]
  rw [bt_get s k h] at hb
  simp; omega
theorem pct_no (s : ByteArray) (k : Nat) (h : k < s.size) (hb : (bt s k != 37) = true) : false = pctL s.data.toList :=
  (all_of_no _ s k h (by rw [bt_get s k h] at hb; simp at hb ⊢; omega)).symm
theorem pct_yes (s : ByteArray) (k : Nat) (h : k < s.size) (hb : (bt s k != 37) = false) (H : pctL (s.data.toList.take k) = true) : pctL (s.data.toList.take (k + 1)) = true := by
  unfold pctL at *
  rw [all_take _ s k h, H]
  rw [bt_get s k h] at hb
  simp at hb ⊢; omega

set_option maxHeartbeats 400000 in
theorem ascii16 (s : ByteArray) (w : World) (hs : s.size ≤ 9223372036854775807) :
    Calls Tryd.prog 16 #[.string s] w fun e w' => e = .returned (.bool (asciiL s.data.toList)) ∧ w' = w := by
  have hb := get_bt s
  go_enter Tryd.func16, Tryd.ntmps16
  go_wp2
  go_loop [3] (fun i => ∃ k : Nat, k ≤ s.size ∧ i = .int .i64 k ∧ asciiL (s.data.toList.take k) = true) (fun i => s.size - (intOf i).toNat)
  case atStart => exact ⟨0, Nat.zero_le _, rfl, rfl⟩
  case round =>
    obtain ⟨k, hk, rfl, H⟩ := hrel
    have HH : Hid _ := H
    clear H
    by_cases hlt : k < s.size
    · go_wp2
      · go_ret
        exact ⟨ret_bool (ascii_no s k hlt (by assumption)), rfl⟩
      · go_round
        case rel => exact ⟨k + 1, hlt, by go_num, ascii_yes s k hlt (by assumption) HH.out⟩
        case measure => simp [intOf]; omega
    · go_wp2
      go_ret
      exact ⟨ret_bool (by rw [← HH.out, take_all s k (by omega)]), rfl⟩

set_option maxHeartbeats 400000 in
theorem pct18 (s : ByteArray) (w : World) (hs : s.size ≤ 9223372036854775807) :
    Calls Tryd.prog 18 #[.string s] w fun e w' => e = .returned (.bool (pctL s.data.toList)) ∧ w' = w := by
  have hb := get_bt s
  go_enter Tryd.func18, Tryd.ntmps18
  go_wp2
  go_loop [3] (fun i => ∃ k : Nat, k ≤ s.size ∧ i = .int .i64 k ∧ pctL (s.data.toList.take k) = true) (fun i => s.size - (intOf i).toNat)
  case atStart => exact ⟨0, Nat.zero_le _, rfl, rfl⟩
  case round =>
    obtain ⟨k, hk, rfl, H⟩ := hrel
    have HH : Hid _ := H
    clear H
    by_cases hlt : k < s.size
    · go_wp2
      · go_ret
        exact ⟨ret_bool (pct_no s k hlt (by assumption)), rfl⟩
      · go_round
        case rel => exact ⟨k + 1, hlt, by go_num, pct_yes s k hlt (by assumption) HH.out⟩
        case measure => simp [intOf]; omega
    · go_wp2
      go_ret
      exact ⟨ret_bool (by rw [← HH.out, take_all s k (by omega)]), rfl⟩

set_option maxHeartbeats 400000 in
theorem ascii30 (s : ByteArray) (w : World) (hs : s.size ≤ 9223372036854775807) :
    Calls Tryd.prog 30 #[.string s] w fun e w' => e = .returned (.bool (asciiL s.data.toList)) ∧ w' = w := by
  have hb := get_bt s
  go_enter Tryd.func30, Tryd.ntmps30
  go_wp2
  go_loop [6] (fun i => ∃ k : Nat, k ≤ s.size ∧ i = .int .i64 k ∧ asciiL (s.data.toList.take k) = true) (fun i => s.size - (intOf i).toNat)
  case atStart => exact ⟨0, Nat.zero_le _, rfl, rfl⟩
  case round =>
    obtain ⟨k, hk, rfl, H⟩ := hrel
    have HH : Hid _ := H
    clear H
    by_cases hlt : k < s.size
    · go_wp2
      · go_ret
        exact ⟨ret_bool (ascii_no s k hlt (by assumption)), rfl⟩
      · go_round
        case rel => exact ⟨k + 1, hlt, by go_num, ascii_yes s k hlt (by assumption) HH.out⟩
        case measure => simp [intOf]; omega
    · go_wp2
      go_ret
      exact ⟨ret_bool (by rw [← HH.out, take_all s k (by omega)]), rfl⟩

theorem trim_end (s : ByteArray) (k : Nat) (hk : k ≤ s.size) (h1 : ∀ j, k ≤ j → j < s.size → bt s j = 32) (h2 : 0 < k → (bt s (k - 1) == 32) = false) : s.extract 0 k = ⟨(Lib.trimRightS s.data.toList [32]).toArray⟩ := by
  rw [Lib.extract_eq, Lib.trimRightS_take s.data.toList [32] k (by rw [← Lib.size_eq]; exact hk)]
  · simp
  · intro j b hj hb
    have hlt : j < s.size := by rw [Lib.size_eq]; exact (List.getElem?_eq_some_iff.1 hb).1
    have := h1 j hj hlt
    rw [bt_get s j hlt] at this
    have e : s[j] = b := by
      have : s.data.toList[j]'(by rw [← Lib.size_eq]; exact hlt) = b := (List.getElem?_eq_some_iff.1 hb).2
      exact this
    rw [e] at this
    have : b = 32 := UInt8.toNat.inj (by show b.toNat = 32; omega)
    subst this; rfl
  · intro b hk0 hb
    have hlt : k - 1 < s.size := by omega
    have := h2 hk0
    rw [bt_get s _ hlt] at this
    have e : s[k - 1] = b := by
      have : s.data.toList[k - 1]'(by rw [← Lib.size_eq]; exact hlt) = b := (List.getElem?_eq_some_iff.1 hb).2
      exact this
    rw [e] at this
    rw [Lib.contains_one]
    simp at this ⊢
    rintro rfl
    exact this rfl

set_option maxHeartbeats 400000 in
theorem trim14 (s : ByteArray) (w : World) (hs : s.size ≤ 9223372036854775807) :
    Calls Tryd.prog 14 #[.string s] w fun e w' => e = .returned (.string ⟨(Lib.trimRightS s.data.toList [32]).toArray⟩) ∧ w' = w := by
  have hb := get_bt s
  go_enter Tryd.func14, Tryd.ntmps14
  go_wp2
  go_loop [3] (fun i => ∃ k : Nat, k ≤ s.size ∧ i = .int .i64 k ∧ ∀ j, k ≤ j → j < s.size → bt s j = 32) (fun i => (intOf i).toNat)
  case atStart => exact ⟨s.size, Nat.le_refl _, rfl, fun j h1 h2 => absurd h1 (by omega)⟩
  case round =>
    obtain ⟨k, hk, rfl, H⟩ := hrel
    have HH : Hid _ := H
    clear H
    by_cases hlt : 0 < k
    · go_wp2
      · have h32 : (bt s (k - 1) == 32) = true := by assumption
        go_round
        case rel =>
          refine ⟨k - 1, by omega, by go_num, fun j h1 h2 => ?_⟩
          by_cases e : j = k - 1
          · subst e; simpa using h32
          · exact HH.out j (by omega) h2
        case measure => simp [intOf]; omega
      · have h32 : (bt s (k - 1) == 32) = false := by assumption
        go_ret
        exact ⟨ret_str (trim_end s k hk HH.out (fun _ => h32)), rfl⟩
    · go_wp2
      go_ret
      exact ⟨ret_str (trim_end s k hk HH.out (fun h => absurd h hlt)), rfl⟩

theorem pfx17 (s p : ByteArray) (w : World) (_hs : s.size ≤ 9223372036854775807) :
    Calls Tryd.prog 17 #[.string s, .string p] w fun e w' => e = .returned (.bool (Lib.hasPrefix s.data.toList p.data.toList)) ∧ w' = w := by
  have H : Hid _ := Lib.hasPrefix_raw s p
  go_enter Tryd.func17, Tryd.ntmps17
  go_wp2
  · have hle : p.size ≤ s.size := by assumption
    go_ret
    exact ⟨ret_bool (by rw [← H.out]; simp [hle]), rfl⟩
  · have hle : ¬ p.size ≤ s.size := by assumption
    go_ret
    exact ⟨ret_bool (by rw [← H.out]; simp [hle]), rfl⟩

/-- The bound on lengths that the law lays first. -/
def short12 (a b c d : Nat) : Bool := decide (a + b + c + d ≤ 1048576)

set_option maxHeartbeats 1000000 in
theorem bytes12 (s1 s2 s3 s4 : ByteArray) (b1 b2 b3 b4 b5 b6 : Bool) (n : Int) (w : World) (h1 : s1.size ≤ 140737488355328) (h2 : s2.size ≤ 140737488355328) (h3 : s3.size ≤ 140737488355328) (h4 : s4.size ≤ 140737488355328) :
    Calls Tryd.prog 12 #[.string s1, .string s2, .bool b1, .bool b2, .bool b3, .string s3, .string s4, .int .u32 n, .bool b4, .bool b5, .bool b6] w fun e w' => e = .returned (.bool (short12 s1.size s2.size s3.size s4.size)) ∧ w' = w := by
  go_enter Tryd.func12, Tryd.ntmps12
  go_wp2
  all_goals
    go_ret
    exact ⟨ret_bool (by unfold short12; simp; omega), rfl⟩
end Go.Proofs.Qxb6602631aDoor
