/-
  The leaves on isoClock's road: the clock's text, allDigits, parseDigits, walked.
-/
import Derived.Test.Qxb6602631aDoorShelf2
import Derived.WalkKit
import Derived.WalkSpells
import Derived.WalkLawsBesides
import Derived.PlainAid
import Derived.Handy
import Derived.Laws.BytesArg
import Derived.Lib.Strings
import Derived.Lib.AtoiErrMem
import Derived.Deep.QuietTactic
import Derived.BigQuiet
namespace Go.Proofs.Qxb6602631aDoor.Iso
open Go.RowKit Go.PlainAid

theorem ret_str {a b : ByteArray} (h : a = b) : Ending.returned (.string a) = .returned (.string b) := by rw [h]
theorem ret_bool {a b : Bool} (h : a = b) : Ending.returned (.bool a) = .returned (.bool b) := by rw [h]
theorem bt_get (s : ByteArray) (k : Nat) (h : k < s.size) : bt s k = (s[k].toNat : Int) := (get_bt s k h).symm

theorem conv15 (w : World) (T : TypeId) (x0 x1 x2 x3 x4 x5 x6 x7 x8 x9 x10 x11 x12 x13 x14 : Int) : (convert 37 9 (.slice (some ⟨w.heap.size, 0, none⟩) 15 15)).run Tryd.prog (w.alloc (.cells #[.int .u8 x0, .int .u8 x1, .int .u8 x2, .int .u8 x3, .int .u8 x4, .int .u8 x5, .int .u8 x6, .int .u8 x7, .int .u8 x8, .int .u8 x9, .int .u8 x10, .int .u8 x11, .int .u8 x12, .int .u8 x13, .int .u8 x14] T)) =
    .ok (.string (strOfNums [x0, x1, x2, x3, x4, x5, x6, x7, x8, x9, x10, x11, x12, x13, x14])) (w.alloc (.cells #[.int .u8 x0, .int .u8 x1, .int .u8 x2, .int .u8 x3, .int .u8 x4, .int .u8 x5, .int .u8 x6, .int .u8 x7, .int .u8 x8, .int .u8 x9, .int .u8 x10, .int .u8 x11, .int .u8 x12, .int .u8 x13, .int .u8 x14] T)) := by
  refine run_convert_bytes_arg _ 37 5 Tryd.underlying37 Tryd.underlying5 w.heap.size 0 15 15 [x0, x1, x2, x3, x4, x5, x6, x7, x8, x9, x10, x11, x12, x13, x14] rfl (fun i hi => ?_) 9 Tryd.underlying9
  rw [cell_of_row _ w.heap.size (0 + i) _ T (0, 0) (heap_alloc_new w _)]
  match i, hi with
  | 0, _ => rfl
  | 1, _ => rfl
  | 2, _ => rfl
  | 3, _ => rfl
  | 4, _ => rfl
  | 5, _ => rfl
  | 6, _ => rfl
  | 7, _ => rfl
  | 8, _ => rfl
  | 9, _ => rfl
  | 10, _ => rfl
  | 11, _ => rfl
  | 12, _ => rfl
  | 13, _ => rfl
  | 14, _ => rfl

attribute [local go_sem] conv15

/-- The digits of a microsecond of the day. -/
structure Clock (m h1 h2 m1 m2 s1 s2 f1 f2 f3 f4 f5 f6 : Int) : Prop where
  bh1 : 0 ≤ h1 ∧ h1 ≤ 9
  bh2 : 0 ≤ h2 ∧ h2 ≤ 9
  bm1 : 0 ≤ m1 ∧ m1 ≤ 9
  bm2 : 0 ≤ m2 ∧ m2 ≤ 9
  bs1 : 0 ≤ s1 ∧ s1 ≤ 9
  bs2 : 0 ≤ s2 ∧ s2 ≤ 9
  bf1 : 0 ≤ f1 ∧ f1 ≤ 9
  bf2 : 0 ≤ f2 ∧ f2 ≤ 9
  bf3 : 0 ≤ f3 ∧ f3 ≤ 9
  bf4 : 0 ≤ f4 ∧ f4 ≤ 9
  bf5 : 0 ≤ f5 ∧ f5 ≤ 9
  bf6 : 0 ≤ f6 ∧ f6 ≤ 9
  hh : h1 * 10 + h2 ≤ 23
  mm : m1 * 10 + m2 ≤ 59
  ss : s1 * 10 + s2 ≤ 59
  sum : ((h1 * 10 + h2) * 3600 + (m1 * 10 + m2) * 60 + (s1 * 10 + s2)) * 1000000 + (((((f1 * 10 + f2) * 10 + f3) * 10 + f4) * 10 + f5) * 10 + f6) = m

theorem clock_of (m : Int) (h0 : 0 ≤ m) (hm : m < 86400000000) : Clock m (m / 1000000 / 3600 / 10) (m / 1000000 / 3600 % 10) (m / 1000000 / 60 % 60 / 10) (m / 1000000 / 60 % 10) (m / 1000000 % 60 / 10) (m / 1000000 % 10)
    (m % 1000000 / 10 / 10 / 10 / 10 / 10 % 10) (m % 1000000 / 10 / 10 / 10 / 10 % 10) (m % 1000000 / 10 / 10 / 10 % 10) (m % 1000000 / 10 / 10 % 10) (m % 1000000 / 10 % 10) (m % 10) := by
  obtain ⟨q, r, hq, hr, e⟩ : ∃ q r : Int, (0 ≤ q ∧ q < 86400) ∧ (0 ≤ r ∧ r < 1000000) ∧ m = q * 1000000 + r := ⟨m / 1000000, m % 1000000, by omega, by omega, by omega⟩
  have e1 : m / 1000000 = q := by omega
  have e2 : m % 1000000 = r := by omega
  have e3 : m % 10 = r % 10 := by omega
  rw [e1, e2, e3]
  have a1 : q / 60 % 60 % 10 = q / 60 % 10 := by omega
  have a2 : q % 60 % 10 = q % 10 := by omega
  constructor <;> omega

set_option maxRecDepth 100000 in
set_option maxHeartbeats 2000000 in
theorem text11 (m : Int) (w : World) (h0 : 0 ≤ m) (hm : m < 86400000000) :
    Calls Tryd.prog 11 #[.int .i64 m] w fun e w' => (∃ h1 h2 m1 m2 s1 s2 f1 f2 f3 f4 f5 f6, Clock m h1 h2 m1 m2 s1 s2 f1 f2 f3 f4 f5 f6 ∧ e = .returned (.string (strOfNums [48 + h1, 48 + h2, 58, 48 + m1, 48 + m2, 58, 48 + s1, 48 + s2, 46, 48 + f1, 48 + f2, 48 + f3, 48 + f4, 48 + f5, 48 + f6]))) ∧ Below w.heap.size w w' := by
  have H : Hid _ := clock_of m h0 hm
  go_enter Tryd.func11, Tryd.ntmps11
  go_wp2
  go_rounds 7
  go_ret
  exact ⟨⟨_, _, _, _, _, _, _, _, _, _, _, _, H.out, rfl⟩, by go_grown⟩

/-- every byte a decimal digit -/
def digL (l : List UInt8) : Bool := l.all fun c => decide (48 ≤ c.toNat ∧ c.toNat ≤ 57)
theorem take_snoc (s : ByteArray) (k : Nat) (h : k < s.size) : s.data.toList.take (k + 1) = s.data.toList.take k ++ [s[k]] := by
  rw [List.take_succ_eq_append_getElem (by simpa using h)]; rfl
theorem take_all (s : ByteArray) (k : Nat) (h : s.size ≤ k) : s.data.toList.take k = s.data.toList := List.take_of_length_le (by simpa using h)
theorem dig_no (s : ByteArray) (k : Nat) (h : k < s.size) (hb : bt s k < 48 ∨ 57 < bt s k) : false = digL s.data.toList := by
  symm
  unfold digL
  rw [List.all_eq_false]
  refine ⟨s[k], ?_, by rw [bt_get s k h] at hb; simp; omega⟩
  have : s[k] = s.data.toList[k]'(by simpa using h) := rfl
  rw [this]; exact List.getElem_mem _
theorem dig_yes (s : ByteArray) (k : Nat) (h : k < s.size) (h1 : 48 ≤ bt s k) (h2 : bt s k ≤ 57) (H : digL (s.data.toList.take k) = true) : digL (s.data.toList.take (k + 1)) = true := by
  unfold digL at *
  rw [take_snoc s k h, List.all_append, H]
  rw [bt_get s k h] at h1 h2
  simp; omega

set_option maxHeartbeats 1000000 in
theorem dig34 (s : ByteArray) (w : World) (hs : s.size ≤ 9223372036854775807) :
    Calls Tryd.prog 34 #[.string s] w fun e w' => e = .returned (.bool (digL s.data.toList)) ∧ w' = w := by
  have hb := get_bt s
  go_enter Tryd.func34, Tryd.ntmps34
  go_wp2
  go_loop [6] (fun i => ∃ k : Nat, k ≤ s.size ∧ i = .int .i64 k ∧ digL (s.data.toList.take k) = true) (fun i => s.size - (intOf i).toNat)
  case atStart => exact ⟨0, Nat.zero_le _, rfl, rfl⟩
  case round =>
    obtain ⟨k, hk, rfl, H⟩ := hrel
    have HH : Hid _ := H
    clear H
    by_cases hlt : k < s.size
    · by_cases h1 : bt s k < 48
      · have d1 : decide (bt s k < 48) = true := by simpa using h1
        go_wp2
        go_ret
        exact ⟨ret_bool (dig_no s k hlt (.inl h1)), rfl⟩
      have d1 : decide (bt s k < 48) = false := by simpa using h1
      by_cases h2 : 57 < bt s k
      · have d2 : decide (57 < bt s k) = true := by simpa using h2
        go_wp2
        go_ret
        exact ⟨ret_bool (dig_no s k hlt (.inr h2)), rfl⟩
      have d2 : decide (57 < bt s k) = false := by simpa using h2
      go_wp2
      go_round
      case rel => exact ⟨k + 1, hlt, by go_num, dig_yes s k hlt (by omega) (by omega) HH.out⟩
      case measure => simp [intOf]; omega
    · go_wp2
      go_ret
      exact ⟨ret_bool (by rw [← HH.out, take_all s k (by omega)]), rfl⟩

theorem full (r : ByteArray) (h : 0 < r.size) : r.toList.isEmpty = false := by
  rw [Lib.toList_data]
  cases h' : r.data.toList with
  | nil => rw [Lib.size_eq, h'] at h; simp at h
  | cons a l => rfl

theorem bw_below {w w1 : World} (h : ∃ t, w1 = Lib.bytesWorld w 5 t) : Below w.heap.size w w1 := by
  obtain ⟨t, rfl⟩ := h
  exact Lib.bytesWorld_below _ _ _

set_option maxHeartbeats 1000000 in
theorem parse23 (s : ByteArray) (n : Int) (w : World) (h0 : 0 < s.size) (hs : s.size ≤ 18) (hd : digL s.data.toList = true) (ha : Lib.atoi s.data.toList = some n) :
    Calls Tryd.prog 23 #[.string s] w fun e w' => e = .returned (.tuple #[.int .i64 n, .bool true]) ∧ Below w.heap.size w w' := by
  have h34 := fun W => dig34 s W (by omega)
  rw [hd] at h34
  have H34 : Hid _ := h34
  have H26 : Hid _ := fun W => Tryd.strconv_Atoi s n hs ha W
  have hf := full s h0
  clear h34 hd ha
  go_enter Tryd.func23, Tryd.ntmps23
  go_wp2_with (first
    | (go_at_call 34; refine (H34.out _).mono ?_; rintro e w' ⟨rfl, rfl⟩)
    | (go_at_call 26; refine (H26.out _).mono ?_; rintro e w1 ⟨rfl, hw1⟩; have hb1 := bw_below hw1; clear hw1))
  go_quiet (fail)
  go_wp2
  go_ret2
  exact ⟨rfl, below_drewN hb1 _⟩
end Go.Proofs.Qxb6602631aDoor.Iso
