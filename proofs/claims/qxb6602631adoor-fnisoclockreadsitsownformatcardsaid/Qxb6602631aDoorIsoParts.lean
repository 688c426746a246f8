/-
  Plain facts on the clock's text: digits, cuts and numerals.
-/
import Derived.Test.Qxb6602631aDoorIsoLeaf
namespace Go.Proofs.Qxb6602631aDoor.Iso
open Go.RowKit Go.PlainAid

def dg (a : Int) : UInt8 := UInt8.ofNat (48 + a).toNat
theorem dg_nat (a : Int) (h : 0 ≤ a ∧ a ≤ 9) : (dg a).toNat = 48 + a.toNat := by
  unfold dg
  rw [UInt8.toNat_ofNat']
  omega
theorem dg_int (a : Int) (h : 0 ≤ a ∧ a ≤ 9) : ((dg a).toNat : Int) = 48 + a := by rw [dg_nat a h]; omega
theorem dg_val (a : Int) (h : 0 ≤ a ∧ a ≤ 9) : Lib.digitVal (dg a) = some a.toNat := by
  unfold Lib.digitVal
  rw [dg_nat a h, if_pos (by omega)]
  congr 1; omega
theorem dg_ne (a : Int) (h : 0 ≤ a ∧ a ≤ 9) : ((dg a == 45) = false) ∧ ((dg a == 43) = false) := by
  constructor <;>
  · rw [Bool.eq_false_iff]
    intro e
    rw [beq_iff_eq] at e
    have := congrArg UInt8.toNat e
    rw [dg_nat a h] at this
    simp at this
    omega
theorem dg_dig (a : Int) (h : 0 ≤ a ∧ a ≤ 9) : decide (48 ≤ (dg a).toNat ∧ (dg a).toNat ≤ 57) = true := by rw [dg_nat a h]; simp; omega
theorem atoi2 (a b : Int) (ha : 0 ≤ a ∧ a ≤ 9) (hb : 0 ≤ b ∧ b ≤ 9) : Lib.atoi [dg a, dg b] = some (a * 10 + b) := by
  simp only [Lib.atoi, (dg_ne a ha).1, (dg_ne a ha).2, Lib.decNat, Lib.decFrom, dg_val a ha, dg_val b hb, List.isEmpty_cons, Bool.false_eq_true, if_false, Option.map_some]
  congr 1; omega
theorem atoi6 (a b c d e f : Int) (ha : 0 ≤ a ∧ a ≤ 9) (hb : 0 ≤ b ∧ b ≤ 9) (hc : 0 ≤ c ∧ c ≤ 9) (hd : 0 ≤ d ∧ d ≤ 9) (he : 0 ≤ e ∧ e ≤ 9) (hf : 0 ≤ f ∧ f ≤ 9) :
    Lib.atoi [dg a, dg b, dg c, dg d, dg e, dg f] = some (((((a * 10 + b) * 10 + c) * 10 + d) * 10 + e) * 10 + f) := by
  simp only [Lib.atoi, (dg_ne a ha).1, (dg_ne a ha).2, Lib.decNat, Lib.decFrom, dg_val a ha, dg_val b hb, dg_val c hc, dg_val d hd, dg_val e he, dg_val f hf, List.isEmpty_cons, Bool.false_eq_true, if_false, Option.map_some]
  congr 1; omega

theorem bt_list (s : ByteArray) (k : Nat) (c : UInt8) (h : s.data.toList[k]? = some c) : bt s k = (c.toNat : Int) := by
  have hk : k < s.size := by rw [Lib.size_eq]; exact (List.getElem?_eq_some_iff.1 h).1
  rw [bt_get s k hk]
  have : s.data.toList[k]'(by rw [← Lib.size_eq]; exact hk) = c := (List.getElem?_eq_some_iff.1 h).2
  have e : s[k] = c := this
  rw [e]

/-- The text's bytes, ahead of what follows it. -/
def textL (h1 h2 m1 m2 s1 s2 f1 f2 f3 f4 f5 f6 : Int) (t : List UInt8) : List UInt8 := dg h1 :: dg h2 :: 58 :: dg m1 :: dg m2 :: 58 :: dg s1 :: dg s2 :: 46 :: dg f1 :: dg f2 :: dg f3 :: dg f4 :: dg f5 :: dg f6 :: t

theorem ba_eq {a b : ByteArray} (h : a.data.toList = b.data.toList) : a = b := by
  obtain ⟨⟨l⟩⟩ := a
  obtain ⟨⟨k⟩⟩ := b
  have : l = k := h
  rw [this]
theorem drop_end (s : ByteArray) (a : Nat) : (s.extract a s.size).data.toList = s.data.toList.drop a := by
  rw [Lib.extract_data]
  exact List.take_of_length_le (by rw [List.length_drop, ← Lib.size_eq]; omega)
/-- What TrimLeft at the digits leaves of digits and a tail that does not open with one. -/
theorem trim_tail (l t : List UInt8) (hl : digL l = true) (ht : ∀ c, t.head? = some c → ¬ (48 ≤ c.toNat ∧ c.toNat ≤ 57)) : Lib.trimLeftS (l ++ t) [48, 49, 50, 51, 52, 53, 54, 55, 56, 57] = t := by
  have hmem : ∀ c : UInt8, ([48, 49, 50, 51, 52, 53, 54, 55, 56, 57] : List UInt8).contains c = decide (48 ≤ c.toNat ∧ c.toNat ≤ 57) := fun c => by
    have key : ∀ n : Fin 256, ([48, 49, 50, 51, 52, 53, 54, 55, 56, 57] : List UInt8).contains (UInt8.ofNat n.val) = decide (48 ≤ n.val ∧ n.val ≤ 57) := by decide +kernel
    have h := key ⟨c.toNat, c.toNat_lt⟩
    simpa using h
  unfold Lib.trimLeftS
  induction l with
  | nil =>
    cases t with
    | nil => rfl
    | cons c r =>
      have := ht c rfl
      have h2 := hmem c
      rw [decide_eq_false this] at h2
      simp only [List.nil_append, List.dropWhile, h2]
  | cons a l ih =>
    unfold digL at hl ih
    simp only [List.all_cons, Bool.and_eq_true] at hl
    have h2 := hmem a
    rw [hl.1] at h2
    simp only [List.cons_append, List.dropWhile, h2]
    exact ih hl.2
end Go.Proofs.Qxb6602631aDoor.Iso
