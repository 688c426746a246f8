/-
  classRanges as a plain function of the bytes from the opening bracket on.
-/
import Derived.Lib.SlTrimSet
import Derived.Lib.Strings
namespace Go.Proofs.Qxb6603283aDoor

def az : List UInt8 := [97, 98, 99, 100, 101, 102, 103, 104, 105, 106, 107, 108, 109, 110, 111, 112, 113, 114, 115, 116, 117, 118, 119, 120, 121, 122]
/-- What is left behind the letters of a named bracket, r standing behind its "[:". -/
def nameL (r : List UInt8) : List UInt8 := Lib.trimLeftS (Lib.trimPrefix r [94]) az
/-- Where reading goes on behind a '[' inside a bracket, r standing behind it. -/
def clsL (r : List UInt8) : List UInt8 :=
  if Lib.hasPrefix r [58] then
    if Lib.hasPrefix (nameL (r.drop 1)) [58, 93] then (nameL (r.drop 1)).drop 2 else r
  else r
def nextL (c : UInt8) (r : List UInt8) : List UInt8 := if c = 92 then r.drop 1 else if c = 91 then clsL r else r
/-- Does this byte count? -/
def hit (c : UInt8) (r : List UInt8) (b : Bool) : Nat := if c = 45 then (if b then 0 else if Lib.hasPrefix r [93] then 0 else 1) else 0

/-- The count, and the rest of the text from the closing bracket on (nothing, if there is none). 'b': at the bracket's first byte. -/
def scanF : Nat → List UInt8 → Bool → Nat × List UInt8
  | 0, _, _ => (0, [])
  | _ + 1, [], _ => (0, [])
  | n + 1, c :: r, b =>
    if c = 93 ∧ b = false then (0, c :: r)
    else ((scanF n (nextL c r) false).1 + hit c r b, (scanF n (nextL c r) false).2)

theorem trimLeftS_le (l cs : List UInt8) : (Lib.trimLeftS l cs).length ≤ l.length := (List.dropWhile_sublist _).length_le
theorem nameL_le (r : List UInt8) : (nameL r).length ≤ r.length := by
  unfold nameL
  refine Nat.le_trans (trimLeftS_le _ _) ?_
  unfold Lib.trimPrefix
  split
  · simp
  · exact Nat.le_refl _
theorem clsL_le (r : List UInt8) : (clsL r).length ≤ r.length := by
  unfold clsL
  split
  · split
    · have := nameL_le (r.drop 1)
      simp at this ⊢
      omega
    · exact Nat.le_refl _
  · exact Nat.le_refl _
theorem nextL_le (c : UInt8) (r : List UInt8) : (nextL c r).length ≤ r.length := by
  unfold nextL
  split
  · simp
  · split
    · exact clsL_le r
    · exact Nat.le_refl _

theorem scan_fuel : ∀ (n m : Nat) (l : List UInt8) (b : Bool), l.length ≤ n → l.length ≤ m → scanF n l b = scanF m l b
  | 0, m, l, b, hn, _ => by
    have : l = [] := List.eq_nil_of_length_eq_zero (by omega)
    subst this
    cases m <;> rfl
  | n + 1, 0, l, b, _, hm => by
    have : l = [] := List.eq_nil_of_length_eq_zero (by omega)
    subst this
    rfl
  | n + 1, m + 1, [], b, _, _ => rfl
  | n + 1, m + 1, c :: r, b, hn, hm => by
    have h := nextL_le c r
    simp only [List.length_cons] at hn hm
    have ih := scan_fuel n m (nextL c r) false (by omega) (by omega)
    simp only [scanF, ih]

def scan (l : List UInt8) (b : Bool) : Nat × List UInt8 := scanF l.length l b
theorem scan_nil (b : Bool) : scan [] b = (0, []) := rfl
theorem scan_stop (r : List UInt8) : scan (93 :: r) false = (0, 93 :: r) := by
  unfold scan
  rw [List.length_cons, scanF, if_pos ⟨rfl, rfl⟩]
theorem scan_step (c : UInt8) (r : List UInt8) (b : Bool) (h : ¬ (c = 93 ∧ b = false)) : scan (c :: r) b = ((scan (nextL c r) false).1 + hit c r b, (scan (nextL c r) false).2) := by
  unfold scan
  rw [List.length_cons, scanF, if_neg h, scan_fuel r.length (nextL c r).length (nextL c r) false (nextL_le c r) (Nat.le_refl _)]

/-- The body of the bracket, its caret dropped; l begins at the opening bracket. -/
def bodyL (l : List UInt8) : List UInt8 := if Lib.hasPrefix (l.drop 1) [94] then l.drop 2 else l.drop 1
def classL (l : List UInt8) : Nat × List UInt8 := scan (bodyL l) true
end Go.Proofs.Qxb6603283aDoor
