/-
  What like calls: collationOf, unpadded, spelledAlike, walked.
-/
import Derived.Test.Qxb6602631aDoorHead
import Derived.Test.Qxb6602631aDoorShelf
import Derived.Handy
import Derived.Deep.AppendLies
namespace Go.Proofs.Qxb6602631aDoor
open Go.RowKit Go.PlainAid

/-- A datum of which only its type, text, encoding and collation are set. -/
abbrev dat (n : Int) (s e : ByteArray) (c x y : Bool) : Value := .agg #[.int .i64 0, .int .u32 n, .bool false, .int .i64 0, .int .i64 0, .float .f64 0, .int .i8 0, .bool false, .string ⟨#[]⟩, .int .i64 0, .string s, .string e, .bool c, .bool x, .bool y]
def exactB (c1 x1 c2 x2 : Bool) : Bool := if c1 && c2 then x1 && x2 else if c1 then x1 else if c2 then x2 else true

theorem run_store_float (P : Program) (w : World) (a : Addr) (m : Mode) (k : FloatKind) (n : Nat) : (store a (.float k n) m).run P w = stored P w a (.float k n) m := run_store P w a _ m rfl
attribute [local go_sem] run_store_float

set_option maxHeartbeats 1000000 in
theorem coll28 (n1 n2 : Int) (s1 e1 s2 e2 : ByteArray) (c1 x1 y1 c2 x2 y2 : Bool) (w : World) :
    Calls Tryd.prog 28 #[dat n1 s1 e1 c1 x1 y1, dat n2 s2 e2 c2 x2 y2] w fun e w' => (∃ a b, e = .returned (.agg #[.bool a, .bool (exactB c1 x1 c2 x2), .bool b])) ∧ Below w.heap.size w w' := by
  cases c1
  · cases c2 <;>
    · go_enter Tryd.func28, Tryd.ntmps28
      go_wp2
      go_returns
      exact ⟨⟨_, _, rfl⟩, by go_grown⟩
  · cases c2
    · go_enter Tryd.func28, Tryd.ntmps28
      go_wp2
      go_returns
      exact ⟨⟨_, _, rfl⟩, by go_grown⟩
    · cases x1 <;> cases y1 <;>
      · go_enter Tryd.func28, Tryd.ntmps28
        go_wp2
        go_returns
        exact ⟨⟨_, _, rfl⟩, by go_grown⟩

def padT (n : Int) (s : ByteArray) : ByteArray := if n == 1042 then ⟨(Lib.trimRightS s.data.toList [32]).toArray⟩ else s

set_option maxHeartbeats 1000000 in
theorem unpad29 (n : Int) (s e : ByteArray) (c x y : Bool) (w : World) (hs : s.size ≤ 9223372036854775807) :
    Calls Tryd.prog 29 #[dat n s e c x y, dat 0 ⟨#[]⟩ ⟨#[]⟩ false false false] w fun r w' => r = .returned (dat n (padT n s) e c x y) ∧ Below w.heap.size w w' := by
  by_cases h : (n == 1042) = true
  · have hp : padT n s = ⟨(Lib.trimRightS s.data.toList [32]).toArray⟩ := by unfold padT; rw [if_pos h]
    rw [hp, Lib.trimRightS_one]
    clear hp
    go_enter Tryd.func29, Tryd.ntmps29
    go_wp2_with (go_at_call 47; refine (Tryd.strings_TrimRight_one _ 32 (by decide) _ hs).mono ?_; rintro e w' ⟨rfl, rfl⟩)
    go_returns
    exact ⟨rfl, by go_grown⟩
  · rw [Bool.not_eq_true] at h
    have hp : padT n s = s := by unfold padT; rw [h]; rfl
    rw [hp]
    clear hp
    cases h3 : (n == 1043)
    · go_enter Tryd.func29, Tryd.ntmps29
      go_wp2
      go_returns
      exact ⟨rfl, by go_grown⟩
    · go_enter Tryd.func29, Tryd.ntmps29
      go_wp2
      go_returns
      exact ⟨rfl, by go_grown⟩

def alikeB (a b : ByteArray) : Bool := (a.toList == b.toList) && ((b.toList == [85, 84, 70, 56]) || (b.toList == [83, 81, 76, 95, 65, 83, 67, 73, 73]))

set_option maxHeartbeats 1000000 in
theorem spelled31 (n1 n2 : Int) (s1 e1 s2 e2 : ByteArray) (c1 x1 y1 c2 x2 y2 : Bool) (w : World) :
    Calls Tryd.prog 31 #[dat n1 s1 e1 c1 x1 y1, dat n2 s2 e2 c2 x2 y2] w fun e w' => e = .returned (.bool (alikeB e1 e2)) ∧ Below w.heap.size w w' := by
  cases h1 : (e1.toList == e2.toList)
  · have hp : alikeB e1 e2 = false := by unfold alikeB; rw [h1]; rfl
    rw [hp]
    clear hp
    go_enter Tryd.func31, Tryd.ntmps31
    go_wp2
    go_returns
    exact ⟨rfl, by go_grown⟩
  · have he : e1.toList = e2.toList := by simpa using h1
    have hp : alikeB e1 e2 = ((e1.toList == [85, 84, 70, 56]) || (e1.toList == [83, 81, 76, 95, 65, 83, 67, 73, 73])) := by unfold alikeB; rw [h1, he]; rfl
    rw [hp]
    clear hp he
    cases h2 : (e1.toList == [85, 84, 70, 56])
    · go_enter Tryd.func31, Tryd.ntmps31
      go_wp2
      go_returns
      exact ⟨rfl, by go_grown⟩
    · go_enter Tryd.func31, Tryd.ntmps31
      go_wp2
      go_returns
      exact ⟨rfl, by go_grown⟩
end Go.Proofs.Qxb6602631aDoor
