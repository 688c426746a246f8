/-
  ZZLike's callees where the collation is not known deterministic; ZZLike itself.
-/
import Derived.Test.Qxb6602631aDoorLikeParts
namespace Go.Proofs.Qxb6602631aDoor
open Go.RowKit Go.PlainAid
attribute [local go_sem] run_store_float field40

set_option maxRecDepth 100000 in
set_option maxHeartbeats 2000000 in
theorem like22no (n : Int) (s1 e1 s2 e2 : ByteArray) (c1 x1 y1 c2 x2 y2 : Bool) (w : World) (hx : exactB c1 x1 c2 x2 = false) :
    Calls Tryd.prog 22 #[dat 0 s1 e1 c1 x1 y1, dat n s2 e2 c2 x2 y2] w fun e w' => e = .returned (.tuple #[.bool false, .bool false]) ∧ Below w.heap.size w w' := by
  have hc := coll28 0 n s1 e1 s2 e2 c1 x1 y1 c2 x2 y2
  rw [hx] at hc
  have HC : Hid _ := hc
  clear hc hx
  go_enter Tryd.func22, Tryd.ntmps22
  go_wp2_with (go_at_call 28; refine (HC.out _).mono ?_; rintro e w' ⟨⟨a, b, rfl⟩, hb⟩)
  go_ret2
  exact ⟨rfl, (by go_grown : Below w.heap.size w _).trans (hb.mono (by simp; omega))⟩
end Go.Proofs.Qxb6602631aDoor
