/-
  FnFindFoldExtendsExact: the row, and the tied card.
-/
import Derived.Test.Qxb6602824aDoorTold
import Derived.Test.Qxb6602824aDoorLawFold
import Derived.Test.Qxb6602824aDoorTie
import Derived.Test.Qxb6602824aDoorCards
import Derived.ProofKit
import Derived.OpenShut
import Derived.LaidMore
import Derived.Lay
import Derived.SevenTiedAt
import Derived.Stop.Joined
import Derived.Carry
namespace Go.Proofs.Qxb6602824aDoor
open Go.ChangeShapes Go.WideShapes Go.ChangeAt Go.RowKit

def fnFindFoldExtendsExactLaid : List (String × DataW Unit) := Rows.fnFindFoldExtendsExactRow.laid
theorem fnFindFoldExtendsExact_own : ownKnob Tryd.prog.godebug = none := by kernel_rfl
theorem Tryd.laidOut : laidOutB Tryd.prog = true := by kernel_rfl

set_option maxHeartbeats 1000000 in
set_option maxRecDepth 100000 in
theorem fnFindFoldExtendsExact_lifted (os : Os) (started : os.Started) (H : Type) (enc : TypeId × Value → H) :
    ReturnsInHanded {} Tryd.checked os 4 .any (fun w args => (Rows.fnFindFoldExtendsExactSpec.pre enc Tryd.prog Tryd.f4 [] false w args ∧ laidMetH Tryd.prog fnFindFoldExtendsExactLaid w) ∧ sizedMet enc Tryd.prog Tryd.f4 (OpenSpec.ofChange Rows.fnFindFoldExtendsExactSpec) false w args)
      (Rows.fnFindFoldExtendsExactSpec.post enc Tryd.prog Tryd.f4 false true false false) := by
  refine returnsInHanded_of_change_and (C := Tryd.checked) (X := fun w _ => laidMetH Tryd.prog fnFindFoldExtendsExactLaid w) (fun _ _ _ hh h => h.of_heap hh) fnFindFoldExtendsExact_own started (by kernel_rfl) Tryd.func4
    (ChangeSpec.witness_shaped (enc := enc) (C := Tryd.checked) (os := os) (X := fun w _ => laidMetH Tryd.prog fnFindFoldExtendsExactLaid w) false (World.laidAll Tryd.prog os fnFindFoldExtendsExactLaid) #[.slice none 0 0, .slice none 0 0, .slice none 0 0] 8 (World.laidAll_os _ _ _)
      (World.shaped_of_ZipB (by kernel_rfl) (by kernel_rfl)) (by kernel_rfl) (by kernel_rfl) (by kernel_rfl)
      (by rw [MakeChecks.laidMetH_plain _ _ _ (by kernel_rfl)]; exact laidMet_laidAll _ (by kernel_rfl) (by kernel_rfl))) ?_
  intro W base args ds gs before hval0 hW _ _ hL _
  have hval : ∀ (j : Nat) t v, Tryd.f4.params[j]? = some t → args[j]? = some v → Value.okWide Tryd.prog W .any base t v := hval0
  have hW' := hW
  obtain ⟨p, q, hA0, hV, rfl, hfz, hnd⟩ := hW
  have hA : DataW.TrodAll enc Tryd.prog W 0 (fun _ => true) true Tryd.f4.params.toList args.toList ds p := hA0
  rw [Tryd.params4] at hA hval
  obtain ⟨v0, v1, v2, d0, d1, d2, p0, p1, p2, rfl, rfl, rfl, h0, h1, h2⟩ := trodAll_three hA
  obtain ⟨rfl, rfl⟩ := trodVars_none hV
  obtain ⟨a0, n0, c0, rfl⟩ := okWide_slice Tryd.underlying22 (hval 0 22 v0 rfl rfl)
  obtain ⟨a1, n1, c1, rfl⟩ := okWide_slice Tryd.underlying23 (hval 1 23 v1 rfl rfl)
  obtain ⟨a2, n2, c2, rfl⟩ := okWide_slice Tryd.underlying24 (hval 2 24 v2 rfl rfl)
  obtain ⟨A, C, S, rn, l0, e0, sS, sA⟩ := open_n h0
  obtain ⟨Z, ri, l1, e1⟩ := open_i h1
  obtain ⟨key, rfl, rb, l2, e2⟩ := open_b h2
  clear hA0 hval0
  simp only [List.append_nil] at hW'
  have hlt : ∀ x ∈ p0 ++ p1 ++ p2, x.block < W.heap.size := fun x hx => by simpa using hW'.lt x (by simpa using hx)
  have hT : Tabs W := tabs_told hL
  have law : Calls Tryd.prog 4 #[.slice a0 n0 c0, .slice a1 n1 c1, .slice a2 key.size c2] W fun e w' => e = .returned (.bool true) ∧ Below W.heap.size W w' := by
    by_cases hn : n1 = n0
    · subst hn
      exact law4_eq n1 S A C Z key a0 a1 a2 c0 c1 c2 W hT rn ri rb l0 l1 l2 sS e0 e1 e2 sA
    · exact law4_ne n0 n1 S A C key a0 a1 a2 c0 c1 c2 W hn rn l0 l1 l2 sS
  refine law.mono fun e W' ⟨he, hb⟩ => ?_
  subst he
  refine ⟨_, rfl, _, _, _, [], p0 ++ (p1 ++ p2), [], hW', trodAll_mk1 (shut_bool Tryd.underlying4 _), ?_, rfl, hb.frame _, fun h => by cases h⟩
  exact trodAll_mk3 (Below.trod Tryd.laidOut (by kernel_rfl) (of_decide_eq_true (by kernel_rfl)) h0 hb (fun x hx => hlt x (by simp [hx])))
    (Below.trod Tryd.laidOut (by kernel_rfl) (of_decide_eq_true (by kernel_rfl)) h1 hb (fun x hx => hlt x (by simp [hx])))
    (Below.trod Tryd.laidOut (by kernel_rfl) (of_decide_eq_true (by kernel_rfl)) h2 hb (fun x hx => hlt x (by simp [hx])))

theorem fnFindFoldExtendsExact_holds : Rows.FnFindFoldExtendsExactSaid :=
  OpenClaim.holds_of_wide 4 Tryd.f4 rfl rfl rfl rfl rfl rfl rfl ⟨rfl, rfl, rfl, rfl, rfl⟩ rfl rfl rfl rfl rfl (by kernel_rfl) Tryd.func4 (by kernel_rfl)
    (of_decide_eq_true (by kernel_rfl)) (by unfold Func.isWrapper; first | (rw [if_pos (by decide +kernel)]; kernel_rfl) | (rw [if_neg (by decide +kernel)]; exact ⟨rfl, rfl⟩))
    (fun os started H enc _ => fnFindFoldExtendsExact_lifted os started H enc)

/-- The card. -/
theorem fnFindFoldExtendsExact_card : Rows.FnFindFoldExtendsExactCardSaid :=
  Claim7.holds_tied_plain_at .later [] [.data, .data, .data, .pinned, .pinned] true (true, "306212ea85a87fbd055c4b9b75aa2bd196fdc891dd3cca6cb38982495424149b") false fnFindFoldExtendsExact_holds (fun _ h => by cases h) (by kernel_rfl) (fun _ h => by cases h) fnFindFoldExtendsExact_row_tie rfl ⟨rfl, rfl⟩ (by kernel_rfl) rfl
    (fun f fn hf hfn => by
      obtain rfl : f = 4 := Option.some.inj ((show Tryd.prog.funcNamed Rows.fnFindFoldExtendsExactRow.func = some 4 by kernel_rfl).symm.trans hf) |>.symm
      obtain rfl : fn = Tryd.f4 := (Option.some.inj (Tryd.func4.symm.trans hfn)).symm
      exact ⟨by kernel_rfl, fun j t ht => by
        rw [Tryd.params4] at ht
        have hm : t ∈ [22, 23, 24] := by simpa using Array.mem_of_getElem? ht
        have hall : ([22, 23, 24].all fun u => !Tryd.prog.wantsStandIn u) = true := by kernel_rfl
        exact (show Tryd.prog.wantsStandIn t = false by simpa using List.all_eq_true.1 hall t hm)⟩)
    (by kernel_rfl)
end Go.Proofs.Qxb6602824aDoor
