/-
  FnClassRangesEndsAtItsBracketAndIgnoresTheRest: the row, and the tied card.
-/
import Derived.Test.Qxb6603283aDoorEnds
import Derived.Test.Qxb6603283aDoorTie
import Derived.Test.Qxb6603283aDoorCards
import Derived.ProofKit
import Derived.OpenShut
import Derived.LaidMore
import Derived.Lay
import Derived.SevenTiedAt
import Derived.Stop.Joined
namespace Go.Proofs.Qxb6603283aDoor
open Go.ChangeShapes Go.WideShapes Go.ChangeAt Go.RowKit
open Go.ChangeMaps (open_string shut_string)

def fnClassRangesEndsAtItsBracketAndIgnoresTheRestLaid : List (String × DataW Unit) := Rows.fnClassRangesEndsAtItsBracketAndIgnoresTheRestRow.laid
theorem fnClassRangesEndsAtItsBracketAndIgnoresTheRest_own : ownKnob Tryd.prog.godebug = none := by kernel_rfl

set_option maxHeartbeats 1000000 in
set_option maxRecDepth 100000 in
theorem fnClassRangesEndsAtItsBracketAndIgnoresTheRest_lifted (os : Os) (started : os.Started) (H : Type) (enc : TypeId × Value → H) :
    ReturnsInHanded {} Tryd.checked os 4 .any (fun w args => (Rows.fnClassRangesEndsAtItsBracketAndIgnoresTheRestSpec.pre enc Tryd.prog Tryd.f4 [] false w args ∧ laidMetH Tryd.prog fnClassRangesEndsAtItsBracketAndIgnoresTheRestLaid w) ∧ sizedMet enc Tryd.prog Tryd.f4 (OpenSpec.ofChange Rows.fnClassRangesEndsAtItsBracketAndIgnoresTheRestSpec) false w args)
      (Rows.fnClassRangesEndsAtItsBracketAndIgnoresTheRestSpec.post enc Tryd.prog Tryd.f4 false true false false) := by
  refine returnsInHanded_of_change_and (C := Tryd.checked) (X := fun w _ => laidMetH Tryd.prog fnClassRangesEndsAtItsBracketAndIgnoresTheRestLaid w) (fun _ _ _ hh h => h.of_heap hh) fnClassRangesEndsAtItsBracketAndIgnoresTheRest_own started (by kernel_rfl) Tryd.func4
    (ChangeSpec.witness_shaped (enc := enc) (C := Tryd.checked) (os := os) (X := fun w _ => laidMetH Tryd.prog fnClassRangesEndsAtItsBracketAndIgnoresTheRestLaid w) false (World.laidAll Tryd.prog os fnClassRangesEndsAtItsBracketAndIgnoresTheRestLaid) #[.string ⟨#[]⟩, .int .i64 0] 8 (World.laidAll_os _ _ _)
      (World.shaped_of_ZipB (by kernel_rfl) (by kernel_rfl)) (by kernel_rfl) (by kernel_rfl) (by kernel_rfl)
      (by rw [MakeChecks.laidMetH_plain _ _ _ (by kernel_rfl)]; exact laidMet_laidAll _ (by kernel_rfl) (by kernel_rfl))) ?_
  intro W base args ds gs before hval0 hW _ hsz0 hL _
  have hsz : (DataW.weightsEach Tryd.prog (Tryd.f4.params.toList ++ _) (ds ++ gs)).all (· ≤ reachBytes) = true := hsz0
  have hval : ∀ (j : Nat) t v, Tryd.f4.params[j]? = some t → args[j]? = some v → Value.okWide Tryd.prog W .any base t v := hval0
  have hW' := hW
  obtain ⟨p, q, hA0, hV, rfl, hfz, hnd⟩ := hW
  have hA : DataW.TrodAll enc Tryd.prog W 0 (fun _ => true) true Tryd.f4.params.toList args.toList ds p := hA0
  rw [Tryd.params4] at hA hval hsz
  obtain ⟨v0, vs0, d0, ds0, p0, q0, hargs, rfl, rfl, h0, r0⟩ := trodAll_cons hA
  obtain ⟨v1, vs1, d1, ds1, p1, q1, rfl, rfl, rfl, h1, r1⟩ := trodAll_cons r0
  obtain ⟨rfl, rfl, rfl⟩ := trodAll_nil r1
  obtain rfl : args = #[v0, v1] := by cases args; simp_all
  obtain ⟨rfl, rfl⟩ := trodVars_none hV
  obtain ⟨a0, rfl, rfl, rfl, w0⟩ := open_string Tryd.underlying9 (hval 0 9 v0 rfl rfl) h0
  obtain ⟨a1, rfl, rfl, rfl, w1⟩ := open_int Tryd.underlying3 (hval 1 3 v1 rfl rfl) h1
  have l0 : a0.size ≤ 140737488355328 := by
    have h := sized_string hsz (j := 0) (t := 9) rfl rfl
    have h2 := reachBytes_lt
    rw [← Lib.size_eq] at h
    omega
  have b1 : -9223372036854775808 ≤ a1 ∧ a1 ≤ 9223372036854775807 := by simpa [Lit.wf, IntKind.min, IntKind.max, IntKind.signed, IntKind.bits] using w1
  clear hA0 hval0
  simp only [List.append_nil] at hW'
  refine (law4 a0 a1 W l0 b1).mono fun e W' ⟨he, hb⟩ => ?_
  subst he
  exact ⟨_, rfl, _, _, _, [], [], [], hW', trodAll_mk1 (shut_bool Tryd.underlying4 _), (trodAll_cons_mk (shut_string Tryd.underlying9 w0) (trodAll_cons_mk (shut_int Tryd.underlying3 w1) trodAll_mk0)), rfl, hb.frame _, fun h => by cases h⟩

theorem fnClassRangesEndsAtItsBracketAndIgnoresTheRest_holds : Rows.FnClassRangesEndsAtItsBracketAndIgnoresTheRestSaid :=
  OpenClaim.holds_of_wide 4 Tryd.f4 rfl rfl rfl rfl rfl rfl rfl ⟨rfl, rfl, rfl, rfl, rfl⟩ rfl rfl rfl rfl rfl (by kernel_rfl) Tryd.func4 (by kernel_rfl)
    (of_decide_eq_true (by kernel_rfl)) (by unfold Func.isWrapper; first | (rw [if_pos (by decide +kernel)]; kernel_rfl) | (rw [if_neg (by decide +kernel)]; exact ⟨rfl, rfl⟩))
    (fun os started H enc _ => fnClassRangesEndsAtItsBracketAndIgnoresTheRest_lifted os started H enc)

/-- The card. -/
theorem fnClassRangesEndsAtItsBracketAndIgnoresTheRest_card : Rows.FnClassRangesEndsAtItsBracketAndIgnoresTheRestCardSaid :=
  Claim7.holds_tied_plain_at .later [] [.data, .pinned] true (true, "690b7edf2dc7ecefbbc79bba294f4f318111a4b9000fdfffd16f86a20cd27035") false fnClassRangesEndsAtItsBracketAndIgnoresTheRest_holds (fun _ h => by cases h) (by kernel_rfl) (fun _ h => by cases h) fnClassRangesEndsAtItsBracketAndIgnoresTheRest_row_tie rfl ⟨rfl, rfl⟩ (by kernel_rfl) rfl
    (fun f fn hf hfn => by
      obtain rfl : f = 4 := Option.some.inj ((show Tryd.prog.funcNamed Rows.fnClassRangesEndsAtItsBracketAndIgnoresTheRestRow.func = some 4 by kernel_rfl).symm.trans hf) |>.symm
      obtain rfl : fn = Tryd.f4 := (Option.some.inj (Tryd.func4.symm.trans hfn)).symm
      exact ⟨by kernel_rfl, fun j t ht => by
        rw [Tryd.params4] at ht
        have hm : t ∈ [9, 3] := by simpa using Array.mem_of_getElem? ht
        have hall : ([9, 3].all fun u => !Tryd.prog.wantsStandIn u) = true := by kernel_rfl
        exact (show Tryd.prog.wantsStandIn t = false by simpa using List.all_eq_true.1 hall t hm)⟩)
    (by kernel_rfl)
end Go.Proofs.Qxb6603283aDoor
