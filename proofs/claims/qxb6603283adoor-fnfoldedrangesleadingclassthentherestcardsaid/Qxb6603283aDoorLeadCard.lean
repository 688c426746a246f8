/-
  FnFoldedRangesLeadingClassThenTheRest: the row, and the tied card.
-/
import Derived.Test.Qxb6603283aDoorLead
import Derived.Test.Qxb6603283aDoorTie
import Derived.Test.Qxb6603283aDoorCards
import Derived.ProofKit
import Derived.OpenShut
import Derived.LaidMore
import Derived.Lay
import Derived.Shelf.Vars
import Derived.SevenTiedAt
import Derived.Stop.Joined
namespace Go.Proofs.Qxb6603283aDoor
open Go.ChangeShapes Go.WideShapes Go.ChangeAt Go.RowKit
open Go.ChangeMaps (open_string shut_string)

def fnFoldedRangesLeadingClassThenTheRestLaid : List (String × DataW Unit) := Rows.fnFoldedRangesLeadingClassThenTheRestRow.laid
theorem fnFoldedRangesLeadingClassThenTheRest_own : ownKnob Tryd.prog.godebug = none := by kernel_rfl

/-- The library's own variable holds some number. -/
theorem lead_cell {w : World} (h : w.ShapedOpen Tryd.prog) : ∃ m, w.cell? ⟨0, 0, none⟩ = some (.int .i64 m) :=
  cell_of_shapedOpen_int (t := 3) (zero := #[.int .i64 0]) h (of_decide_eq_true (by kernel_rfl)) (by kernel_rfl) rfl (by kernel_rfl) (by kernel_rfl) Tryd.underlying3
theorem cell_room {w : World} {m : Int} (h : w.cell? ⟨0, 0, none⟩ = some (.int .i64 m)) : 0 < w.heap.size := by
  rcases Nat.eq_zero_or_pos w.heap.size with h0 | h0
  · have : w.heap[0]? = none := by simp [h0]
    simp [World.cell?, this] at h
  · exact h0

set_option maxHeartbeats 1000000 in
set_option maxRecDepth 100000 in
theorem fnFoldedRangesLeadingClassThenTheRest_lifted (os : Os) (started : os.Started) (H : Type) (enc : TypeId × Value → H) :
    ReturnsInHanded {} Tryd.checked os 5 .any (fun w args => (Rows.fnFoldedRangesLeadingClassThenTheRestSpec.pre enc Tryd.prog Tryd.f5 [] false w args ∧ laidMetH Tryd.prog fnFoldedRangesLeadingClassThenTheRestLaid w) ∧ sizedMet enc Tryd.prog Tryd.f5 (OpenSpec.ofChange Rows.fnFoldedRangesLeadingClassThenTheRestSpec) false w args)
      (Rows.fnFoldedRangesLeadingClassThenTheRestSpec.post enc Tryd.prog Tryd.f5 false true false false) := by
  refine returnsInHanded_of_calls fnFoldedRangesLeadingClassThenTheRest_own started (by kernel_rfl)
    (ChangeSpec.witness_shaped (enc := enc) (C := Tryd.checked) (os := os) (X := fun w _ => laidMetH Tryd.prog fnFoldedRangesLeadingClassThenTheRestLaid w) false (World.laidAll Tryd.prog os fnFoldedRangesLeadingClassThenTheRestLaid) #[.string ⟨#[]⟩] 8 (World.laidAll_os _ _ _)
      (World.shaped_of_ZipB (by kernel_rfl) (by kernel_rfl)) (by kernel_rfl) (by kernel_rfl) (by kernel_rfl)
      (by rw [MakeChecks.laidMetH_plain _ _ _ (by kernel_rfl)]; exact laidMet_laidAll _ (by kernel_rfl) (by kernel_rfl))) ?_
  intro w tape i _ hsh _ hok hpre _
  obtain ⟨_, _, _, fn', hfn', _, _, _, _, hval0⟩ := hok
  obtain rfl : fn' = Tryd.f5 := Option.some.inj (hfn'.symm.trans Tryd.func5)
  obtain ⟨⟨⟨ds, gs, before, hw0, _⟩, _⟩, hz⟩ := hpre
  have hW := DataW.Whole.of_heap (w' := w.forCall tape i) (by rfl) hw0
  have hsz0 := hz.weights hw0
  suffices key : Calls Tryd.prog 5 i.args (w.forCall tape i) fun e W' => ∃ v, e = .returned v ∧ Rows.fnFoldedRangesLeadingClassThenTheRestSpec.post enc Tryd.prog Tryd.f5 false true false false (w.forCall tape i) i.args v W' by
    refine key.mono fun e W' ⟨v, he, hp⟩ => ?_
    subst he
    exact ChangeSpec.post_blind hp
  clear hz hw0 hfn'
  obtain ⟨m, hm⟩ := lead_cell hsh
  generalize w.forCall tape i = W at *
  generalize i.args = args at *
  clear hsh
  have hsz : (DataW.weightsEach Tryd.prog (Tryd.f5.params.toList ++ _) (ds ++ gs)).all (· ≤ reachBytes) = true := hsz0
  have hval : ∀ (j : Nat) t v, Tryd.f5.params[j]? = some t → args[j]? = some v → Value.okWide Tryd.prog W .any _ t v := hval0
  have hW' := hW
  obtain ⟨p, q, hA0, hV, rfl, hfz, hnd⟩ := hW
  have hA : DataW.TrodAll enc Tryd.prog W 0 (fun _ => true) true Tryd.f5.params.toList args.toList ds p := hA0
  rw [Tryd.params5] at hA hval hsz
  obtain ⟨v0, vs0, d0, ds0, p0, q0, hargs, rfl, rfl, h0, r0⟩ := trodAll_cons hA
  obtain ⟨rfl, rfl, rfl⟩ := trodAll_nil r0
  obtain rfl : args = #[v0] := by cases args; simp_all
  obtain ⟨rfl, rfl⟩ := trodVars_none hV
  obtain ⟨a0, rfl, rfl, rfl, w0⟩ := open_string Tryd.underlying9 (hval 0 9 v0 rfl rfl) h0
  have l0 : a0.size ≤ 140737488355328 := by
    have h := sized_string hsz (j := 0) (t := 9) rfl rfl
    have h2 := reachBytes_lt
    rw [← Lib.size_eq] at h
    omega
  clear hA0 hval0
  simp only [List.append_nil] at hW'
  refine (law5 a0 m W l0 (cell_room hm) hm).mono fun e W' ⟨he, hb⟩ => ?_
  subst he
  exact ⟨_, rfl, _, _, _, [], [], [], hW', trodAll_mk1 (shut_bool Tryd.underlying4 _), trodAll_mk1 (shut_string Tryd.underlying9 w0), rfl, hb.frame _, fun h => by cases h⟩

theorem fnFoldedRangesLeadingClassThenTheRest_holds : Rows.FnFoldedRangesLeadingClassThenTheRestSaid :=
  OpenClaim.holds_of_wide 5 Tryd.f5 rfl rfl rfl rfl rfl rfl rfl ⟨rfl, rfl, rfl, rfl, rfl⟩ rfl rfl rfl rfl rfl (by kernel_rfl) Tryd.func5 (by kernel_rfl)
    (of_decide_eq_true (by kernel_rfl)) (by unfold Func.isWrapper; first | (rw [if_pos (by decide +kernel)]; kernel_rfl) | (rw [if_neg (by decide +kernel)]; exact ⟨rfl, rfl⟩))
    (fun os started H enc _ => fnFoldedRangesLeadingClassThenTheRest_lifted os started H enc)

/-- The card. -/
theorem fnFoldedRangesLeadingClassThenTheRest_card : Rows.FnFoldedRangesLeadingClassThenTheRestCardSaid :=
  Claim7.holds_tied_plain_at .later [] [.data, .pinned] true (true, "690b7edf2dc7ecefbbc79bba294f4f318111a4b9000fdfffd16f86a20cd27035") false fnFoldedRangesLeadingClassThenTheRest_holds (fun _ h => by cases h) (by kernel_rfl) (fun _ h => by cases h) fnFoldedRangesLeadingClassThenTheRest_row_tie rfl ⟨rfl, rfl⟩ (by kernel_rfl) rfl
    (fun f fn hf hfn => by
      obtain rfl : f = 5 := Option.some.inj ((show Tryd.prog.funcNamed Rows.fnFoldedRangesLeadingClassThenTheRestRow.func = some 5 by kernel_rfl).symm.trans hf) |>.symm
      obtain rfl : fn = Tryd.f5 := (Option.some.inj (Tryd.func5.symm.trans hfn)).symm
      exact ⟨by kernel_rfl, fun j t ht => by
        rw [Tryd.params5] at ht
        have hm : t ∈ [9] := by simpa using Array.mem_of_getElem? ht
        have hall : ([9].all fun u => !Tryd.prog.wantsStandIn u) = true := by kernel_rfl
        exact (show Tryd.prog.wantsStandIn t = false by simpa using List.all_eq_true.1 hall t hm)⟩)
    (by kernel_rfl)
end Go.Proofs.Qxb6603283aDoor
