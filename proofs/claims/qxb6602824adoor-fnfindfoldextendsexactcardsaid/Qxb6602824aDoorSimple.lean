/-
  unicode.SimpleFold (22) computes the plain function sf, where Go's three tables lie in memory.
-/
import Derived.Test.Qxb6602824aDoorShelf
import Derived.Test.Qxb6602824aDoorOrbit
import Derived.WalkKit
import Derived.WalkSpells
import Derived.WalkSmall
import Derived.BigQuiet
import Derived.Deep.LoopGhost
import Derived.Deep.DeepMust
namespace Go.Proofs.Qxb6602824aDoor
open Go.RowKit Go.Lib Go.Shelf

/-- unicode.asciiFold lies in variable 0. -/
def FoldTab (w : World) : Prop := ∀ i, i < 128 → w.cell? ⟨0, i, none⟩ = some (.int .u16 ((foldA.getD i 0 : Nat) : Int))
/-- unicode.caseOrbit lies behind variable 1. -/
def OrbVar (w : World) : Prop :=
  ∃ R oR cap, w.cell? ⟨1, 0, none⟩ = some (.slice (some ⟨R, oR, none⟩) 94 cap) ∧
    ∀ i, i < 94 → w.cell? ⟨R, oR + i * 2, none⟩ = some (.int .u16 (((orbA.getD i (0, 0)).1 : Nat) : Int)) ∧ w.cell? ⟨R, oR + i * 2 + 1, none⟩ = some (.int .u16 (((orbA.getD i (0, 0)).2 : Nat) : Int))

theorem foldT_ok : (foldT.all fun x => decide (x < 65536)) = true := by decide
theorem orbT_ok : (orbT.all fun x => decide (x.1 < 65536) && decide (x.2 < 65536)) = true := by decide
theorem foldA_lt (i : Nat) (hi : i < 128) : foldA.getD i 0 < 65536 := by
  have h : foldT.length = 128 := by kernel_rfl
  have hm : foldA.getD i 0 ∈ foldT := by
    unfold foldA
    simp [Array.getD, h, hi]
  simpa using List.all_eq_true.1 foldT_ok _ hm
theorem orbA_lt (i : Nat) (hi : i < 94) : (orbA.getD i (0, 0)).1 < 65536 ∧ (orbA.getD i (0, 0)).2 < 65536 := by
  simpa using List.all_eq_true.1 orbT_ok _ (orbA_mem i hi)

theorem look24 (R oR cap : Nat) (r : Int) (w : World) (hT : CaseTab R oR caseA w) :
    Calls Tryd.prog 24 #[.int .i32 r, .slice (some ⟨R, oR, none⟩) 336 cap] w fun e w' =>
      e = .returned (match lookupIdx caseA r 337 0 336 with | some i => .pointer (some ⟨R, oR + i * 5, none⟩) | none => .pointer none) ∧ w' = w := by
  have h := Any.unicode_lookupCaseRange { Tryd.lays239 with } caseA R oR cap r w hT caseA_ok2.ok (by rw [caseA_size]; omega)
  rw [caseA_size] at h
  exact h
theorem conv25 (R oR i c : Nat) (hc : c < 3) (hi : i < 336) (r : Int) (w : World) (hT : CaseTab R oR caseA w) (hlo : ((caseA.getD i (0, 0, 0, 0, 0)).1 : Int) ≤ r) (hhi : r ≤ ((caseA.getD i (0, 0, 0, 0, 0)).2.1 : Int)) :
    Calls Tryd.prog 25 #[.int .i64 (c : Int), .int .i32 r, .pointer (some ⟨R, oR + i * 5, none⟩)] w fun e w' => e = .returned (.int .i32 (convertR c r (caseA.getD i (0, 0, 0, 0, 0)))) ∧ ∃ q, w' = w.drewN q := by
  have hi' : i < caseA.size := by rw [caseA_size]; exact hi
  have h := Any.unicode_convertCase { Tryd.lays239 with } c hc r R (oR + i * 5) (caseA.getD i (0, 0, 0, 0, 0)) w hlo hhi (caseA_ok2 i hi').2 (hT i hi').1 (hT.delta i hi' c hc)
  rw [convert_fits _ (caseA_row i hi') c hc r hlo hhi] at h
  exact h

theorem tab_below {R oR : Nat} {T : Array CaseRow} {w w' : World} (h : CaseTab R oR T w) (hb : Below w.heap.size w w') : CaseTab R oR T w' := fun i hi => by
  obtain ⟨c0, c1, c2, c3, c4⟩ := h i hi
  exact ⟨(hb.cell (World.block_lt_of_cell? _ _ c0)).trans c0, (hb.cell (World.block_lt_of_cell? _ _ c1)).trans c1, (hb.cell (World.block_lt_of_cell? _ _ c2)).trans c2, (hb.cell (World.block_lt_of_cell? _ _ c3)).trans c3, (hb.cell (World.block_lt_of_cell? _ _ c4)).trans c4⟩

set_option maxHeartbeats 4000000 in
set_option maxRecDepth 100000 in
/-- Behind the ASCII table. -/
theorem simple22_high (r : Int) (w : World) (h1 : 128 ≤ r) (h2 : r ≤ 1114111) (hO : OrbVar w) (hC : CaseVar 2 caseA w) :
    Calls Tryd.prog 22 #[.int .i32 r] w fun e w' => e = .returned (.int .i32 (sfO r)) ∧ Below w.heap.size w w' := by
  obtain ⟨R, oR, cap, g1, hR⟩ := hO
  obtain ⟨T, oT, capT, g2, hT⟩ := hC
  rw [caseA_size] at g2
  generalize hANS : sfO r = ANS
  unfold sfO at hANS
  generalize hJ : orbIdx r 95 0 94 = J at hANS
  have n1 : ¬ (r < 0) := by omega
  have n2 : ¬ ((1114111 : Int) < r) := by omega
  have n3 : ¬ (r < (128 : Int)) := by omega
  have HA : Aside _ := hANS
  clear hANS
  go_enter Tryd.func22, Tryd.ntmps22
  go_wp2
  go_loopg [3, 4] 95 (fun g s3 s4 wx => wx = w ∧ ∃ lo hi : Nat, s3 = .int .i64 lo ∧ s4 = .int .i64 hi ∧ lo ≤ hi ∧ hi ≤ 94 ∧ hi - lo < g ∧ orbIdx r g lo hi = J)
  case atStart => exact ⟨rfl, 0, 94, rfl, rfl, Nat.zero_le _, Nat.le_refl _, by omega, hJ⟩
  case round =>
    obtain ⟨rfl, lo, hi, rfl, rfl, hlh, hhn, hg, hl⟩ := hrel
    clear hJ
    by_cases hlt : lo < hi
    · obtain ⟨g', rfl⟩ : ∃ g', gk = g' + 1 := ⟨gk - 1, by omega⟩
      have hz : (lo : Int) < (hi : Int) := by omega
      obtain ⟨m, hm⟩ : ∃ m, (lo + hi) / 2 = m := ⟨_, rfl⟩
      have hmr : lo ≤ m ∧ m < hi := by omega
      have hm94 : (m : Int) < 94 := by omega
      have hmz : ((lo : Int) + (hi : Int)) / 2 = (m : Int) := by omega
      obtain ⟨c0, -⟩ := hR m (by omega)
      obtain ⟨o0, -⟩ := orbA_lt m (by omega)
      simp only [orbIdx, hlt, if_true, hm] at hl
      obtain ⟨Fr, hFr⟩ : ∃ Fr, (orbA.getD m (0, 0)).1 = Fr := ⟨_, rfl⟩
      rw [hFr] at c0 o0 hl
      have o1 : (Fr : Int) < 65536 := by omega
      clear hR hFr hT g2
      by_cases hb : (Fr : Int) < r
      · rw [if_pos hb] at hl
        go_wp2
        go_roundg g'
        case measure => omega
        case rel => exact ⟨rfl, m + 1, hi, by first | rfl | simp, rfl, by omega, by omega, by omega, hl⟩
      · rw [if_neg hb] at hl
        go_wp2
        go_roundg g'
        case measure => omega
        case rel => exact ⟨rfl, lo, m, rfl, rfl, by omega, by omega, by omega, hl⟩
    · have hz : ¬ ((lo : Int) < (hi : Int)) := by omega
      have hn' : orbIdx r gk lo hi = lo := by cases gk <;> simp [orbIdx, hlt]
      rw [hn'] at hl
      subst hl
      by_cases hin : lo < 94 ∧ ((orbA.getD lo (0, 0)).1 : Int) = r
      · have hans := HA.out
        rw [if_pos hin] at hans
        obtain ⟨c0, c1⟩ := hR lo hin.1
        obtain ⟨o0, o1⟩ := orbA_lt lo hin.1
        obtain ⟨hlo, hfr⟩ := hin
        have hlo' : (lo : Int) < 94 := by omega
        generalize (orbA.getD lo (0, 0)).1 = Fr at *
        generalize (orbA.getD lo (0, 0)).2 = To at *
        subst hans
        subst hfr
        have o0' : (Fr : Int) < 65536 := by omega
        have o1' : (To : Int) < 65536 := by omega
        clear hR hT HA g2
        go_wp2
        go_ret
        exact ⟨rfl, Below.refl _ _⟩
      · have hans := HA.out
        rw [if_neg hin] at hans
        clear HA
        have cL := look24 T oT capT r wr hT
        cases hlk : lookupIdx caseA r 337 0 336 with
        | none =>
          rw [hlk] at hans cL
          have hans : r = ANS := hans
          subst hans
          have cL : Calls Tryd.prog 24 #[.int .i32 r, .slice (some ⟨T, oT, none⟩) 336 capT] wr fun e w' => e = .returned (.pointer none) ∧ w' = wr := cL
          have HL : Hid _ := fun (_ : Unit) => cL
          clear cL hlk hn'
          by_cases hlo : lo < 94
          · have hlo' : (lo : Int) < 94 := by omega
            obtain ⟨c0, -⟩ := hR lo hlo
            obtain ⟨o0, -⟩ := orbA_lt lo hlo
            have hfr : ¬ (((orbA.getD lo (0, 0)).1 : Int) = r) := fun h => hin ⟨hlo, h⟩
            generalize (orbA.getD lo (0, 0)).1 = Fr at *
            clear hR hT hin
            go_wp2_with (go_at_call 24; refine (HL.out ()).mono ?_; rintro e w2 ⟨rfl, rfl⟩)
            go_ret
            exact ⟨rfl, Below.refl _ _⟩
          · have hlo' : ¬ ((lo : Int) < 94) := by omega
            clear hR hT hin
            go_wp2_with (go_at_call 24; refine (HL.out ()).mono ?_; rintro e w2 ⟨rfl, rfl⟩)
            go_ret
            exact ⟨rfl, Below.refl _ _⟩
        | some i =>
          rw [hlk] at hans cL
          obtain ⟨hil, hl1, hl2⟩ := lookupIdx_some caseA r _ _ _ i hlk
          have cL : Calls Tryd.prog 24 #[.int .i32 r, .slice (some ⟨T, oT, none⟩) 336 capT] wr fun e w' => e = .returned (.pointer (some ⟨T, oT + i * 5, none⟩)) ∧ w' = wr := cL
          have C1 : Calls Tryd.prog 25 #[.int .i64 1, .int .i32 r, .pointer (some ⟨T, oT + i * 5, none⟩)] wr fun e w' => e = .returned (.int .i32 (convertR 1 r (caseA.getD i (0, 0, 0, 0, 0)))) ∧ Below wr.heap.size wr w' := (conv25 T oT i 1 (by omega) hil r wr hT hl1 hl2).mono fun e w' h => ⟨h.1, by obtain ⟨q, hq⟩ := h.2; rw [hq]; exact below_drewN (Below.refl _ _) _⟩
          have C0 : ∀ W, Below wr.heap.size wr W → Calls Tryd.prog 25 #[.int .i64 0, .int .i32 r, .pointer (some ⟨T, oT + i * 5, none⟩)] W fun e w' => e = .returned (.int .i32 (convertR 0 r (caseA.getD i (0, 0, 0, 0, 0)))) ∧ Below W.heap.size W w' := fun W hW => (conv25 T oT i 0 (by omega) hil r W (tab_below hT hW) hl1 hl2).mono fun e w' h => ⟨h.1, by obtain ⟨q, hq⟩ := h.2; rw [hq]; exact below_drewN (Below.refl _ _) _⟩
          have hans : ranged r (caseA.getD i (0, 0, 0, 0, 0)) = ANS := hans
          unfold ranged at hans
          generalize convertR 1 r (caseA.getD i (0, 0, 0, 0, 0)) = v1 at hans C1
          generalize convertR 0 r (caseA.getD i (0, 0, 0, 0, 0)) = v0 at hans C0
          have HL : Hid _ := fun (_ : Unit) => cL
          have H1 : Hid _ := fun (_ : Unit) => C1
          have H0 : Hid _ := C0
          clear cL hlk hl1 hl2 C1 C0 hT hn' hil
          by_cases hv : v1 = r
          · rw [if_pos hv] at hans
            subst hans
            subst hv
            by_cases hlo : lo < 94
            · have hlo' : (lo : Int) < 94 := by omega
              obtain ⟨c0, -⟩ := hR lo hlo
              obtain ⟨o0, -⟩ := orbA_lt lo hlo
              have hfr : ¬ (((orbA.getD lo (0, 0)).1 : Int) = v1) := fun h => hin ⟨hlo, h⟩
              generalize (orbA.getD lo (0, 0)).1 = Fr at *
              clear hR hin
              go_wp2_with (first
                | (go_at_call 24; refine (HL.out ()).mono ?_; rintro e w2 ⟨rfl, rfl⟩)
                | (go_at_call 25; first | (refine (H0.out _ hb1).mono ?_; rintro e w3 ⟨rfl, hb3⟩) | (refine (H1.out ()).mono ?_; rintro e w2 ⟨rfl, hb1⟩)))
              go_ret
              exact ⟨rfl, hb1.trans (hb3.mono hb1.size)⟩
            · have hlo' : ¬ ((lo : Int) < 94) := by omega
              clear hR hin
              go_wp2_with (first
                | (go_at_call 24; refine (HL.out ()).mono ?_; rintro e w2 ⟨rfl, rfl⟩)
                | (go_at_call 25; first | (refine (H0.out _ hb1).mono ?_; rintro e w3 ⟨rfl, hb3⟩) | (refine (H1.out ()).mono ?_; rintro e w2 ⟨rfl, hb1⟩)))
              go_ret
              exact ⟨rfl, hb1.trans (hb3.mono hb1.size)⟩
          · rw [if_neg hv] at hans
            subst hans
            clear H0
            by_cases hlo : lo < 94
            · have hlo' : (lo : Int) < 94 := by omega
              obtain ⟨c0, -⟩ := hR lo hlo
              obtain ⟨o0, -⟩ := orbA_lt lo hlo
              have hfr : ¬ (((orbA.getD lo (0, 0)).1 : Int) = r) := fun h => hin ⟨hlo, h⟩
              generalize (orbA.getD lo (0, 0)).1 = Fr at *
              clear hR hin
              go_wp2_with (first
                | (go_at_call 24; refine (HL.out ()).mono ?_; rintro e w2 ⟨rfl, rfl⟩)
                | (go_at_call 25; refine (H1.out ()).mono ?_; rintro e w2 ⟨rfl, hb1⟩))
              go_ret
              exact ⟨rfl, hb1⟩
            · have hlo' : ¬ ((lo : Int) < 94) := by omega
              clear hR hin
              go_wp2_with (first
                | (go_at_call 24; refine (HL.out ()).mono ?_; rintro e w2 ⟨rfl, rfl⟩)
                | (go_at_call 25; refine (H1.out ()).mono ?_; rintro e w2 ⟨rfl, hb1⟩))
              go_ret
              exact ⟨rfl, hb1⟩

set_option maxHeartbeats 4000000 in
set_option maxRecDepth 100000 in
/-- **unicode.SimpleFold answers sf.** -/
theorem simple22 (r : Int) (w : World) (hF : FoldTab w) (hO : OrbVar w) (hC : CaseVar 2 caseA w) :
    Calls Tryd.prog 22 #[.int .i32 r] w fun e w' => e = .returned (.int .i32 (sf r)) ∧ Below w.heap.size w w' := by
  unfold sf
  by_cases h1 : r < 0
  · rw [if_pos (.inl h1)]
    clear hF hO hC
    go_enter Tryd.func22, Tryd.ntmps22
    go_wp2
    go_ret
    exact ⟨rfl, Below.refl _ _⟩
  · by_cases h2 : 1114111 < r
    · rw [if_pos (.inr h2)]
      clear hF hO hC
      go_enter Tryd.func22, Tryd.ntmps22
      go_wp2
      go_ret
      exact ⟨rfl, Below.refl _ _⟩
    · rw [if_neg (by omega)]
      by_cases h3 : r < 128
      · rw [if_pos h3]
        obtain ⟨k, rfl⟩ : ∃ k : Nat, r = (k : Int) := ⟨r.toNat, by omega⟩
        have c0 := hF k (by omega)
        have o0 := foldA_lt k (by omega)
        rw [Int.toNat_natCast]
        generalize foldA.getD k 0 = v at *
        have o1 : (v : Int) < 65536 := by omega
        have h4 : k < 128 := by omega
        clear hF hO hC
        go_enter Tryd.func22, Tryd.ntmps22
        go_wp2
        go_ret
        exact ⟨rfl, Below.refl _ _⟩
      · rw [if_neg h3]
        exact simple22_high r w (by omega) (by omega) hO hC
end Go.Proofs.Qxb6602824aDoor
