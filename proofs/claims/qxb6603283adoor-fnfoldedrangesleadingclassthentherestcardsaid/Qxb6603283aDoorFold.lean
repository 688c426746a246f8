/-
  foldedRanges, walked.
-/
import Derived.Test.Qxb6603283aDoorFoldPlain
namespace Go.Proofs.Qxb6603283aDoor
open Go.RowKit Go.PlainAid

set_option maxRecDepth 100000 in
set_option maxHeartbeats 8000000 in
theorem fold21 (s : ByteArray) (m : Int) (w : World) (hs : s.size ≤ 2097152) (hw : 0 < w.heap.size) (hm : w.cell? ⟨0, 0, none⟩ = some (.int .i64 m)) :
    Calls Tryd.prog 21 #[.string s] w fun r w' => r = .returned (.int .i64 (fold s.data.toList false)) ∧ Below w.heap.size w w' := by
  have HX : Hid _ := invF_start (s := s)
  generalize fold s.data.toList false = X at *
  have hb := get_bt s
  go_enter Tryd.func21, Tryd.ntmps21
  go_wp2
  go_loopw [3, 4, 5] (fun rg fl i wr => ∃ (k c : Nat) (b : Bool), k ≤ s.size + 1 ∧ rg = .int .i64 c ∧ fl = .bool b ∧ i = .int .i64 k ∧ Below w.heap.size w wr ∧ Hid (InvF s k c b X)) (fun _ _ i _ => s.size + 1 - (intOf i).toNat)
  case atStart => exact ⟨0, 0, false, by omega, rfl, rfl, rfl, Below.refl _ _, HX.out⟩
  case round =>
    obtain ⟨k, c, b, hks, rfl, rfl, rfl, hbel, H⟩ := hrel
    have hck := H.out.2
    have hcell : wr.cell? ⟨0, 0, none⟩ = some (.int .i64 m) := (hbel.cell hw).trans hm
    by_cases hlt : k < s.size
    · have hki : (k : Int) < (s.size : Int) := by omega
      by_cases h92 : (bt s k == 92) = true
      · have h24 := fun W => Tryd.strings_CutPrefix (s.extract k s.size) ⟨#[92, 81]⟩ W
        rw [cut_end, show (⟨#[92, 81]⟩ : ByteArray).data.toList = [92, 81] from rfl] at h24
        have hpo := pre_q hlt h92
        cases hq : Lib.hasPrefix (s.data.toList.drop (k + 1)) [81]
        · rw [hpo, hq] at h24
          have HI : Hid _ := invF_esc H.out hlt h92 hq
          generalize Lib.trimPrefix (s.data.toList.drop k) [92, 81] = tp at h24
          have H24 : Hid _ := h24
          clear h24 hpo
          go_wp2_with (go_at_call 24; refine (H24.out _).mono ?_; rintro e w2 ⟨rfl, rfl⟩)
          go_roundw
          case rel => exact ⟨k + 2, c, b, by omega, rfl, rfl, by go_num, hbel, HI.out⟩
          case measure => simp [intOf]; omega
        · rw [hpo, hq] at h24
          have hk2 := pre_room hq
          have etp : Lib.trimPrefix (s.data.toList.drop k) [92, 81] = s.data.toList.drop (k + 2) := by
            unfold Lib.trimPrefix; rw [hpo, hq, if_pos rfl, List.drop_drop]; rfl
          rw [etp] at h24
          have hN : ∃ N : ByteArray, N.data.toList = s.data.toList.drop (k + 2) ∧ ∀ W, Calls Tryd.prog 24 #[.string (s.extract k s.size), .string ⟨#[92, 81]⟩] W fun e w' => e = .returned (.tuple #[.string N, .bool true]) ∧ w' = W := ⟨⟨(s.data.toList.drop (k + 2)).toArray⟩, rfl, h24⟩
          obtain ⟨N, eN, h24'⟩ := hN
          have hNs : N.size ≤ 2097152 := by rw [Lib.size_eq, eN, drop_len]; omega
          have hQ : ∃ (P Q : ByteArray) (f : Bool), Q.data.toList = (Lib.cut (s.data.toList.drop (k + 2)) [92, 69]).2.1 ∧ ∀ W : World, W.cell? ⟨0, 0, none⟩ = some (.int .i64 m) → Calls Tryd.prog 27 #[.string N, .string ⟨#[92, 69]⟩] W fun e w' => e = .returned (.tuple #[.string P, .string Q, .bool f]) ∧ ∃ n, w' = W.drewN n :=
            ⟨⟨(Lib.cut (s.data.toList.drop (k + 2)) [92, 69]).1.toArray⟩, ⟨(Lib.cut (s.data.toList.drop (k + 2)) [92, 69]).2.1.toArray⟩, _, rfl, fun W hW => by
              have := Tryd.strings_Cut N ⟨#[92, 69]⟩ m W (by omega) hW
              rw [eN] at this; exact this⟩
          obtain ⟨P, Q, f, eQ, h27⟩ := hQ
          have hcb := cut_back s (k + 2) hk2
          have HI : Hid _ := invF_quote H.out hlt h92 hq
          rw [← eQ, ← Lib.size_eq] at HI
          have hqs : Q.size ≤ s.size - (k + 2) := by rw [Lib.size_eq, eQ]; exact hcb.2
          have H24 : Hid _ := h24'
          have H27 : Hid _ := h27
          clear h24 hpo etp eN h24' h27 hcb eQ hq
          go_wp2_with (first
            | (go_at_call 24; refine (H24.out _).mono ?_; rintro e w2 ⟨rfl, rfl⟩)
            | (go_at_call 27; refine (H27.out _ hcell).mono ?_; rintro e w3 ⟨rfl, nd, rfl⟩))
          go_roundw
          case rel => exact ⟨s.size - Q.size, c, b, by omega, rfl, rfl, by go_num, below_drewN hbel _, HI.out⟩
          case measure => simp [intOf]; omega
      rw [Bool.not_eq_true] at h92
      by_cases h40 : (bt s k == 40) = true
      · have h24 := fun W => Tryd.strings_CutPrefix (s.extract k s.size) ⟨#[40, 63]⟩ W
        rw [cut_end, show (⟨#[40, 63]⟩ : ByteArray).data.toList = [40, 63] from rfl] at h24
        have hpo := pre_g hlt h40
        have h91 : (bt s k == 91) = false := other h40 (by decide)
        cases hq : Lib.hasPrefix (s.data.toList.drop (k + 1)) [63]
        · rw [hpo, hq] at h24
          have HI : Hid _ := invF_nogroup H.out hlt h40 hq
          generalize Lib.trimPrefix (s.data.toList.drop k) [40, 63] = tp at h24
          have H24 : Hid _ := h24
          clear h24 hpo
          go_wp2_with (go_at_call 24; refine (H24.out _).mono ?_; rintro e w2 ⟨rfl, rfl⟩)
          go_roundw
          case rel => exact ⟨k + 1, c, b, by omega, rfl, rfl, by go_num, hbel, HI.out⟩
          case measure => simp [intOf]; omega
        · rw [hpo, hq] at h24
          have hk2 := pre_room hq
          have etp : Lib.trimPrefix (s.data.toList.drop k) [40, 63] = s.data.toList.drop (k + 2) := by
            unfold Lib.trimPrefix; rw [hpo, hq, if_pos rfl, List.drop_drop]; rfl
          rw [etp] at h24
          have hN : ∃ N : ByteArray, N.data.toList = s.data.toList.drop (k + 2) ∧ ∀ W, Calls Tryd.prog 24 #[.string (s.extract k s.size), .string ⟨#[40, 63]⟩] W fun e w' => e = .returned (.tuple #[.string N, .bool true]) ∧ w' = W := ⟨⟨(s.data.toList.drop (k + 2)).toArray⟩, rfl, h24⟩
          obtain ⟨N, eN, h24'⟩ := hN
          have hNs : N.size ≤ 2097152 := by rw [Lib.size_eq, eN, drop_len]; omega
          have hQ : ∃ Q : ByteArray, Q.data.toList = Lib.trimLeftS N.data.toList flagSet ∧ ∀ W, Calls Tryd.prog 25 #[.string N, .string ⟨#[105, 109, 115, 85, 45]⟩] W fun e w' => e = .returned (.string Q) ∧ Below W.heap.size W w' := ⟨⟨(Lib.trimLeftS N.data.toList flagSet).toArray⟩, rfl, fun W => Tryd.strings_TrimLeft_set N ⟨#[105, 109, 115, 85, 45]⟩ W (by decide) (ascii_of_all (by decide))⟩
          obtain ⟨Q, eQ, h25'⟩ := hQ
          have hqs : Q.size ≤ N.size := by rw [Lib.size_eq Q, Lib.size_eq N, eQ]; exact trimLeftS_le _ _
          have hF : (N.extract 0 (N.size - Q.size)).data.toList = flagRun (s.data.toList.drop (k + 2)) := by
            rw [Lib.extract_data, List.drop_zero, Nat.sub_zero, Lib.size_eq Q, eQ, Lib.size_eq N, eN]; rfl
          have h28 := fun W => Tryd.strings_Contains_one (N.extract 0 (N.size - Q.size)) 105 W
          rw [hF] at h28
          have H24 : Hid _ := h24'
          have H25 : Hid _ := h25'
          have H28 : Hid _ := h28
          cases b
          · have HI : Hid _ := invF_group H.out hlt h40 hq
            generalize decide (0 ≤ Lib.indexByte (flagRun (s.data.toList.drop (k + 2))) 105) = B at *
            clear h24 hpo etp eN h24' eQ h25' h28 hF hq
            go_wp2_with (first
              | (go_at_call 24; refine (H24.out _).mono ?_; rintro e w2 ⟨rfl, rfl⟩)
              | (go_at_call 25; refine (H25.out _).mono ?_; rintro e w4 ⟨rfl, hb4⟩)
              | (go_at_call 28; refine (H28.out _).mono ?_; rintro e w5 ⟨rfl, rfl⟩))
            go_roundw
            case rel => exact ⟨k + 1, c, B, by omega, rfl, rfl, by go_num, hbel.trans (hb4.mono hbel.size), HI.out⟩
            case measure => simp [intOf]; omega
          · have HI : Hid _ := invF_grouped H.out hlt h40
            clear h24 hpo etp eN h24' eQ h25' h28 hF hq
            go_wp2_with (first
              | (go_at_call 24; refine (H24.out _).mono ?_; rintro e w2 ⟨rfl, rfl⟩)
              | (go_at_call 25; refine (H25.out _).mono ?_; rintro e w4 ⟨rfl, hb4⟩))
            go_roundw
            case rel => exact ⟨k + 1, c, true, by omega, rfl, rfl, by go_num, hbel.trans (hb4.mono hbel.size), HI.out⟩
            case measure => simp [intOf]; omega
      rw [Bool.not_eq_true] at h40
      by_cases h91 : (bt s k == 91) = true
      · obtain ⟨e, n, e1, e2, e3, e4, e5, e6⟩ := invF_cls H.out hlt h91
        have H20 : Hid _ := fun W => class20 s k W hs hlt
        rw [e1, e2] at H20
        have HI : Hid _ := e6
        clear e6
        cases b
        · go_wp2_with (go_at_call 20; refine (H20.out _).mono ?_; rintro e w4 ⟨rfl, hb4⟩)
          go_roundw
          case rel => exact ⟨e + 1, c + 0, false, by omega, by go_num, rfl, by go_num, hbel.trans (hb4.mono hbel.size), HI.out⟩
          case measure => simp [intOf]; omega
        · go_wp2_with (go_at_call 20; refine (H20.out _).mono ?_; rintro e w4 ⟨rfl, hb4⟩)
          go_roundw
          case rel => exact ⟨e + 1, c + n, true, by omega, by go_num, rfl, by go_num, hbel.trans (hb4.mono hbel.size), HI.out⟩
          case measure => simp [intOf]; omega
      · rw [Bool.not_eq_true] at h91
        have HI : Hid _ := invF_else H.out hlt h92 h40 h91
        go_wp2
        go_roundw
        case rel => exact ⟨k + 1, c, b, by omega, rfl, rfl, by go_num, hbel, HI.out⟩
        case measure => simp [intOf]; omega
    · have HS : Hid _ := invF_end H.out (by omega)
      go_wp2
      go_ret
      exact ⟨by rw [HS.out]; rfl, hbel⟩
end Go.Proofs.Qxb6603283aDoor
