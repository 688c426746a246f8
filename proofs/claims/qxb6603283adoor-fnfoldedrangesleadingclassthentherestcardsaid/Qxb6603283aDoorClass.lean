/-
  classRanges, walked.
-/
import Derived.Test.Qxb6603283aDoorParts
import Derived.Deep.DeepCutAuto
namespace Go.Proofs.Qxb6603283aDoor
open Go.RowKit Go.PlainAid

/-- The bracket's first byte. -/
def firstN (s : ByteArray) (o : Nat) : Nat := if Lib.hasPrefix (s.data.toList.drop (o + 1)) [94] then o + 2 else o + 1
theorem class_first (s : ByteArray) (o : Nat) : classL (s.data.toList.drop o) = scan (s.data.toList.drop (firstN s o)) true := by
  unfold classL bodyL firstN
  rw [List.drop_drop, List.drop_drop]
  split <;> rfl

theorem other {x a b : Int} (h : (x == a) = true) (hab : (a == b) = false) : (x == b) = false := by
  rw [beq_iff_eq] at h
  rw [h]; exact hab

set_option maxRecDepth 100000 in
set_option maxHeartbeats 8000000 in
theorem class20 (s : ByteArray) (o : Nat) (w : World) (hs : s.size ≤ 2097152) (ho : o < s.size) :
    Calls Tryd.prog 20 #[.string s, .int .i64 o] w fun r w' => r = .returned (.tuple #[.int .i64 (classL (s.data.toList.drop o)).1, .int .i64 ((s.size : Int) - ((classL (s.data.toList.drop o)).2.length : Int))]) ∧ Below w.heap.size w w' := by
  have hX := class_first s o
  generalize classL (s.data.toList.drop o) = X at hX ⊢
  have HX : Hid _ := hX
  clear hX
  have hb := get_bt s
  have h23 := fun W => Tryd.strings_HasPrefix (s.extract (o + 1) s.size) ⟨#[94]⟩ W
  rw [cut_end, show (⟨#[94]⟩ : ByteArray).data.toList = [94] from rfl] at h23
  have hFd : firstN s o = if Lib.hasPrefix (s.data.toList.drop (o + 1)) [94] then o + 2 else o + 1 := rfl
  have hF1 : o + 1 ≤ firstN s o ∧ firstN s o ≤ o + 2 := by unfold firstN; split <;> omega
  generalize Lib.hasPrefix (s.data.toList.drop (o + 1)) [94] = p0 at h23 hFd
  have HFd : Hid _ := hFd
  clear hFd
  generalize firstN s o = F at HX HFd hF1
  have H23 : Hid _ := h23
  clear h23
  obtain ⟨f1, f2⟩ := hF1
  have hoi : (o : Int) + 1 ≤ (s.size : Int) := by omega
  go_enter Tryd.func20, Tryd.ntmps20
  go_upto_if 16 with (go_at_call 23; refine (H23.out _).mono ?_; rintro e w' ⟨rfl, rfl⟩)
  go_cut [6] (fun v wz => v = .int .i64 F ∧ wz = w')
  case first =>
    cases p0
    · have HF : Hid (F = o + 1) := HFd.out
      go_wp2
      go_meet
      exact ⟨by rw [HF.out]; simp, rfl⟩
    · have HF : Hid (F = o + 2) := HFd.out
      go_wp2
      go_meet
      exact ⟨by rw [HF.out]; go_num, rfl⟩
  case rest =>
    obtain ⟨rfl, rfl⟩ := hcut
    clear H23 HFd
    go_wp2
    go_loopw [4, 7] (fun rg i wr => ∃ k c : Nat, F ≤ k ∧ k ≤ s.size + 1 ∧ rg = .int .i64 c ∧ i = .int .i64 k ∧ Below wc.heap.size wc wr ∧ Hid (Inv s F k c X)) (fun _ i _ => s.size + 1 - (intOf i).toNat)
    case atStart => exact ⟨F, 0, Nat.le_refl _, by omega, rfl, rfl, Below.refl _ _, by have := HX.out; rw [this]; exact inv_start F⟩
    case round =>
      obtain ⟨k, c, hFk, hks, rfl, rfl, hbel, H⟩ := hrel
      have hck := H.out.2
      by_cases hlt : k < s.size
      · have hki : (k : Int) < (s.size : Int) := by omega
        by_cases h93 : (bt s k == 93) = true
        · by_cases hFlt : F < k
          · have HS : Hid _ := inv_stop H.out hlt h93 hFlt
            have hFi : (F : Int) < (k : Int) := by omega
            go_wp2
            go_ret2
            exact ⟨ret2 (by rw [HS.out]) (by rw [HS.out, drop_len]; omega), hbel⟩
          · have hFi : ¬ (F : Int) < (k : Int) := by omega
            have HI : Hid _ := inv_step H.out hlt hFk (fun h => hFlt h.2) (next_plain hlt (other h93 (by decide)) (other h93 (by decide)) _) (by omega) (hit_no hlt (other h93 (by decide)) _ _) (by omega)
            go_wp2
            go_roundw
            case rel => exact ⟨k + 1, c + 0, by omega, by omega, by go_num, by go_num, hbel, HI.out⟩
            case measure => simp [intOf]; omega
        rw [Bool.not_eq_true] at h93
        by_cases h92 : (bt s k == 92) = true
        · have HI : Hid _ := inv_step H.out hlt hFk (fun h => by rw [h93] at h; cases h.1) (next_esc hlt h92) (by omega) (hit_no hlt (other h92 (by decide)) _ _) (by omega)
          go_wp2
          go_roundw
          case rel => exact ⟨k + 2, c + 0, by omega, by omega, by go_num, by go_num, hbel, HI.out⟩
          case measure => simp [intOf]; omega
        rw [Bool.not_eq_true] at h92
        by_cases h91 : (bt s k == 91) = true
        · have h45 : (bt s k == 45) = false := other h91 (by decide)
          have h24 := fun W => Tryd.strings_CutPrefix (s.extract k s.size) ⟨#[91, 58]⟩ W
          rw [cut_end, show (⟨#[91, 58]⟩ : ByteArray).data.toList = [91, 58] from rfl] at h24
          have hpo := pre_open hlt h91
          cases hq : Lib.hasPrefix (s.data.toList.drop (k + 1)) [58]
          · rw [hpo, hq] at h24
            have HI : Hid _ := inv_step H.out hlt hFk (fun h => by rw [h93] at h; cases h.1) (next_cls_none hlt h92 h91 hq) (by omega) (hit_no hlt h45 _ _) (by omega)
            generalize Lib.trimPrefix (s.data.toList.drop k) [91, 58] = tp at h24
            have H24 : Hid _ := h24
            clear h24 hpo
            go_wp2_with (go_at_call 24; refine (H24.out _).mono ?_; rintro e w2 ⟨rfl, rfl⟩)
            go_roundw
            case rel => exact ⟨k + 1, c + 0, by omega, by omega, by go_num, by go_num, hbel, HI.out⟩
            case measure => simp [intOf]; omega
          · rw [hpo, hq] at h24
            have hk2 : k + 2 ≤ s.size := by have := pre_len hq; rw [drop_len] at this; omega
            have etp : Lib.trimPrefix (s.data.toList.drop k) [91, 58] = s.data.toList.drop (k + 2) := by
              unfold Lib.trimPrefix; rw [hpo, hq, if_pos rfl, List.drop_drop]; rfl
            rw [etp] at h24
            have hN : ∃ N : ByteArray, N.data.toList = s.data.toList.drop (k + 2) ∧ ∀ W, Calls Tryd.prog 24 #[.string (s.extract k s.size), .string ⟨#[91, 58]⟩] W fun e w' => e = .returned (.tuple #[.string N, .bool true]) ∧ w' = W := ⟨⟨(s.data.toList.drop (k + 2)).toArray⟩, rfl, h24⟩
            obtain ⟨N, eN, h24'⟩ := hN
            have hM : ∃ M : ByteArray, M.data.toList = Lib.trimPrefix (s.data.toList.drop (k + 2)) [94] ∧ ∀ W, Calls Tryd.prog 26 #[.string N, .string ⟨#[94]⟩] W fun e w' => e = .returned (.string M) ∧ w' = W := ⟨⟨(Lib.trimPrefix (s.data.toList.drop (k + 2)) [94]).toArray⟩, rfl, fun W => by have := Tryd.strings_TrimPrefix N ⟨#[94]⟩ W; rw [eN] at this; exact this⟩
            obtain ⟨M, eM, h26'⟩ := hM
            have hQ : ∃ Q : ByteArray, Q.data.toList = nameL (s.data.toList.drop (k + 2)) ∧ ∀ W, Calls Tryd.prog 25 #[.string M, .string ⟨#[97, 98, 99, 100, 101, 102, 103, 104, 105, 106, 107, 108, 109, 110, 111, 112, 113, 114, 115, 116, 117, 118, 119, 120, 121, 122]⟩] W fun e w' => e = .returned (.string Q) ∧ Below W.heap.size W w' := ⟨⟨(nameL (s.data.toList.drop (k + 2))).toArray⟩, rfl, fun W => by
              have := Tryd.strings_TrimLeft_set M ⟨#[97, 98, 99, 100, 101, 102, 103, 104, 105, 106, 107, 108, 109, 110, 111, 112, 113, 114, 115, 116, 117, 118, 119, 120, 121, 122]⟩ W (by decide) (ascii_of_all (by decide))
              rw [eM] at this; exact this⟩
            obtain ⟨Q, eQ, h25'⟩ := hQ
            have h23 := fun W => Tryd.strings_HasPrefix Q ⟨#[58, 93]⟩ W
            rw [eQ, show (⟨#[58, 93]⟩ : ByteArray).data.toList = [58, 93] from rfl] at h23
            have hql := (nameL_back s (k + 2) hk2).2
            have eQs : Q.size = (nameL (s.data.toList.drop (k + 2))).length := by rw [Lib.size_eq, eQ]
            have H24 : Hid _ := h24'
            have H26 : Hid _ := h26'
            have H25 : Hid _ := h25'
            cases h2 : Lib.hasPrefix (nameL (s.data.toList.drop (k + 2))) [58, 93]
            · rw [h2] at h23
              have H23 : Hid _ := h23
              have HI : Hid _ := inv_step H.out hlt hFk (fun h => by rw [h93] at h; cases h.1) (next_cls_no hlt h92 h91 h2) (by omega) (hit_no hlt h45 _ _) (by omega)
              clear h24 hpo etp eN h24' eM h26' eQ h25' h23 hql eQs h2 hq
              go_wp2_with (first
                | (go_at_call 24; refine (H24.out _).mono ?_; rintro e w2 ⟨rfl, rfl⟩)
                | (go_at_call 26; refine (H26.out _).mono ?_; rintro e w3 ⟨rfl, rfl⟩)
                | (go_at_call 25; refine (H25.out _).mono ?_; rintro e w4 ⟨rfl, hb4⟩)
                | (go_at_call 23; refine (H23.out _).mono ?_; rintro e w5 ⟨rfl, rfl⟩))
              go_roundw
              case rel => exact ⟨k + 1, c + 0, by omega, by omega, by go_num, by go_num, hbel.trans (hb4.mono hbel.size), HI.out⟩
              case measure => simp [intOf]; omega
            · rw [h2] at h23
              have H23 : Hid _ := h23
              have hp2 := pre_len2 h2
              have HI : Hid _ := inv_step H.out hlt hFk (fun h => by rw [h93] at h; cases h.1) (next_cls_yes hlt h92 h91 hq h2 hk2) (by omega) (hit_no hlt h45 _ _) (by omega)
              rw [← eQs] at HI
              have hqs : Q.size ≤ s.size - (k + 2) := by omega
              have hqs2 : 2 ≤ Q.size := by omega
              clear h24 hpo etp eN h24' eM h26' eQ h25' h23 hql eQs h2 hq hp2
              go_wp2_with (first
                | (go_at_call 24; refine (H24.out _).mono ?_; rintro e w2 ⟨rfl, rfl⟩)
                | (go_at_call 26; refine (H26.out _).mono ?_; rintro e w3 ⟨rfl, rfl⟩)
                | (go_at_call 25; refine (H25.out _).mono ?_; rintro e w4 ⟨rfl, hb4⟩)
                | (go_at_call 23; refine (H23.out _).mono ?_; rintro e w5 ⟨rfl, rfl⟩))
              go_roundw
              case rel => exact ⟨s.size - Q.size + 2, c + 0, by omega, by omega, by go_num, by go_num, hbel.trans (hb4.mono hbel.size), HI.out⟩
              case measure => simp [intOf]; omega
        rw [Bool.not_eq_true] at h91
        by_cases h45 : (bt s k == 45) = true
        · have hh := hit_yes hlt h45 (s.data.toList.drop (k + 1)) (decide (k = F))
          have hk1 : (k : Int) + 1 ≤ (s.size : Int) := by omega
          by_cases hFlt : F < k
          · have dF : decide ((F : Int) < (k : Int)) = true := by simp; omega
            have hFi : (F : Int) < (k : Int) := by omega
            rw [decide_eq_false (show ¬ k = F by omega)] at hh
            have h23 := fun W => Tryd.strings_HasPrefix (s.extract (k + 1) s.size) ⟨#[93]⟩ W
            rw [cut_end, show (⟨#[93]⟩ : ByteArray).data.toList = [93] from rfl] at h23
            have hb0 : decide (k = F) = false := decide_eq_false (by omega)
            cases hp : Lib.hasPrefix (s.data.toList.drop (k + 1)) [93]
            · rw [hp] at h23 hh
              have HI : Hid _ := inv_step (d := 1) H.out hlt hFk (fun h => by rw [h93] at h; cases h.1) (next_plain hlt h92 h91 _) (by omega) (by rw [hb0]; exact hh) (by omega)
              have H23 : Hid _ := h23
              clear h23 hh hp hb0
              go_wp2_with (go_at_call 23; refine (H23.out _).mono ?_; rintro e w5 ⟨rfl, rfl⟩)
              go_roundw
              case rel => exact ⟨k + 1, c + 1, by omega, by omega, by go_num, by go_num, hbel, HI.out⟩
              case measure => simp [intOf]; omega
            · rw [hp] at h23 hh
              have HI : Hid _ := inv_step (d := 0) H.out hlt hFk (fun h => by rw [h93] at h; cases h.1) (next_plain hlt h92 h91 _) (by omega) (by rw [hb0]; exact hh) (by omega)
              have H23 : Hid _ := h23
              clear h23 hh hp hb0
              go_wp2_with (go_at_call 23; refine (H23.out _).mono ?_; rintro e w5 ⟨rfl, rfl⟩)
              go_roundw
              case rel => exact ⟨k + 1, c + 0, by omega, by omega, by go_num, by go_num, hbel, HI.out⟩
              case measure => simp [intOf]; omega
          · have dF : decide ((F : Int) < (k : Int)) = false := by simp; omega
            have dF2 : decide (F < k) = false := by simp; omega
            have hb0 : decide (k = F) = true := decide_eq_true (by omega)
            rw [hb0] at hh
            have HI : Hid _ := inv_step (d := 0) H.out hlt hFk (fun h => by rw [h93] at h; cases h.1) (next_plain hlt h92 h91 _) (by omega) (by rw [hb0]; exact hh) (by omega)
            clear hh hb0
            go_wp2
            go_roundw
            case rel => exact ⟨k + 1, c + 0, by omega, by omega, by go_num, by go_num, hbel, HI.out⟩
            case measure => simp [intOf]; omega
        · rw [Bool.not_eq_true] at h45
          have HI : Hid _ := inv_step H.out hlt hFk (fun h => by rw [h93] at h; cases h.1) (next_plain hlt h92 h91 _) (by omega) (hit_no hlt h45 _ _) (by omega)
          go_wp2
          go_roundw
          case rel => exact ⟨k + 1, c + 0, by omega, by omega, by go_num, by go_num, hbel, HI.out⟩
          case measure => simp [intOf]; omega
      · have HS : Hid _ := inv_end H.out (by omega)
        go_wp2
        go_ret2
        exact ⟨ret2 (by rw [HS.out]) (by rw [HS.out]; simp), hbel⟩
end Go.Proofs.Qxb6603283aDoor
