/-
  ZZLike and the law itself, walked out of the contracts.
-/
import Derived.Test.Qxb6602631aDoorLike
import Derived.Test.Qxb6602631aDoorLikeNo
import Derived.Test.Qxb6602631aDoorMatch
import Derived.Deep.DeepCutAuto
namespace Go.Proofs.Qxb6602631aDoor
open Go.RowKit Go.PlainAid

def likeA (n : Int) (s1 e1 s2 e2 : ByteArray) (c1 x1 c2 x2 : Bool) : Bool × Bool := if exactB c1 x1 c2 x2 then likeR s1.data.toList (padT n s2).data.toList (alikeB e1 e2) else (false, false)

set_option maxHeartbeats 1000000 in
theorem zz13 (n : Int) (s1 e1 s2 e2 : ByteArray) (c1 x1 y1 c2 x2 y2 : Bool) (w : World) (h2 : s2.size ≤ 4096) (h3 : (padT n s2).size ≤ 4096) :
    Calls Tryd.prog 13 #[.string s1, .string e1, .bool c1, .bool x1, .bool y1, .string s2, .string e2, .int .u32 n, .bool c2, .bool x2, .bool y2] w fun e w' =>
      e = .returned (.tuple #[.bool (likeA n s1 e1 s2 e2 c1 x1 c2 x2).1, .bool (likeA n s1 e1 s2 e2 c1 x1 c2 x2).2]) ∧ Below w.heap.size w w' := by
  have H : Hid (∀ W, Calls Tryd.prog 22 #[dat 0 s1 e1 c1 x1 y1, dat n s2 e2 c2 x2 y2] W fun e w' => e = .returned (.tuple #[.bool (likeA n s1 e1 s2 e2 c1 x1 c2 x2).1, .bool (likeA n s1 e1 s2 e2 c1 x1 c2 x2).2]) ∧ Below W.heap.size W w') := by
    intro W
    cases hx : exactB c1 x1 c2 x2
    · have e : likeA n s1 e1 s2 e2 c1 x1 c2 x2 = (false, false) := by unfold likeA; rw [hx]; rfl
      rw [e]; exact like22no n s1 e1 s2 e2 c1 x1 y1 c2 x2 y2 W hx
    · have e : likeA n s1 e1 s2 e2 c1 x1 c2 x2 = likeR s1.data.toList (padT n s2).data.toList (alikeB e1 e2) := by unfold likeA; rw [hx]; rfl
      rw [e]; exact like22 n s1 e1 s2 e2 c1 x1 y1 c2 x2 y2 W h2 h3 hx
  generalize likeA n s1 e1 s2 e2 c1 x1 c2 x2 = R at *
  go_enter Tryd.func13, Tryd.ntmps13
  go_wp2_with (go_at_call 22; refine (H.out _).mono ?_; rintro e w' ⟨rfl, hb⟩)
  go_ret2
  exact ⟨rfl, hb⟩

theorem head15_none (p : ByteArray) (w : World) (hs : p.size ≤ 4096) (hh : headL p.data.toList = none) :
    Calls Tryd.prog 15 #[.string p] w fun e w' => Below w.heap.size w w' ∧ e = .returned (.tuple #[.string ⟨#[]⟩, .string ⟨#[]⟩, .bool true]) :=
  (head15 p w hs).mono fun e w' ⟨h1, h2⟩ => ⟨h1, by
    rcases h2 with ⟨_, h⟩ | ⟨l, q, h, _⟩
    · exact h
    · rw [hh] at h; cases h⟩
theorem head15_some (p : ByteArray) (w : World) (hs : p.size ≤ 4096) {l q : List UInt8} (hh : headL p.data.toList = some (l, q)) :
    Calls Tryd.prog 15 #[.string p] w fun e w' => Below w.heap.size w w' ∧ e = .returned (.tuple #[.string ⟨l.toArray⟩, .string ⟨q.toArray⟩, .bool false]) :=
  (head15 p w hs).mono fun e w' ⟨h1, h2⟩ => ⟨h1, by
    rcases h2 with ⟨h, _⟩ | ⟨l', q', h, h'⟩
    · rw [hh] at h; cases h
    · rw [hh] at h; cases h; exact h'⟩
theorem head_len_aux : ∀ (n : Nat) (p l q : List UInt8), p.length ≤ n → headL p = some (l, q) → l.length + q.length ≤ p.length
  | _, [], l, q, _, h => by
    simp [headL] at h
    obtain ⟨rfl, rfl⟩ := h
    simp
  | 0, c :: r, l, q, hn, h => by simp at hn
  | n + 1, c :: r, l, q, hn, h => by
    simp only [List.length_cons] at hn
    by_cases hw : c = 37 ∨ c = 95
    · rw [headL_wild c r hw] at h
      simp at h
      obtain ⟨rfl, rfl⟩ := h
      simp
    · by_cases hb : c = 92
      · subst hb
        match r, hn, h with
        | [], _, h => rw [headL_bad] at h; cases h
        | d :: r', hn, h =>
          rw [headL_esc] at h
          simp only [List.length_cons] at hn
          cases h' : headL r' with
          | none => rw [h'] at h; cases h
          | some x =>
            rw [h'] at h
            obtain ⟨l', q'⟩ := x
            simp at h
            obtain ⟨rfl, rfl⟩ := h
            have := head_len_aux n r' l' q' (by omega) h'
            simp; omega
      · rw [headL_lit c r hw hb] at h
        cases h' : headL r with
        | none => rw [h'] at h; cases h
        | some x =>
          rw [h'] at h
          obtain ⟨l', q'⟩ := x
          simp at h
          obtain ⟨rfl, rfl⟩ := h
          have := head_len_aux n r l' q' (by omega) h'
          simp; omega
theorem head_len : ∀ {p l q : List UInt8}, headL p = some (l, q) → l.length ≤ p.length ∧ q.length ≤ p.length := fun {p} {l} {q} h => by
  have := head_len_aux p.length p l q (Nat.le_refl _) h
  omega

set_option maxRecDepth 100000 in
set_option maxHeartbeats 8000000 in
theorem law5 (n : Int) (s1 e1 s2 e2 : ByteArray) (c1 x1 y1 c2 x2 y2 : Bool) (w : World) (h1 : s1.size ≤ 4096) (h2 : s2.size ≤ 4096) (h3 : e1.size ≤ 65536) (h4 : e2.size ≤ 65536) (h5 : (padT n s2).size ≤ 4096) :
    Calls Tryd.prog 5 #[.string s1, .string e1, .bool c1, .bool x1, .bool y1, .string s2, .string e2, .int .u32 n, .bool c2, .bool x2, .bool y2] w fun e w' =>
      e = .returned (.bool true) ∧ Below w.heap.size w w' := by
  have h12 := fun W => bytes12 s1 e1 s2 e2 c1 x1 y1 c2 x2 y2 n W (by omega) (by omega) (by omega) (by omega)
  have hsh : short12 s1.size e1.size s2.size e2.size = true := by unfold short12; simp; omega
  rw [hsh] at h12
  have H12 : Hid _ := h12
  have H13 : Hid _ := fun W => zz13 n s1 e1 s2 e2 c1 x1 y1 c2 x2 y2 W h2 h5
  clear h12 hsh
  generalize hR : likeA n s1 e1 s2 e2 c1 x1 c2 x2 = R at H13
  have HR : Hid _ := hR
  clear hR
  have g1 : (s1.size : Int) ≤ 4096 := by omega
  have g2 : (s2.size : Int) ≤ 4096 := by omega
  have g3 : (e1.size : Int) ≤ 65536 := by omega
  have g4 : (e2.size : Int) ≤ 65536 := by omega
  go_enter Tryd.func5, Tryd.ntmps5
  go_upto_region 7 with (first
    | (go_at_call 12; refine (H12.out _).mono ?_; rintro e w' ⟨rfl, rfl⟩)
    | (go_at_call 13; refine (H13.out _).mono ?_; rintro e w1 ⟨rfl, hb1⟩))
  go_cut [81] (fun v wc => v = .bool (c1 && c2) ∧ wc = w1)
  case first => cases c1 <;> (go_wp2; go_meet; exact ⟨rfl, rfl⟩)
  case rest =>
    obtain ⟨rfl, rfl⟩ := hcut
    go_upto_if 81 with fail
    go_cut [25] (fun v wz => v = .bool (exactB c1 x1 c2 x2) ∧ wz = wc)
    case first => cases c1 <;> cases c2 <;> cases x1 <;> (go_wp2; go_meet; exact ⟨rfl, rfl⟩)
    case rest =>
      obtain ⟨rfl, rfl⟩ := hcut
      go_upto_if 92 with fail
      go_cut [26] (fun v wz => v = .string (padT n s2) ∧ wz = wc)
      case first =>
        cases h : (n == 1042)
        · have hp : padT n s2 = s2 := by unfold padT; rw [h]; rfl
          have HP : Hid _ := hp
          clear hp
          go_wp2
          go_meet
          exact ⟨by rw [HP.out], rfl⟩
        · have hp : padT n s2 = ⟨(Lib.trimRightS s2.data.toList [32]).toArray⟩ := by unfold padT; rw [if_pos h]
          have H14 := fun W => trim14 s2 W (by omega)
          rw [← hp] at H14
          have HT : Hid _ := H14
          clear hp H14
          generalize padT n s2 = P at *
          go_wp2_with (go_at_call 14; refine (HT.out _).mono ?_; rintro e w' ⟨rfl, rfl⟩)
          go_meet
          exact ⟨rfl, rfl⟩
      case rest =>
        obtain ⟨rfl, rfl⟩ := hcut
        have HR2 := HR.out
        unfold likeA at HR2
        generalize exactB c1 x1 c2 x2 = X at *
        generalize padT n s2 = P at *
        cases X
        · have hR : R = (false, false) := by rw [← HR2]; rfl
          clear HR HR2 H13
          subst hR
          go_wp2
          go_ret
          exact ⟨rfl, hb1⟩
        · have HR3 : Hid (likeR s1.data.toList P.data.toList (alikeB e1 e2) = R) := HR2
          clear HR HR2 H13
          cases hh : headL P.data.toList with
          | none =>
            have H15 : Hid _ := fun W => head15_none P W h5 hh
            have hR : R = (false, false) := by rw [← HR3.out, likeR_bad hh]
            subst hR
            clear HR3 hh
            go_upto_region 19 with (go_at_call 15; refine (H15.out _).mono ?_; rintro e w2 ⟨hb2, rfl⟩)
            go_cut [31] (fun v wz => v = .bool (alikeB e1 e2) ∧ wz = w2)
            case first =>
                cases ha : (e1.toList == e2.toList)
                · have HP : Hid (alikeB e1 e2 = false) := by unfold alikeB; rw [ha]; rfl
                  go_wp2
                  go_meet
                  exact ⟨by rw [HP.out], rfl⟩
                · cases hu : (e2.toList == [85, 84, 70, 56])
                  · have HP : Hid (alikeB e1 e2 = (e2.toList == [83, 81, 76, 95, 65, 83, 67, 73, 73])) := by unfold alikeB; rw [ha, hu]; rfl
                    go_wp2
                    go_meet
                    exact ⟨by rw [HP.out], rfl⟩
                  · have HP : Hid (alikeB e1 e2 = true) := by unfold alikeB; rw [ha, hu]; rfl
                    go_wp2
                    go_meet
                    exact ⟨by rw [HP.out], rfl⟩
            case rest =>
              obtain ⟨rfl, rfl⟩ := hcut
              go_wp2
              go_ret
              exact ⟨rfl, hb1.trans (hb2.mono hb1.size)⟩
          | some x =>
            obtain ⟨l, q⟩ := x
            have H15 : Hid _ := fun W => head15_some P W h5 hh
            go_upto_region 19 with (go_at_call 15; refine (H15.out _).mono ?_; rintro e w2 ⟨hb2, rfl⟩)
            go_cut [31] (fun v wz => v = .bool (alikeB e1 e2) ∧ wz = w2)
            case first =>
                cases ha : (e1.toList == e2.toList)
                · have HP : Hid (alikeB e1 e2 = false) := by unfold alikeB; rw [ha]; rfl
                  go_wp2
                  go_meet
                  exact ⟨by rw [HP.out], rfl⟩
                · cases hu : (e2.toList == [85, 84, 70, 56])
                  · have HP : Hid (alikeB e1 e2 = (e2.toList == [83, 81, 76, 95, 65, 83, 67, 73, 73])) := by unfold alikeB; rw [ha, hu]; rfl
                    go_wp2
                    go_meet
                    exact ⟨by rw [HP.out], rfl⟩
                  · have HP : Hid (alikeB e1 e2 = true) := by unfold alikeB; rw [ha, hu]; rfl
                    go_wp2
                    go_meet
                    exact ⟨by rw [HP.out], rfl⟩
            case rest =>
              obtain ⟨rfl, rfl⟩ := hcut
              have hlen := head_len hh
              have hPs := Lib.size_eq P
              have h16 := fun W => ascii16 ⟨l.toArray⟩ W (by show l.toArray.size ≤ _; simp; omega)
              have h17 := fun W => pfx17 s1 ⟨l.toArray⟩ W (by omega)
              have h18 := fun W => pct18 ⟨q.toArray⟩ W (by show q.toArray.size ≤ _; simp; omega)
              have H16 : Hid _ := h16
              have H17 : Hid _ := h17
              have H18 : Hid _ := h18
              clear h16 h17 h18 hlen hPs H15
              cases hA : asciiL l
              · rw [hA] at H16
                cases hK : alikeB e1 e2
                · have hR : R = (false, false) := by rw [← HR3.out, likeR_some hh, hA, hK]; rfl
                  subst hR
                  clear HR3 hh
                  go_wp2_with (go_at_call 16; refine (H16.out _).mono ?_; rintro e w' ⟨rfl, rfl⟩)
                  go_ret
                  exact ⟨rfl, hb1.trans (hb2.mono hb1.size)⟩
                · skip
                  by_cases hq : q = []
                  · have hR : R = (s1.data.toList == l, true) := by rw [← HR3.out, likeR_some hh, hK]; simp [hq]
                    have hm := match_none s1.data.toList P.data.toList l (by rw [hh, hq])
                    subst hR
                    have hqi : q.isEmpty = true := by rw [hq]; rfl
                    have H19 : Hid _ := fun W => match19 s1 P W h1 h5
                    rw [hm] at H19
                    clear hq hm HR3 hh
                    generalize (s1.data.toList == l) = z at *
                    go_wp2_with (first
                      | (go_at_call 16; refine (H16.out _).mono ?_; rintro e w' ⟨rfl, rfl⟩)
                      | (go_at_call 17; refine (H17.out _).mono ?_; rintro e w' ⟨rfl, rfl⟩)
                      | (go_at_call 18; refine (H18.out _).mono ?_; rintro e w' ⟨rfl, rfl⟩)
                      | (go_at_call 19; refine (H19.out _).mono ?_; rintro e w5 ⟨rfl, hb5⟩))
                    go_ret
                    exact ⟨ret_bool (by simp), (hb1.trans (hb2.mono hb1.size)).trans (hb5.mono (Nat.le_trans hb1.size hb2.size))⟩
                  · have hqi : q.isEmpty = false := by simpa using hq
                    cases hp : Lib.hasPrefix s1.data.toList l
                    · have hR : R = (false, true) := by rw [← HR3.out, likeR_some hh, hK]; simp [hqi, hp]
                      have hm := match_off s1.data.toList P.data.toList l q hh hp
                      subst hR
                      have H19 : Hid _ := fun W => match19 s1 P W h1 h5
                      rw [hm] at H19
                      rw [hp] at H17
                      clear hq hm HR3 hh
                      go_wp2_with (first
                        | (go_at_call 16; refine (H16.out _).mono ?_; rintro e w' ⟨rfl, rfl⟩)
                        | (go_at_call 17; refine (H17.out _).mono ?_; rintro e w' ⟨rfl, rfl⟩)
                        | (go_at_call 18; refine (H18.out _).mono ?_; rintro e w' ⟨rfl, rfl⟩)
                        | (go_at_call 19; refine (H19.out _).mono ?_; rintro e w5 ⟨rfl, hb5⟩))
                      go_ret
                      exact ⟨rfl, (hb1.trans (hb2.mono hb1.size)).trans (hb5.mono (Nat.le_trans hb1.size hb2.size))⟩
                    · rw [hp] at H17
                      cases hc : pctL q
                      · have hR : R = (false, false) := by rw [← HR3.out, likeR_some hh, hK]; simp [hqi, hp, hc]
                        subst hR
                        rw [hc] at H18
                        clear hq HR3 hh
                        go_wp2_with (first
                          | (go_at_call 16; refine (H16.out _).mono ?_; rintro e w' ⟨rfl, rfl⟩)
                          | (go_at_call 17; refine (H17.out _).mono ?_; rintro e w' ⟨rfl, rfl⟩)
                          | (go_at_call 18; refine (H18.out _).mono ?_; rintro e w' ⟨rfl, rfl⟩)
                          | (go_at_call 19; refine (H19.out _).mono ?_; rintro e w5 ⟨rfl, hb5⟩))
                        go_ret
                        exact ⟨rfl, hb1.trans (hb2.mono hb1.size)⟩
                      · have hR : R = (true, true) := by rw [← HR3.out, likeR_some hh, hK]; simp [hqi, hp, hc]
                        have hm := match_on s1.data.toList P.data.toList l q hh hq hc hp
                        subst hR
                        rw [hc] at H18
                        have H19 : Hid _ := fun W => match19 s1 P W h1 h5
                        rw [hm] at H19
                        clear hq hm HR3 hh
                        go_wp2_with (first
                          | (go_at_call 16; refine (H16.out _).mono ?_; rintro e w' ⟨rfl, rfl⟩)
                          | (go_at_call 17; refine (H17.out _).mono ?_; rintro e w' ⟨rfl, rfl⟩)
                          | (go_at_call 18; refine (H18.out _).mono ?_; rintro e w' ⟨rfl, rfl⟩)
                          | (go_at_call 19; refine (H19.out _).mono ?_; rintro e w5 ⟨rfl, hb5⟩))
                        go_ret
                        exact ⟨rfl, (hb1.trans (hb2.mono hb1.size)).trans (hb5.mono (Nat.le_trans hb1.size hb2.size))⟩
              · rw [hA] at H16
                by_cases hq : q = []
                · have hR : R = (s1.data.toList == l, true) := by rw [← HR3.out, likeR_some hh, hA]; simp [hq]
                  have hm := match_none s1.data.toList P.data.toList l (by rw [hh, hq])
                  subst hR
                  have hqi : q.isEmpty = true := by rw [hq]; rfl
                  have H19 : Hid _ := fun W => match19 s1 P W h1 h5
                  rw [hm] at H19
                  clear hq hm HR3 hh
                  generalize (s1.data.toList == l) = z at *
                  go_wp2_with (first
                    | (go_at_call 16; refine (H16.out _).mono ?_; rintro e w' ⟨rfl, rfl⟩)
                    | (go_at_call 17; refine (H17.out _).mono ?_; rintro e w' ⟨rfl, rfl⟩)
                    | (go_at_call 18; refine (H18.out _).mono ?_; rintro e w' ⟨rfl, rfl⟩)
                    | (go_at_call 19; refine (H19.out _).mono ?_; rintro e w5 ⟨rfl, hb5⟩))
                  all_goals go_ret
                  all_goals exact ⟨ret_bool (by simp_all), (hb1.trans (hb2.mono hb1.size)).trans (hb5.mono (Nat.le_trans hb1.size hb2.size))⟩
                · have hqi : q.isEmpty = false := by simpa using hq
                  cases hp : Lib.hasPrefix s1.data.toList l
                  · have hR : R = (false, true) := by rw [← HR3.out, likeR_some hh, hA]; simp [hqi, hp]
                    have hm := match_off s1.data.toList P.data.toList l q hh hp
                    subst hR
                    have H19 : Hid _ := fun W => match19 s1 P W h1 h5
                    rw [hm] at H19
                    rw [hp] at H17
                    clear hq hm HR3 hh
                    go_wp2_with (first
                      | (go_at_call 16; refine (H16.out _).mono ?_; rintro e w' ⟨rfl, rfl⟩)
                      | (go_at_call 17; refine (H17.out _).mono ?_; rintro e w' ⟨rfl, rfl⟩)
                      | (go_at_call 18; refine (H18.out _).mono ?_; rintro e w' ⟨rfl, rfl⟩)
                      | (go_at_call 19; refine (H19.out _).mono ?_; rintro e w5 ⟨rfl, hb5⟩))
                    go_ret
                    exact ⟨rfl, (hb1.trans (hb2.mono hb1.size)).trans (hb5.mono (Nat.le_trans hb1.size hb2.size))⟩
                  · rw [hp] at H17
                    cases hc : pctL q
                    · have hR : R = (false, false) := by rw [← HR3.out, likeR_some hh, hA]; simp [hqi, hp, hc]
                      subst hR
                      rw [hc] at H18
                      clear hq HR3 hh
                      go_wp2_with (first
                        | (go_at_call 16; refine (H16.out _).mono ?_; rintro e w' ⟨rfl, rfl⟩)
                        | (go_at_call 17; refine (H17.out _).mono ?_; rintro e w' ⟨rfl, rfl⟩)
                        | (go_at_call 18; refine (H18.out _).mono ?_; rintro e w' ⟨rfl, rfl⟩)
                        | (go_at_call 19; refine (H19.out _).mono ?_; rintro e w5 ⟨rfl, hb5⟩))
                      go_ret
                      exact ⟨rfl, hb1.trans (hb2.mono hb1.size)⟩
                    · have hR : R = (true, true) := by rw [← HR3.out, likeR_some hh, hA]; simp [hqi, hp, hc]
                      have hm := match_on s1.data.toList P.data.toList l q hh hq hc hp
                      subst hR
                      rw [hc] at H18
                      have H19 : Hid _ := fun W => match19 s1 P W h1 h5
                      rw [hm] at H19
                      clear hq hm HR3 hh
                      go_wp2_with (first
                        | (go_at_call 16; refine (H16.out _).mono ?_; rintro e w' ⟨rfl, rfl⟩)
                        | (go_at_call 17; refine (H17.out _).mono ?_; rintro e w' ⟨rfl, rfl⟩)
                        | (go_at_call 18; refine (H18.out _).mono ?_; rintro e w' ⟨rfl, rfl⟩)
                        | (go_at_call 19; refine (H19.out _).mono ?_; rintro e w5 ⟨rfl, hb5⟩))
                      go_ret
                      exact ⟨rfl, (hb1.trans (hb2.mono hb1.size)).trans (hb5.mono (Nat.le_trans hb1.size hb2.size))⟩

theorem padT_le (n : Int) (s : ByteArray) : (padT n s).size ≤ s.size := by
  unfold padT
  split
  · show (Lib.trimRightS s.data.toList [32]).toArray.size ≤ _
    have : (Lib.trimRightS s.data.toList [32]).length ≤ s.data.toList.length := by
      unfold Lib.trimRightS
      rw [List.length_reverse]
      exact Nat.le_trans (List.dropWhile_sublist _).length_le (by simp)
    rw [← Lib.size_eq] at this
    simpa using this
  · exact Nat.le_refl _

set_option maxRecDepth 100000 in
set_option maxHeartbeats 2000000 in
/-- Where a text is too long for the law it answers true at once. -/
theorem law5_long (n : Int) (s1 e1 s2 e2 : ByteArray) (c1 x1 y1 c2 x2 y2 : Bool) (w : World) (h1 : s1.size ≤ 140737488355328) (h2 : s2.size ≤ 140737488355328) (h3 : e1.size ≤ 140737488355328) (h4 : e2.size ≤ 140737488355328)
    (h : short12 s1.size e1.size s2.size e2.size = false ∨ 4096 < s1.size ∨ 4096 < s2.size ∨ 65536 < e1.size ∨ 65536 < e2.size) :
    Calls Tryd.prog 5 #[.string s1, .string e1, .bool c1, .bool x1, .bool y1, .string s2, .string e2, .int .u32 n, .bool c2, .bool x2, .bool y2] w fun e w' =>
      e = .returned (.bool true) ∧ Below w.heap.size w w' := by
  have h12 := fun W => bytes12 s1 e1 s2 e2 c1 x1 y1 c2 x2 y2 n W h1 h3 h2 h4
  cases hsh : short12 s1.size e1.size s2.size e2.size
  · rw [hsh] at h12
    have H12 : Hid _ := h12
    clear h12 hsh h
    go_enter Tryd.func5, Tryd.ntmps5
    go_wp2_with (go_at_call 12; refine (H12.out _).mono ?_; rintro e w' ⟨rfl, rfl⟩)
    go_ret
    exact ⟨rfl, Below.refl _ _⟩
  · rw [hsh] at h12 h
    have H12 : Hid _ := h12
    have h' : 4096 < s1.size ∨ 4096 < s2.size ∨ 65536 < e1.size ∨ 65536 < e2.size := by simpa using h
    clear h12 hsh h
    by_cases g1 : 4096 < s1.size
    · have k1 : decide (4096 < (s1.size : Int)) = true := by simp; omega
      go_enter Tryd.func5, Tryd.ntmps5
      go_wp2_with (go_at_call 12; refine (H12.out _).mono ?_; rintro e w' ⟨rfl, rfl⟩)
      go_ret
      exact ⟨rfl, Below.refl _ _⟩
    have k1 : decide (4096 < (s1.size : Int)) = false := by simp; omega
    by_cases g2 : 4096 < s2.size
    · have k2 : decide (4096 < (s2.size : Int)) = true := by simp; omega
      go_enter Tryd.func5, Tryd.ntmps5
      go_wp2_with (go_at_call 12; refine (H12.out _).mono ?_; rintro e w' ⟨rfl, rfl⟩)
      go_ret
      exact ⟨rfl, Below.refl _ _⟩
    have k2 : decide (4096 < (s2.size : Int)) = false := by simp; omega
    by_cases g3 : 65536 < e1.size
    · have k3 : decide (65536 < (e1.size : Int)) = true := by simp; omega
      go_enter Tryd.func5, Tryd.ntmps5
      go_wp2_with (go_at_call 12; refine (H12.out _).mono ?_; rintro e w' ⟨rfl, rfl⟩)
      go_ret
      exact ⟨rfl, Below.refl _ _⟩
    have k3 : decide (65536 < (e1.size : Int)) = false := by simp; omega
    have k4 : decide (65536 < (e2.size : Int)) = true := by simp; omega
    go_enter Tryd.func5, Tryd.ntmps5
    go_wp2_with (go_at_call 12; refine (H12.out _).mono ?_; rintro e w' ⟨rfl, rfl⟩)
    go_ret
    exact ⟨rfl, Below.refl _ _⟩

theorem law5_any (n : Int) (s1 e1 s2 e2 : ByteArray) (c1 x1 y1 c2 x2 y2 : Bool) (w : World) (h1 : s1.size ≤ 140737488355328) (h2 : s2.size ≤ 140737488355328) (h3 : e1.size ≤ 140737488355328) (h4 : e2.size ≤ 140737488355328) :
    Calls Tryd.prog 5 #[.string s1, .string e1, .bool c1, .bool x1, .bool y1, .string s2, .string e2, .int .u32 n, .bool c2, .bool x2, .bool y2] w fun e w' =>
      e = .returned (.bool true) ∧ Below w.heap.size w w' := by
  by_cases h : short12 s1.size e1.size s2.size e2.size = false ∨ 4096 < s1.size ∨ 4096 < s2.size ∨ 65536 < e1.size ∨ 65536 < e2.size
  · exact law5_long n s1 e1 s2 e2 c1 x1 y1 c2 x2 y2 w h1 h2 h3 h4 h
  · refine law5 n s1 e1 s2 e2 c1 x1 y1 c2 x2 y2 w (by omega) (by omega) (by omega) (by omega) ?_
    have := padT_le n s2
    omega
end Go.Proofs.Qxb6602631aDoor
