/-
  alone, walked: it gives the one plain answer.
-/
import Derived.Test.Qxb6603100aDoorWalk
namespace Go.Proofs.Qxb6603100aDoor
open Go.RowKit Go.PlainAid

theorem empty (r : ByteArray) (h : r.size = 0) : r.toList.isEmpty = true := by
  have e : r.data.toList = [] := List.eq_nil_of_length_eq_zero (by rw [← Lib.size_eq]; exact h)
  rw [Lib.toList_data, e]; rfl
theorem full (r : ByteArray) (h : 0 < r.size) : r.toList.isEmpty = false := by
  rw [Lib.toList_data]
  cases h' : r.data.toList with
  | nil => rw [Lib.size_eq, h'] at h; simp at h
  | cons a l => rfl

/-- The rest begins with a carriage return and a newline, by the bytes. -/
theorem pre_crlf (s : ByteArray) (k : Nat) (hk : k < s.size) : Lib.hasPrefix (s.extract k s.size).data.toList [13, 10] = ((bt s k == 13) && (decide (k + 1 < s.size) && (bt s (k + 1) == 10))) := by
  have hd : (s.extract k s.size).data.toList = s.data.toList.drop k := by
    rw [Lib.extract_data]
    exact List.take_of_length_le (by rw [List.length_drop, ← Lib.size_eq]; omega)
  have hl : k < s.data.toList.length := by rw [← Lib.size_eq]; exact hk
  have b0 := list_bt s k _ (List.getElem?_eq_getElem hl)
  have u8 : ∀ (c d : UInt8), (c == d) = ((d.toNat : Int) == (c.toNat : Int)) := fun c d => by
    rw [Bool.eq_iff_iff]; simp only [beq_iff_eq]
    exact ⟨fun h => by rw [h], fun h => (UInt8.toNat.inj (by omega)).symm⟩
  rw [hd, List.drop_eq_getElem_cons hl, b0]
  by_cases h1 : k + 1 < s.size
  · have hl1 : k + 1 < s.data.toList.length := by rw [← Lib.size_eq]; exact h1
    have b1 := list_bt s (k + 1) _ (List.getElem?_eq_getElem hl1)
    rw [List.drop_eq_getElem_cons hl1, b1, decide_eq_true h1]
    simp only [Lib.hasPrefix, List.isPrefixOf, Bool.true_and, Bool.and_true]
    rw [u8 13 _, u8 10 _]
    rfl
  · have : s.data.toList.drop (k + 1) = [] := List.drop_of_length_le (by rw [← Lib.size_eq]; omega)
    rw [this, decide_eq_false h1]
    simp [Lib.hasPrefix, List.isPrefixOf]
theorem ans_nocrlf {s : ByteArray} {a j k : Nat} (h : badL s a j = false) (hk : ¬ k = s.size) (h1 : (bt s k == 10) = false) (hp : Lib.hasPrefix (s.extract k s.size).data.toList [13, 10] = false) : ans s a j k = (0, 0, false) := by
  by_cases hlt : k < s.size
  · rw [pre_crlf s k hlt] at hp
    unfold ans; rw [if_neg (by rw [h]; decide), if_neg hk, if_neg (by rw [h1]; decide), hp]; rfl
  · have : bt s k = 0 := bt_end s (by omega)
    unfold ans; rw [if_neg (by rw [h]; decide), if_neg hk, if_neg (by rw [h1]; decide), this]; rfl
theorem ans_iscrlf {s : ByteArray} {a j k : Nat} (h : badL s a j = false) (hk : ¬ k = s.size) (h1 : (bt s k == 10) = false) (hp : Lib.hasPrefix (s.extract k s.size).data.toList [13, 10] = true) : ans s a j k = ((j : Int), (k : Int) + 2, true) := by
  by_cases hlt : k < s.size
  · rw [pre_crlf s k hlt] at hp
    unfold ans; rw [if_neg (by rw [h]; decide), if_neg hk, if_neg (by rw [h1]; decide), hp]; rfl
  · have hd : (s.extract k s.size).data.toList = [] := by
      rw [Lib.extract_data, List.drop_of_length_le (by rw [← Lib.size_eq]; omega)]; simp
    rw [hd] at hp; cases hp

theorem bad_of_some {s : ByteArray} {a b j i : Nat} (J : Jc s a b j) (hno : ∀ x, a + i < x → x < b → bt s x ≠ 10) (hn : ¬ ∀ x, a + i + 1 ≤ x → x < b → blk (bt s x) = true) : badL s a j = true := by
  have hj : a + i + 1 < j := by
    rcases Nat.lt_or_ge (a + i + 1) j with h | h
    · exact h
    · exact absurd (fun x h1 h2 => J.all x (by omega) h2) hn
  unfold badL
  rw [if_pos (by omega)]
  have h10 := hno (j - 1) (by omega) (by have := J.hi; omega)
  simpa using h10
theorem bad_of_none {s : ByteArray} {a b j : Nat} (J : Jc s a b j) (hno : ∀ x, a ≤ x → x < b → bt s x ≠ 10) (hj : a < j) : badL s a j = true := by
  unfold badL
  rw [if_pos hj]
  have h10 := hno (j - 1) (by omega) (by have := J.hi; omega)
  simpa using h10
theorem lt_of_not {s : ByteArray} {a b j : Nat} (J : Jc s a b j) (hn : ¬ ∀ x, a ≤ x → x < b → blk (bt s x) = true) : a < j := by
  rcases Nat.lt_or_ge a j with h | h
  · exact h
  · exact absurd (fun x h1 h2 => J.all x (by omega) h2) hn

set_option maxRecDepth 100000 in
set_option maxHeartbeats 4000000 in
theorem alone9 (s : ByteArray) (a b e j k : Nat) (w : World) (hs : s.size ≤ 1048576) (hab : a ≤ b) (hbs : b ≤ s.size) (hes : e ≤ s.size) (J : Jc s a b j) (K : Kc s e k) :
    Calls Tryd.prog 9 #[.string s, .int .i64 a, .int .i64 b, .int .i64 e] w fun r w' => r = .returned (.tuple #[.int .i64 (ans s a j k).1, .int .i64 (ans s a j k).2.1, .bool (ans s a j k).2.2]) ∧ Below w.heap.size w w' := by
  have hb := get_bt s
  have HK : Hid _ := K
  have k1 := K.lo; have k2 := K.hi
  have h11 := fun W => Tryd.strings_LastIndexByte (s.extract a b) 10 (by simp; omega) W
  have hai : (a : Int) ≤ (b : Int) := by omega
  have hbi : (b : Int) ≤ (s.size : Int) := by omega
  have hei : (e : Int) ≤ (s.size : Int) := by omega
  rcases last_cut s a b hab hbs with ⟨hL, hno⟩ | ⟨i, hi, hL, hten, hno⟩
  · rw [hL] at h11
    have H11 : Hid _ := h11
    have HNO : Hid _ := hno
    clear h11 hL hno
    by_cases ha0 : a = 0
    · have da : ((a : Int) == 0) = true := by simp; omega
      have HZ : Hid _ := ha0
      clear ha0
      have hFb : a ≤ b := by omega
      have tc := trim_cut s a b hFb hbs
      have h12 := fun W => Tryd.strings_Trim_set (s.extract a b) ⟨#[32, 9]⟩ W (by simp; omega) (by decide) (ascii_of_all (by decide))
      rw [show (⟨#[32, 9]⟩ : ByteArray).data.toList = [32, 9] from rfl] at h12
      cases hz : (Lib.trimS (s.extract a b).data.toList [32, 9]).isEmpty
      · have hbad : badL s a j = true := bad_of_none J HNO.out (lt_of_not J (fun hh => by rw [tc.2 hh] at hz; cases hz))
        have HA : Hid _ := ans_bad (k := k) hbad
        generalize Lib.trimS (s.extract a b).data.toList [32, 9] = zz at h12 hz
        have H12 : Hid _ := h12
        clear h12 tc
        go_enter Tryd.func9, Tryd.ntmps9
        go_wp2_with (first
          | (go_at_call 11; refine (H11.out _).mono ?_; rintro e w' ⟨rfl, rfl⟩)
          | (go_at_call 12; refine (H12.out _).mono ?_; rintro e w1 ⟨rfl, hb1⟩)
          | (go_at_call 13; refine (H13.out _).mono ?_; rintro e w2 ⟨rfl, hb2⟩)
          | (go_at_call 14; refine (H14.out _).mono ?_; rintro e w' ⟨rfl, rfl⟩))
        go_ret3
        exact ⟨ret3 HA.out, hb1⟩
      · have hall := tc.1 hz
        have hj : j = a := J.unique ⟨Nat.le_refl _, hab, hall, .inl rfl⟩
        have hbad : badL s a j = false := by unfold badL; rw [if_neg (by omega), HZ.out]; rfl
        generalize Lib.trimS (s.extract a b).data.toList [32, 9] = zz at h12 hz
        have H12 : Hid _ := h12
        have HJF : Hid _ := hj
        have HB : Hid _ := hbad
        clear h12 tc hall hj hbad
        have h13 := fun W => Tryd.strings_TrimLeft_set (s.extract e s.size) ⟨#[32, 9]⟩ W (by decide) (ascii_of_all (by decide))
        rw [show (⟨#[32, 9]⟩ : ByteArray).data.toList = [32, 9] from rfl, trim_left s e k HK.out] at h13
        have hr : ∃ r : ByteArray, r = s.extract k s.size := ⟨_, rfl⟩
        obtain ⟨r, hr⟩ := hr
        rw [← hr] at h13
        have hrs : r.size = s.size - k := by rw [hr]; simp
        have H13 : Hid _ := h13
        have h14 := fun W => Tryd.strings_HasPrefix r ⟨#[13, 10]⟩ W
        rw [show (⟨#[13, 10]⟩ : ByteArray).data.toList = [13, 10] from rfl] at h14
        have hbr := get_bt r
        have hns : (s.size : Int) - (r.size : Int) = (k : Int) := by omega
        clear h13
        by_cases hend : k = s.size
        · have hre := empty r (by omega)
          have HA : Hid _ := ans_end (a := a) HB.out hend
          have HE : Hid _ := hend
          clear hend h14 hr hrs
          go_enter Tryd.func9, Tryd.ntmps9
          go_wp2_with (first
            | (go_at_call 11; refine (H11.out _).mono ?_; rintro e w' ⟨rfl, rfl⟩)
            | (go_at_call 12; refine (H12.out _).mono ?_; rintro e w1 ⟨rfl, hb1⟩)
            | (go_at_call 13; refine (H13.out _).mono ?_; rintro e w2 ⟨rfl, hb2⟩)
            | (go_at_call 14; refine (H14.out _).mono ?_; rintro e w' ⟨rfl, rfl⟩))
          go_ret3
          exact ⟨ret3 (by rw [HA.out, HJF.out] <;> simp), hb1.trans (hb2.mono hb1.size)⟩
        have hrf := full r (by omega)
        have hr0 : (0 : Int) < (r.size : Int) := by omega
        have e0 : bt r 0 = bt s k := by rw [hr]; exact cut_bt s k s.size 0 (by omega) (Nat.le_refl _) (by omega)
        cases h10 : (bt s k == 10)
        · have hq : (bt r 0 == 10) = false := by rw [e0]; exact h10
          cases hp : Lib.hasPrefix r.data.toList [13, 10]
          · rw [hp] at h14
            have H14 : Hid _ := h14
            have HA : Hid _ := ans_nocrlf (a := a) HB.out hend h10 (by rw [← hr]; exact hp)
            have HR : Hid _ := hr
            clear h14 hr hrs e0 hend
            go_enter Tryd.func9, Tryd.ntmps9
            go_wp2_with (first
              | (go_at_call 11; refine (H11.out _).mono ?_; rintro e w' ⟨rfl, rfl⟩)
              | (go_at_call 12; refine (H12.out _).mono ?_; rintro e w1 ⟨rfl, hb1⟩)
              | (go_at_call 13; refine (H13.out _).mono ?_; rintro e w2 ⟨rfl, hb2⟩)
              | (go_at_call 14; refine (H14.out _).mono ?_; rintro e w' ⟨rfl, rfl⟩))
            go_ret3
            exact ⟨ret3 HA.out, hb1.trans (hb2.mono hb1.size)⟩
          · rw [hp] at h14
            have H14 : Hid _ := h14
            have HA : Hid _ := ans_iscrlf (a := a) HB.out hend h10 (by rw [← hr]; exact hp)
            have HR : Hid _ := hr
            clear h14 hr hrs e0 hend
            go_enter Tryd.func9, Tryd.ntmps9
            go_wp2_with (first
              | (go_at_call 11; refine (H11.out _).mono ?_; rintro e w' ⟨rfl, rfl⟩)
              | (go_at_call 12; refine (H12.out _).mono ?_; rintro e w1 ⟨rfl, hb1⟩)
              | (go_at_call 13; refine (H13.out _).mono ?_; rintro e w2 ⟨rfl, hb2⟩)
              | (go_at_call 14; refine (H14.out _).mono ?_; rintro e w' ⟨rfl, rfl⟩))
            go_ret3
            exact ⟨ret3 (by rw [HA.out, HJF.out] <;> simp), hb1.trans (hb2.mono hb1.size)⟩
        · have hq : (bt r 0 == 10) = true := by rw [e0]; exact h10
          have HA : Hid _ := ans_nl (a := a) HB.out hend h10
          have HR : Hid _ := hr
          clear h14 hr hrs e0 hend
          go_enter Tryd.func9, Tryd.ntmps9
          go_wp2_with (first
            | (go_at_call 11; refine (H11.out _).mono ?_; rintro e w' ⟨rfl, rfl⟩)
            | (go_at_call 12; refine (H12.out _).mono ?_; rintro e w1 ⟨rfl, hb1⟩)
            | (go_at_call 13; refine (H13.out _).mono ?_; rintro e w2 ⟨rfl, hb2⟩)
            | (go_at_call 14; refine (H14.out _).mono ?_; rintro e w' ⟨rfl, rfl⟩))
          go_ret3
          exact ⟨ret3 (by rw [HA.out, HJF.out] <;> simp), hb1.trans (hb2.mono hb1.size)⟩
    have da : ((a : Int) == 0) = false := by simp; omega
    have ha1 : (0 : Int) ≤ (a : Int) - 1 := by omega
    have ha2 : (a : Int) - 1 < (s.size : Int) := by omega
    have hz0 : (!(a == 0)) = true := by simp; omega
    cases hnl : (bt s (a - 1) == 10)
    · have hbad : badL s a j = true := by
        by_cases haj : a < j
        · exact bad_of_none J HNO.out haj
        · unfold badL; rw [if_neg haj, hz0]; simp [bne, hnl]
      have HA : Hid _ := ans_bad (k := k) hbad
      clear hbad hz0
      go_enter Tryd.func9, Tryd.ntmps9
      go_wp2_with (go_at_call 11; refine (H11.out _).mono ?_; rintro e w' ⟨rfl, rfl⟩)
      go_ret3
      exact ⟨ret3 HA.out, Below.refl _ _⟩
    · have HZ : Hid _ := hz0
      clear hz0
      have hFb : a ≤ b := by omega
      have tc := trim_cut s a b hFb hbs
      have h12 := fun W => Tryd.strings_Trim_set (s.extract a b) ⟨#[32, 9]⟩ W (by simp; omega) (by decide) (ascii_of_all (by decide))
      rw [show (⟨#[32, 9]⟩ : ByteArray).data.toList = [32, 9] from rfl] at h12
      cases hz : (Lib.trimS (s.extract a b).data.toList [32, 9]).isEmpty
      · have hbad : badL s a j = true := bad_of_none J HNO.out (lt_of_not J (fun hh => by rw [tc.2 hh] at hz; cases hz))
        have HA : Hid _ := ans_bad (k := k) hbad
        generalize Lib.trimS (s.extract a b).data.toList [32, 9] = zz at h12 hz
        have H12 : Hid _ := h12
        clear h12 tc
        go_enter Tryd.func9, Tryd.ntmps9
        go_wp2_with (first
          | (go_at_call 11; refine (H11.out _).mono ?_; rintro e w' ⟨rfl, rfl⟩)
          | (go_at_call 12; refine (H12.out _).mono ?_; rintro e w1 ⟨rfl, hb1⟩)
          | (go_at_call 13; refine (H13.out _).mono ?_; rintro e w2 ⟨rfl, hb2⟩)
          | (go_at_call 14; refine (H14.out _).mono ?_; rintro e w' ⟨rfl, rfl⟩))
        go_ret3
        exact ⟨ret3 HA.out, hb1⟩
      · have hall := tc.1 hz
        have hj : j = a := J.unique ⟨Nat.le_refl _, hab, hall, .inl rfl⟩
        have hbad : badL s a j = false := by unfold badL; rw [if_neg (by omega), HZ.out]; simp [bne, hnl]
        generalize Lib.trimS (s.extract a b).data.toList [32, 9] = zz at h12 hz
        have H12 : Hid _ := h12
        have HJF : Hid _ := hj
        have HB : Hid _ := hbad
        clear h12 tc hall hj hbad
        have h13 := fun W => Tryd.strings_TrimLeft_set (s.extract e s.size) ⟨#[32, 9]⟩ W (by decide) (ascii_of_all (by decide))
        rw [show (⟨#[32, 9]⟩ : ByteArray).data.toList = [32, 9] from rfl, trim_left s e k HK.out] at h13
        have hr : ∃ r : ByteArray, r = s.extract k s.size := ⟨_, rfl⟩
        obtain ⟨r, hr⟩ := hr
        rw [← hr] at h13
        have hrs : r.size = s.size - k := by rw [hr]; simp
        have H13 : Hid _ := h13
        have h14 := fun W => Tryd.strings_HasPrefix r ⟨#[13, 10]⟩ W
        rw [show (⟨#[13, 10]⟩ : ByteArray).data.toList = [13, 10] from rfl] at h14
        have hbr := get_bt r
        have hns : (s.size : Int) - (r.size : Int) = (k : Int) := by omega
        clear h13
        by_cases hend : k = s.size
        · have hre := empty r (by omega)
          have HA : Hid _ := ans_end (a := a) HB.out hend
          have HE : Hid _ := hend
          clear hend h14 hr hrs
          go_enter Tryd.func9, Tryd.ntmps9
          go_wp2_with (first
            | (go_at_call 11; refine (H11.out _).mono ?_; rintro e w' ⟨rfl, rfl⟩)
            | (go_at_call 12; refine (H12.out _).mono ?_; rintro e w1 ⟨rfl, hb1⟩)
            | (go_at_call 13; refine (H13.out _).mono ?_; rintro e w2 ⟨rfl, hb2⟩)
            | (go_at_call 14; refine (H14.out _).mono ?_; rintro e w' ⟨rfl, rfl⟩))
          go_ret3
          exact ⟨ret3 (by rw [HA.out, HJF.out] <;> simp), hb1.trans (hb2.mono hb1.size)⟩
        have hrf := full r (by omega)
        have hr0 : (0 : Int) < (r.size : Int) := by omega
        have e0 : bt r 0 = bt s k := by rw [hr]; exact cut_bt s k s.size 0 (by omega) (Nat.le_refl _) (by omega)
        cases h10 : (bt s k == 10)
        · have hq : (bt r 0 == 10) = false := by rw [e0]; exact h10
          cases hp : Lib.hasPrefix r.data.toList [13, 10]
          · rw [hp] at h14
            have H14 : Hid _ := h14
            have HA : Hid _ := ans_nocrlf (a := a) HB.out hend h10 (by rw [← hr]; exact hp)
            have HR : Hid _ := hr
            clear h14 hr hrs e0 hend
            go_enter Tryd.func9, Tryd.ntmps9
            go_wp2_with (first
              | (go_at_call 11; refine (H11.out _).mono ?_; rintro e w' ⟨rfl, rfl⟩)
              | (go_at_call 12; refine (H12.out _).mono ?_; rintro e w1 ⟨rfl, hb1⟩)
              | (go_at_call 13; refine (H13.out _).mono ?_; rintro e w2 ⟨rfl, hb2⟩)
              | (go_at_call 14; refine (H14.out _).mono ?_; rintro e w' ⟨rfl, rfl⟩))
            go_ret3
            exact ⟨ret3 HA.out, hb1.trans (hb2.mono hb1.size)⟩
          · rw [hp] at h14
            have H14 : Hid _ := h14
            have HA : Hid _ := ans_iscrlf (a := a) HB.out hend h10 (by rw [← hr]; exact hp)
            have HR : Hid _ := hr
            clear h14 hr hrs e0 hend
            go_enter Tryd.func9, Tryd.ntmps9
            go_wp2_with (first
              | (go_at_call 11; refine (H11.out _).mono ?_; rintro e w' ⟨rfl, rfl⟩)
              | (go_at_call 12; refine (H12.out _).mono ?_; rintro e w1 ⟨rfl, hb1⟩)
              | (go_at_call 13; refine (H13.out _).mono ?_; rintro e w2 ⟨rfl, hb2⟩)
              | (go_at_call 14; refine (H14.out _).mono ?_; rintro e w' ⟨rfl, rfl⟩))
            go_ret3
            exact ⟨ret3 (by rw [HA.out, HJF.out] <;> simp), hb1.trans (hb2.mono hb1.size)⟩
        · have hq : (bt r 0 == 10) = true := by rw [e0]; exact h10
          have HA : Hid _ := ans_nl (a := a) HB.out hend h10
          have HR : Hid _ := hr
          clear h14 hr hrs e0 hend
          go_enter Tryd.func9, Tryd.ntmps9
          go_wp2_with (first
            | (go_at_call 11; refine (H11.out _).mono ?_; rintro e w' ⟨rfl, rfl⟩)
            | (go_at_call 12; refine (H12.out _).mono ?_; rintro e w1 ⟨rfl, hb1⟩)
            | (go_at_call 13; refine (H13.out _).mono ?_; rintro e w2 ⟨rfl, hb2⟩)
            | (go_at_call 14; refine (H14.out _).mono ?_; rintro e w' ⟨rfl, rfl⟩))
          go_ret3
          exact ⟨ret3 (by rw [HA.out, HJF.out] <;> simp), hb1.trans (hb2.mono hb1.size)⟩
  · rw [hL] at h11
    have H11 : Hid _ := h11
    have HNO : Hid _ := hno
    have HT : Hid _ := hten
    clear h11 hL hno hten
    have hi2 : (a : Int) + (i : Int) < (b : Int) := by omega
    have hFb : (a + i + 1) ≤ b := by omega
    have tc := trim_cut s (a + i + 1) b hFb hbs
    have h12 := fun W => Tryd.strings_Trim_set (s.extract (a + i + 1) b) ⟨#[32, 9]⟩ W (by simp; omega) (by decide) (ascii_of_all (by decide))
    rw [show (⟨#[32, 9]⟩ : ByteArray).data.toList = [32, 9] from rfl] at h12
    cases hz : (Lib.trimS (s.extract (a + i + 1) b).data.toList [32, 9]).isEmpty
    · have hbad : badL s a j = true := bad_of_some J HNO.out (fun hh => by rw [tc.2 hh] at hz; cases hz)
      have HA : Hid _ := ans_bad (k := k) hbad
      generalize Lib.trimS (s.extract (a + i + 1) b).data.toList [32, 9] = zz at h12 hz
      have H12 : Hid _ := h12
      clear h12 tc
      go_enter Tryd.func9, Tryd.ntmps9
      go_wp2_with (first
        | (go_at_call 11; refine (H11.out _).mono ?_; rintro e w' ⟨rfl, rfl⟩)
        | (go_at_call 12; refine (H12.out _).mono ?_; rintro e w1 ⟨rfl, hb1⟩)
        | (go_at_call 13; refine (H13.out _).mono ?_; rintro e w2 ⟨rfl, hb2⟩)
        | (go_at_call 14; refine (H14.out _).mono ?_; rintro e w' ⟨rfl, rfl⟩))
      go_ret3
      exact ⟨ret3 HA.out, hb1⟩
    · have hall := tc.1 hz
      have hj : j = (a + i + 1) := J.unique ⟨by omega, by omega, hall, .inr (by rw [show a + i + 1 - 1 = a + i by omega, HT.out]; rfl)⟩
      have hbad : badL s a j = false := by unfold badL; rw [if_pos (by omega), hj, show a + i + 1 - 1 = a + i by omega, HT.out]; rfl
      generalize Lib.trimS (s.extract (a + i + 1) b).data.toList [32, 9] = zz at h12 hz
      have H12 : Hid _ := h12
      have HJF : Hid _ := hj
      have HB : Hid _ := hbad
      clear h12 tc hall hj hbad
      have h13 := fun W => Tryd.strings_TrimLeft_set (s.extract e s.size) ⟨#[32, 9]⟩ W (by decide) (ascii_of_all (by decide))
      rw [show (⟨#[32, 9]⟩ : ByteArray).data.toList = [32, 9] from rfl, trim_left s e k HK.out] at h13
      have hr : ∃ r : ByteArray, r = s.extract k s.size := ⟨_, rfl⟩
      obtain ⟨r, hr⟩ := hr
      rw [← hr] at h13
      have hrs : r.size = s.size - k := by rw [hr]; simp
      have H13 : Hid _ := h13
      have h14 := fun W => Tryd.strings_HasPrefix r ⟨#[13, 10]⟩ W
      rw [show (⟨#[13, 10]⟩ : ByteArray).data.toList = [13, 10] from rfl] at h14
      have hbr := get_bt r
      have hns : (s.size : Int) - (r.size : Int) = (k : Int) := by omega
      clear h13
      by_cases hend : k = s.size
      · have hre := empty r (by omega)
        have HA : Hid _ := ans_end (a := a) HB.out hend
        have HE : Hid _ := hend
        clear hend h14 hr hrs
        go_enter Tryd.func9, Tryd.ntmps9
        go_wp2_with (first
          | (go_at_call 11; refine (H11.out _).mono ?_; rintro e w' ⟨rfl, rfl⟩)
          | (go_at_call 12; refine (H12.out _).mono ?_; rintro e w1 ⟨rfl, hb1⟩)
          | (go_at_call 13; refine (H13.out _).mono ?_; rintro e w2 ⟨rfl, hb2⟩)
          | (go_at_call 14; refine (H14.out _).mono ?_; rintro e w' ⟨rfl, rfl⟩))
        go_ret3
        exact ⟨ret3 (by rw [HA.out, HJF.out] <;> simp), hb1.trans (hb2.mono hb1.size)⟩
      have hrf := full r (by omega)
      have hr0 : (0 : Int) < (r.size : Int) := by omega
      have e0 : bt r 0 = bt s k := by rw [hr]; exact cut_bt s k s.size 0 (by omega) (Nat.le_refl _) (by omega)
      cases h10 : (bt s k == 10)
      · have hq : (bt r 0 == 10) = false := by rw [e0]; exact h10
        cases hp : Lib.hasPrefix r.data.toList [13, 10]
        · rw [hp] at h14
          have H14 : Hid _ := h14
          have HA : Hid _ := ans_nocrlf (a := a) HB.out hend h10 (by rw [← hr]; exact hp)
          have HR : Hid _ := hr
          clear h14 hr hrs e0 hend
          go_enter Tryd.func9, Tryd.ntmps9
          go_wp2_with (first
            | (go_at_call 11; refine (H11.out _).mono ?_; rintro e w' ⟨rfl, rfl⟩)
            | (go_at_call 12; refine (H12.out _).mono ?_; rintro e w1 ⟨rfl, hb1⟩)
            | (go_at_call 13; refine (H13.out _).mono ?_; rintro e w2 ⟨rfl, hb2⟩)
            | (go_at_call 14; refine (H14.out _).mono ?_; rintro e w' ⟨rfl, rfl⟩))
          go_ret3
          exact ⟨ret3 HA.out, hb1.trans (hb2.mono hb1.size)⟩
        · rw [hp] at h14
          have H14 : Hid _ := h14
          have HA : Hid _ := ans_iscrlf (a := a) HB.out hend h10 (by rw [← hr]; exact hp)
          have HR : Hid _ := hr
          clear h14 hr hrs e0 hend
          go_enter Tryd.func9, Tryd.ntmps9
          go_wp2_with (first
            | (go_at_call 11; refine (H11.out _).mono ?_; rintro e w' ⟨rfl, rfl⟩)
            | (go_at_call 12; refine (H12.out _).mono ?_; rintro e w1 ⟨rfl, hb1⟩)
            | (go_at_call 13; refine (H13.out _).mono ?_; rintro e w2 ⟨rfl, hb2⟩)
            | (go_at_call 14; refine (H14.out _).mono ?_; rintro e w' ⟨rfl, rfl⟩))
          go_ret3
          exact ⟨ret3 (by rw [HA.out, HJF.out] <;> simp), hb1.trans (hb2.mono hb1.size)⟩
      · have hq : (bt r 0 == 10) = true := by rw [e0]; exact h10
        have HA : Hid _ := ans_nl (a := a) HB.out hend h10
        have HR : Hid _ := hr
        clear h14 hr hrs e0 hend
        go_enter Tryd.func9, Tryd.ntmps9
        go_wp2_with (first
          | (go_at_call 11; refine (H11.out _).mono ?_; rintro e w' ⟨rfl, rfl⟩)
          | (go_at_call 12; refine (H12.out _).mono ?_; rintro e w1 ⟨rfl, hb1⟩)
          | (go_at_call 13; refine (H13.out _).mono ?_; rintro e w2 ⟨rfl, hb2⟩)
          | (go_at_call 14; refine (H14.out _).mono ?_; rintro e w' ⟨rfl, rfl⟩))
        go_ret3
        exact ⟨ret3 (by rw [HA.out, HJF.out] <;> simp), hb1.trans (hb2.mono hb1.size)⟩
end Go.Proofs.Qxb6603100aDoor
