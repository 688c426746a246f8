/-
  FnFoldedRangesLeadingClassThenTheRest: the law, walked out of the contracts.
-/
import Derived.Test.Qxb6603283aDoorFold
namespace Go.Proofs.Qxb6603283aDoor
open Go.RowKit Go.PlainAid

theorem bytes13 (s : ByteArray) (w : World) (h : s.size ≤ 140737488355328) :
    Calls Tryd.prog 13 #[.string s] w fun e w' => e = .returned (.bool (decide (s.size ≤ 1048576))) ∧ w' = w := by
  go_enter Tryd.func13, Tryd.ntmps13
  go_wp2
  all_goals
    go_ret
    exact ⟨ret_bool (by simp; omega), rfl⟩

theorem zz14 (s : ByteArray) (m : Int) (w : World) (hs : s.size ≤ 2097152) (hw : 0 < w.heap.size) (hm : w.cell? ⟨0, 0, none⟩ = some (.int .i64 m)) :
    Calls Tryd.prog 14 #[.string s] w fun r w' => r = .returned (.int .i64 (fold s.data.toList false)) ∧ Below w.heap.size w w' := by
  have h := fun (W : World) (hw : 0 < W.heap.size) (hm : W.cell? ⟨0, 0, none⟩ = some (.int .i64 m)) => fold21 s m W hs hw hm
  generalize fold s.data.toList false = X at h ⊢
  have H : Hid _ := h
  clear h
  go_enter Tryd.func14, Tryd.ntmps14
  go_wp2_with (go_at_call 21; refine (H.out _ hw hm).mono ?_; rintro e w' ⟨rfl, hb⟩)
  go_ret
  exact ⟨rfl, hb⟩

theorem fold_le : ∀ (n : Nat) (l : List UInt8) (b : Bool), foldF n l b ≤ l.length
  | 0, l, b => by simp [foldF]
  | n + 1, [], b => by simp [foldF]
  | n + 1, c :: r, b => by
    have h1 := fold_le n (quoteL r) b
    have h2 := quoteL_le r
    have h3 := fold_le n r (b || flagI r)
    have h4 := fold_le n ((classL (c :: r)).2.drop 1) b
    have h5 := fold_le n r b
    obtain ⟨v, e1, e2, e3, _⟩ := class_split (c :: r) (by simp)
    have e4 := congrArg List.length e1
    have e5 : cnt (v.drop 2) ≤ v.length - 2 := by
      refine Nat.le_trans List.count_le_length ?_
      rw [List.length_drop]; omega
    simp only [List.length_append, List.length_cons, List.length_drop] at e4 h4
    rw [foldF]
    simp only [List.length_cons]
    split
    · omega
    · split
      · omega
      · split
        · split <;> omega
        · omega
theorem pre_list (s : ByteArray) : ((⟨#[40, 63, 105, 41]⟩ : ByteArray) ++ s).data.toList = 40 :: 63 :: 105 :: 41 :: s.data.toList := by
  rw [ByteArray.data_append, Array.toList_append]; rfl
theorem open_list (s : ByteArray) : ((⟨#[91]⟩ : ByteArray) ++ s).data.toList = 91 :: s.data.toList := by
  rw [ByteArray.data_append, Array.toList_append]; rfl
theorem lead_law (s A R : ByteArray) (hA : A = (⟨#[91]⟩ : ByteArray) ++ s) (e : Nat) (he : ansE A 0 = e) (hR : R.data.toList = A.data.toList.drop (e + 1)) :
    (fold ((⟨#[40, 63, 105, 41]⟩ : ByteArray) ++ A).data.toList false : Int) = ansR A 0 + (fold ((⟨#[40, 63, 105, 41]⟩ : ByteArray) ++ R).data.toList false : Int) ∧ fold ((⟨#[40, 63, 105, 41]⟩ : ByteArray) ++ A).data.toList false ≤ s.size + 5 := by
  have hl : A.data.toList = 91 :: s.data.toList := by rw [hA, open_list]
  have hz : A.size = s.size + 1 := by rw [Lib.size_eq, hl, Lib.size_eq]; rfl
  unfold ansE at he
  unfold ansR
  rw [List.drop_zero] at he ⊢
  refine ⟨?_, ?_⟩
  · rw [pre_list, pre_list, hR, fold_law A (by omega) (by rw [hl]; rfl) e he]
    omega
  · refine Nat.le_trans (fold_le _ _ _) ?_
    rw [pre_list, hl, Lib.size_eq s]
    simp

set_option maxRecDepth 100000 in
set_option maxHeartbeats 4000000 in
theorem law5 (s : ByteArray) (m : Int) (w : World) (h : s.size ≤ 140737488355328) (hw : 0 < w.heap.size) (hm : w.cell? ⟨0, 0, none⟩ = some (.int .i64 m)) :
    Calls Tryd.prog 5 #[.string s] w fun e w' => e = .returned (.bool true) ∧ Below w.heap.size w w' := by
  have h9 := fun W => bytes13 s W h
  cases hd : decide (s.size ≤ 1048576)
  · rw [hd] at h9
    have H9 : Hid _ := h9
    clear h9 hd
    go_enter Tryd.func5, Tryd.ntmps5
    go_wp2_with (go_at_call 13; refine (H9.out _).mono ?_; rintro e w' ⟨rfl, rfl⟩)
    go_ret
    exact ⟨rfl, Below.refl _ _⟩
  have hs : s.size ≤ 1048576 := by simpa using hd
  rw [hd] at h9
  have H9 : Hid _ := h9
  clear h9 hd
  have hsi : ¬ (1048576 : Int) < (s.size : Int) := by omega
  obtain ⟨A, hA⟩ : ∃ A, A = (⟨#[91]⟩ : ByteArray) ++ s := ⟨_, rfl⟩
  have hAl : A.data.toList = 91 :: s.data.toList := by rw [hA, open_list]
  have hAs : A.size = s.size + 1 := by rw [Lib.size_eq, hAl, Lib.size_eq]; rfl
  have h10 := fun W => zz10 A 0 W (by omega) (by omega)
  have be := ansE_bounds A 0 (by omega)
  have br := ansR_bounds A 0
  obtain ⟨e, he⟩ : ∃ e : Nat, ansE A 0 = e := ⟨(ansE A 0).toNat, by omega⟩
  have hlaw := fun R => lead_law s A R hA e he
  have hFA := fun (W : World) (hw : 0 < W.heap.size) (hm : W.cell? ⟨0, 0, none⟩ = some (.int .i64 m)) => zz14 ((⟨#[40, 63, 105, 41]⟩ : ByteArray) ++ A) m W (by rw [Lib.size_eq, pre_list, hAl]; simp; omega) hw hm
  rw [he] at h10 be
  generalize ansR A 0 = r at *
  generalize fold ((⟨#[40, 63, 105, 41]⟩ : ByteArray) ++ A).data.toList false = X at hlaw hFA
  by_cases hlt : e < A.size
  · have hB : ∃ R : ByteArray, R = A.extract (e + 1) A.size := ⟨_, rfl⟩
    obtain ⟨R, hR⟩ := hB
    have hl := hlaw R (by rw [hR, cut_end])
    have hRs : R.size ≤ A.size := by rw [hR]; simp
    have hFR := fun (W : World) (hw : 0 < W.heap.size) (hm : W.cell? ⟨0, 0, none⟩ = some (.int .i64 m)) => zz14 ((⟨#[40, 63, 105, 41]⟩ : ByteArray) ++ R) m W (by rw [Lib.size_eq, pre_list]; simp; omega) hw hm
    generalize fold ((⟨#[40, 63, 105, 41]⟩ : ByteArray) ++ R).data.toList false = Y at hl hFR
    have hlti : (e : Int) < (A.size : Int) := by omega
    rw [hR, hAs] at hFR
    clear hR hRs
    have H10 : Hid _ := h10
    have HFA : Hid _ := hFA
    have HFR : Hid _ := hFR
    obtain ⟨hl1, hl2⟩ := hl
    clear h10 hFA hFR hlaw he hAl
    go_enter Tryd.func5, Tryd.ntmps5
    go_upto_region 5 with (go_at_call 13; refine (H9.out _).mono ?_; rintro e w' ⟨rfl, rfl⟩)
    go_cut [3] (fun v wz => v = .string A ∧ wz = w')
    case first =>
      go_wp2
      go_meet
      exact ⟨by rw [hA], rfl⟩
    case rest =>
      obtain ⟨rfl, rfl⟩ := hcut
      clear hA
      go_wp2_with (first
        | (go_at_call 10; refine (H10.out _).mono ?_; rintro e w1 ⟨rfl, hb1⟩)
        | (go_at_call_of 14 (Value.string ((⟨#[40, 63, 105, 41]⟩ : ByteArray) ++ A)); refine (HFA.out _ (Nat.lt_of_lt_of_le hw hb1.size) ((hb1.cell hw).trans hm)).mono ?_; rintro e w2 ⟨rfl, hb2⟩)
        | (go_at_call 14; refine (HFR.out _ (Nat.lt_of_lt_of_le hw (Nat.le_trans hb1.size hb2.size)) (((hb2.cell (Nat.lt_of_lt_of_le hw hb1.size)).trans (hb1.cell hw)).trans hm)).mono ?_; rintro e w3 ⟨rfl, hb3⟩))
      go_ret
      exact ⟨rfl, (hb1.trans (hb2.mono hb1.size)).trans (hb3.mono (Nat.le_trans hb1.size hb2.size))⟩
  · obtain ⟨R, hR⟩ : ∃ R : ByteArray, R = ⟨#[]⟩ := ⟨_, rfl⟩
    have hl := hlaw R (by rw [hR, drop_all A _ (by omega)])
    have hFR := fun (W : World) (hw : 0 < W.heap.size) (hm : W.cell? ⟨0, 0, none⟩ = some (.int .i64 m)) => zz14 ((⟨#[40, 63, 105, 41]⟩ : ByteArray) ++ R) m W (by rw [Lib.size_eq, pre_list, hR]; simp) hw hm
    generalize fold ((⟨#[40, 63, 105, 41]⟩ : ByteArray) ++ R).data.toList false = Y at hl hFR
    rw [hR] at hFR
    clear hR
    have hlti : ¬ (e : Int) < (A.size : Int) := by omega
    have hltd : decide (e < A.size) = false := by simp; omega
    have H10 : Hid _ := h10
    have HFA : Hid _ := hFA
    have HFR : Hid _ := hFR
    obtain ⟨hl1, hl2⟩ := hl
    clear h10 hFA hFR hlaw he hAl
    go_enter Tryd.func5, Tryd.ntmps5
    go_upto_region 5 with (go_at_call 13; refine (H9.out _).mono ?_; rintro e w' ⟨rfl, rfl⟩)
    go_cut [3] (fun v wz => v = .string A ∧ wz = w')
    case first =>
      go_wp2
      go_meet
      exact ⟨by rw [hA], rfl⟩
    case rest =>
      obtain ⟨rfl, rfl⟩ := hcut
      clear hA
      go_wp2_with (first
        | (go_at_call 10; refine (H10.out _).mono ?_; rintro e w1 ⟨rfl, hb1⟩)
        | (go_at_call_of 14 (Value.string ((⟨#[40, 63, 105, 41]⟩ : ByteArray) ++ A)); refine (HFA.out _ (Nat.lt_of_lt_of_le hw hb1.size) ((hb1.cell hw).trans hm)).mono ?_; rintro e w2 ⟨rfl, hb2⟩)
        | (go_at_call 14; refine (HFR.out _ (Nat.lt_of_lt_of_le hw (Nat.le_trans hb1.size hb2.size)) (((hb2.cell (Nat.lt_of_lt_of_le hw hb1.size)).trans (hb1.cell hw)).trans hm)).mono ?_; rintro e w3 ⟨rfl, hb3⟩))
      go_ret
      exact ⟨rfl, (hb1.trans (hb2.mono hb1.size)).trans (hb3.mono (Nat.le_trans hb1.size hb2.size))⟩
end Go.Proofs.Qxb6603283aDoor
