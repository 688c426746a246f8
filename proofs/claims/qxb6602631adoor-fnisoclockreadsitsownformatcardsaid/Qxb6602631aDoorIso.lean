/-
  isoClock at a clock's own text and a tail, walked.
-/
import Derived.Test.Qxb6602631aDoorIsoParts
import Derived.Deep.RegionHeld3
import Derived.Deep.DeepCutAuto
namespace Go.Proofs.Qxb6602631aDoor.Iso
open Go.RowKit Go.PlainAid

theorem ret3_eq {a b : Int} {x y : ByteArray} {z : Bool} (h : a = b) (h2 : x = y) : Ending.returned (.tuple #[.int .i64 a, .string x, .bool z]) = .returned (.tuple #[.int .i64 b, .string y, .bool z]) := by rw [h, h2]

set_option maxRecDepth 100000 in
set_option maxHeartbeats 4000000 in
theorem iso21 (m h1 h2 m1 m2 s1 s2 f1 f2 f3 f4 f5 f6 : Int) (C : Clock m h1 h2 m1 m2 s1 s2 f1 f2 f3 f4 f5 f6) (s t : ByteArray) (past : Bool) (w : World) (hs : s.data.toList = textL h1 h2 m1 m2 s1 s2 f1 f2 f3 f4 f5 f6 t.data.toList)
    (ht : t.size ≤ 65536) (hh : ∀ c, t.data.toList.head? = some c → ¬ (48 ≤ c.toNat ∧ c.toNat ≤ 57)) :
    Calls Tryd.prog 21 #[.string s, .bool past] w fun e w' => e = .returned (.tuple #[.int .i64 m, .string t, .bool true]) ∧ Below w.heap.size w w' := by
  have hsz : s.size = 15 + t.size := by rw [Lib.size_eq, hs, Lib.size_eq t]; simp [textL]; omega
  have k2 : bt s 2 = 58 := bt_list s 2 58 (by rw [hs]; rfl)
  have eA : (s.extract 0 2).data.toList = [dg h1, dg h2] := by rw [Lib.extract_data, hs]; rfl
  have eB : (s.extract 3 5).data.toList = [dg m1, dg m2] := by rw [Lib.extract_data, hs]; rfl
  have eR : (s.extract 5 s.size).data.toList = 58 :: dg s1 :: dg s2 :: 46 :: dg f1 :: dg f2 :: dg f3 :: dg f4 :: dg f5 :: dg f6 :: t.data.toList := by rw [drop_end, hs]; rfl
  have H23A : Hid _ := fun W => parse23 (s.extract 0 2) (h1 * 10 + h2) W (by rw [Lib.size_eq, eA]; simp) (by rw [Lib.size_eq, eA]; simp) (by rw [eA]; simp [digL, dg_nat _ C.bh1, dg_nat _ C.bh2]; have := C.bh1; have := C.bh2; omega) (by rw [eA]; exact atoi2 _ _ C.bh1 C.bh2)
  have H23B : Hid _ := fun W => parse23 (s.extract 3 5) (m1 * 10 + m2) W (by rw [Lib.size_eq, eB]; simp) (by rw [Lib.size_eq, eB]; simp) (by rw [eB]; simp [digL, dg_nat _ C.bm1, dg_nat _ C.bm2]; have := C.bm1; have := C.bm2; omega) (by rw [eB]; exact atoi2 _ _ C.bm1 C.bm2)
  have HR : Hid _ := eR
  have hs15 : 15 ≤ s.size := by omega
  have hsmax : s.size ≤ 70000 := by omega
  have hi5 : (5 : Int) ≤ (s.size : Int) := by omega
  have c1 := C.bh1; have c2 := C.bh2; have c3 := C.bm1; have c4 := C.bm2; have c5 := C.hh; have c6 := C.mm
  clear eA eB eR hsz hs
  have hb := get_bt s
  have d5 : decide ((s.size : Int) < 5) = false := by simp; omega
  have n58 : ((58 : Int) != 58) = false := rfl
  go_enter Tryd.func21, Tryd.ntmps21
  go_upto_region 5 with (first
    | (go_at_call_of 23 (Value.string (s.extract 0 2)); refine (H23A.out _).mono ?_; rintro e w1 ⟨rfl, hb1⟩)
    | (go_at_call_of 23 (Value.string (s.extract 3 5)); refine (H23B.out _).mono ?_; rintro e w2 ⟨rfl, hb2⟩))
  have B2 := hb1.trans (hb2.mono hb1.size)
  clear hb1 hb2
  have HC : Hid _ := C.sum
  have cs := C.bs1; have cs2 := C.bs2; have css := C.ss
  have g1 := C.bf1; have g2 := C.bf2; have g3 := C.bf3; have g4 := C.bf4; have g5 := C.bf5; have g6 := C.bf6
  have v1 : 0 ≤ h1 * 10 + h2 := by omega
  have v2 : 0 ≤ m1 * 10 + m2 := by omega
  generalize h1 * 10 + h2 = vH at HC c5 v1 ⊢
  generalize m1 * 10 + m2 = vM at HC c6 v2 ⊢
  clear H23A H23B c1 c2 c3 c4
  go_quiet (fail)
  go_upto_region 7 with fail
  generalize s.extract 5 s.size = r at HR ⊢
  have eR := HR.out
  have rsz : r.size = 10 + t.size := by rw [Lib.size_eq, eR, Lib.size_eq t]; simp; omega
  have k0 : bt r 0 = 58 := bt_list r 0 58 (by rw [eR]; rfl)
  have eC : (r.extract 1 3).data.toList = [dg s1, dg s2] := by rw [Lib.extract_data, eR]; rfl
  have eQ : (r.extract 3 r.size).data.toList = 46 :: dg f1 :: dg f2 :: dg f3 :: dg f4 :: dg f5 :: dg f6 :: t.data.toList := by rw [drop_end, eR]; rfl
  have H23C : Hid _ := fun W => parse23 (r.extract 1 3) (s1 * 10 + s2) W (by rw [Lib.size_eq, eC]; simp) (by rw [Lib.size_eq, eC]; simp) (by rw [eC]; simp [digL, dg_nat _ cs, dg_nat _ cs2]; omega) (by rw [eC]; exact atoi2 _ _ cs cs2)
  have HQ : Hid _ := eQ
  have r10 : 10 ≤ r.size := by omega
  have rmax : r.size ≤ 70000 := by omega
  have hbr := get_bt r
  have d3 : decide ((3 : Int) ≤ (r.size : Int)) = true := by simp; omega
  have v3 : 0 ≤ s1 * 10 + s2 := by omega
  generalize s1 * 10 + s2 = vS at HC css H23C v3 ⊢
  clear HR eR eC eQ rsz hb k2 hi5 hs15 hsmax d5 n58 cs cs2
  go_upto_region 10 with (go_at_call 23; refine (H23C.out _).mono ?_; rintro e w3 ⟨rfl, hb3⟩)
  have B3 := (below_drewN B2 _).trans (hb3.mono (by simpa using B2.size))
  clear hb3 B2
  generalize r.extract 3 r.size = q at HQ ⊢
  have eQ := HQ.out
  have h24 := fun W => Tryd.strings_CutPrefix q ⟨#[46]⟩ W
  have ep : Lib.hasPrefix q.data.toList [46] = true := by rw [eQ]; rfl
  have eT : Lib.trimPrefix q.data.toList [46] = dg f1 :: dg f2 :: dg f3 :: dg f4 :: dg f5 :: dg f6 :: t.data.toList := by unfold Lib.trimPrefix; rw [ep, eQ]; rfl
  have hD : ∃ D : ByteArray, D.data.toList = dg f1 :: dg f2 :: dg f3 :: dg f4 :: dg f5 :: dg f6 :: t.data.toList ∧ ∀ W, Calls Tryd.prog 24 #[.string q, .string ⟨#[46]⟩] W fun e w' => e = .returned (.tuple #[.string D, .bool true]) ∧ w' = W := by
    refine ⟨⟨(Lib.trimPrefix q.data.toList [46]).toArray⟩, eT, fun W => ?_⟩
    have := h24 W
    rw [show (⟨#[46]⟩ : ByteArray).data.toList = [46] from rfl, ep] at this
    exact this
  obtain ⟨D, eD, h24'⟩ := hD
  have H24 : Hid _ := h24'
  have tT : Lib.trimLeftS D.data.toList [48, 49, 50, 51, 52, 53, 54, 55, 56, 57] = t.data.toList := by
    rw [eD]
    refine trim_tail [dg f1, dg f2, dg f3, dg f4, dg f5, dg f6] t.data.toList ?_ hh
    simp [digL, dg_nat _ g1, dg_nat _ g2, dg_nat _ g3, dg_nat _ g4, dg_nat _ g5, dg_nat _ g6]
    omega
  have h25 := fun W => Tryd.strings_TrimLeft_set D ⟨#[48, 49, 50, 51, 52, 53, 54, 55, 56, 57]⟩ W (by decide) (ascii_of_all (by decide))
  rw [show (⟨#[48, 49, 50, 51, 52, 53, 54, 55, 56, 57]⟩ : ByteArray).data.toList = [48, 49, 50, 51, 52, 53, 54, 55, 56, 57] from rfl, tT, Lib.mk_data t] at h25
  have H25 : Hid _ := h25
  have dsz : D.size = 6 + t.size := by rw [Lib.size_eq, eD, Lib.size_eq t]; simp; omega
  have hp : (D.size : Int) - (t.size : Int) = 6 := by omega
  have HD : Hid _ := eD
  have dmax : D.size ≤ 70000 := by omega
  have d6 : (6 : Int) ≤ (D.size : Int) := by omega
  clear HQ eQ h24 ep eT h24' tT h25 dsz eD hbr k0 d3 r10 rmax H23C hh
  go_upto_region 15 with (first
    | (go_at_call 24; refine (H24.out _).mono ?_; rintro e w4 ⟨rfl, rfl⟩)
    | (go_at_call 25; refine (H25.out _).mono ?_; rintro e w5 ⟨rfl, hb5⟩))
  have e6 : (D.extract 0 6).data.toList = [dg f1, dg f2, dg f3, dg f4, dg f5, dg f6] := by rw [Lib.extract_data, HD.out]; rfl
  have eE : D.extract 6 D.size = t := ba_eq (by rw [drop_end, HD.out]; rfl)
  have a6 := atoi6 f1 f2 f3 f4 f5 f6 g1 g2 g3 g4 g5 g6
  have hF0 : 0 ≤ ((((f1 * 10 + f2) * 10 + f3) * 10 + f4) * 10 + f5) * 10 + f6 ∧ ((((f1 * 10 + f2) * 10 + f3) * 10 + f4) * 10 + f5) * 10 + f6 ≤ 999999 := by omega
  generalize ((((f1 * 10 + f2) * 10 + f3) * 10 + f4) * 10 + f5) * 10 + f6 = vF at HC a6 hF0
  have h26 : ∀ (x : ByteArray), x.data.toList = [dg f1, dg f2, dg f3, dg f4, dg f5, dg f6] → ∀ W, Calls Tryd.prog 26 #[.string x] W fun e w' => e = .returned (.tuple #[.int .i64 vF, .nilIface]) ∧ Below W.heap.size W w' := fun x hx W =>
    (Tryd.strconv_Atoi x vF (by rw [Lib.size_eq, hx]; simp) (by rw [hx]; exact a6) W).mono fun e w' ⟨he, hw⟩ => ⟨he, bw_below hw⟩
  have H26 : Hid _ := h26
  have H27 : Hid _ := fun W => Tryd.strings_Repeat_zero ⟨#[48]⟩ W
  have HE6 : Hid _ := e6
  have HE7 : Hid (D.data.toList.take 6 = [dg f1, dg f2, dg f3, dg f4, dg f5, dg f6]) := by have := HD.out; rw [this]; rfl
  have hmin1 : min 6 D.size = 6 := by omega
  have hmin2 : min D.size 6 = 6 := by omega
  have hsz6 : (D.extract 0 6).size = 6 := by rw [Lib.size_eq (D.extract 0 6), e6]; rfl
  have HEE : Hid _ := eE
  have hbb := B3.trans (hb5.mono B3.size)
  clear B3 hb5
  clear e6 eE a6 h26 H24 H25 HD g1 g2 g3 g4 g5 g6
  go_cut [17] (fun v wz => v = .int .i64 vF ∧ Below w.heap.size w wz)
  case first =>
    go_region_held3 (fun _ => True) (trivial) (first
      | (go_at_call 27; refine (H27.out _).mono ?_; rintro e w6 ⟨rfl, rfl⟩)
      | (go_at_call 26; refine (H26.out _ ?_ _).mono ?_; (first | exact HE6.out | (simp; exact HE7.out)); rintro e w7 ⟨rfl, hb7⟩))
    go_wp2_with fail
    go_meet
    exact ⟨rfl, hbb.drew.trans (hb7.mono (by simpa using hbb.size))⟩
  case rest =>
    obtain ⟨rfl, hbz⟩ := hcut
    clear hbb H26 H27
    go_upto_region 16 with fail
    go_quiet (fail)
    go_wp2
    go_ret3
    exact ⟨ret3_eq (by have := HC.out; omega) HEE.out, below_drewN hbz _⟩
end Go.Proofs.Qxb6602631aDoor.Iso
