/-
  find and ZZFind, walked over whatever bytes.EqualFold answers.
-/
import Derived.Test.Qxb6602824aDoorExact
namespace Go.Proofs.Qxb6602824aDoor
open Go.RowKit Go.PlainAid Go.Deep Go.Maps Go.WideMaps

/-- find's answer; P: what bytes.EqualFold may answer at each name. -/
def Found (n : Nat) (S : Nat → ByteArray) (Z : Nat → Int) (key : ByteArray) (fold : Bool) (P : Nat → Bool → Prop) (r : Int) (ok : Bool) : Prop :=
  (∃ i, i < n ∧ S i = key ∧ (∀ j, j < i → S j ≠ key) ∧ r = Z i ∧ ok = true) ∨
  ((∀ j, j < n → S j ≠ key) ∧ ((fold = false ∧ r = 0 ∧ ok = false) ∨
    (fold = true ∧ ((∃ i, i < n ∧ P i true ∧ (∀ j, j < i → P j false) ∧ r = Z i ∧ ok = true) ∨ ((∀ j, j < n → P j false) ∧ r = 0 ∧ ok = false)))))
def IsFound (w : World) (n : Nat) (S : Nat → ByteArray) (Z : Nat → Int) (key : ByteArray) (fold : Bool) (P : Nat → Bool → Prop) (e : Ending) (w' : World) : Prop :=
  ∃ r ok, e = .returned (.tuple #[.int .i64 r, .bool ok]) ∧ Below w.heap.size w w' ∧ Found n S Z key fold P r ok

theorem look30 {w : World} {B n : Nat} {D : DataW Unit} {key : ByteArray} (hown : w.ownsMap Tryd.prog 9 (plainElem Tryd.prog 3) B n D) (hk : key.size ≤ 1048576) :
    ∃ c, (∀ nq, (Instr.lookup 30 (.map (some B)) (.string key) true).run Tryd.prog (w.drewN nq) = .ok (.tuple #[.int .i64 c, .bool (Maps.has D (keyS key))]) (w.drewN nq)) ∧ D.atKey (keyS key) (.lit (.int .i64 0)) = .lit (.int .i64 c) := by
  have each : ∀ nq, ∃ c, (Instr.lookup 30 (.map (some B)) (.string key) true).run Tryd.prog (w.drewN nq) = .ok (.tuple #[.int .i64 c, .bool (Maps.has D (keyS key))]) (w.drewN nq) ∧ D.atKey (keyS key) (.lit (.int .i64 0)) = .lit (.int .i64 c) := fun nq => by
    have hown' : (w.drewN nq).ownsMap Tryd.prog 9 (plainElem Tryd.prog 3) B n D := hown
    obtain ⟨v, ps, hrun, hv⟩ := hown'.look_ok mapLaw Tryd.underlying30 (zero3 _) (plainElem_int Tryd.underlying3 (by decide)) (key9 hk)
    obtain ⟨c, rfl, hc, _⟩ := plainElem_int_inv Tryd.underlying3 hv
    exact ⟨c, hrun, congrArg Prod.fst hc⟩
  obtain ⟨c, _, h0⟩ := each 0
  refine ⟨c, fun nq => ?_, h0⟩
  obtain ⟨c', h1, h2⟩ := each nq
  have : c' = c := by
    rw [h0] at h2
    injection h2 with h2
    injection h2 with _ h2
    exact h2.symm
  rw [← this]
  exact h1

theorem cell_drew {w : World} {a : Addr} {v : Value} (h : w.cell? a = some v) (n : Nat) : (w.drewN n).cell? a = some v := h

set_option maxRecDepth 100000 in
theorem find16 (n : Nat) (S : Nat → ByteArray) (A : Nat → Option Addr) (C : Nat → Nat) (Z : Nat → Int) (key : ByteArray) (a ai ak : Option Addr) (c ci ck B F : Nat) (fold : Bool) (D : DataW Unit) (P : Nat → Bool → Prop) (w : World)
    (hN : Rn w a n A C S) (hI : Ri w ai n Z) (hK : Rb w ak key) (h : n ≤ 65536) (hk : key.size ≤ 1048576)
    (hf0 : w.cell? ⟨F, 0, none⟩ = some (.slice a n c)) (hf1 : w.cell? ⟨F, 1, none⟩ = some (.slice ai n ci)) (hf2 : w.cell? ⟨F, 2, none⟩ = some (.map (some B)))
    (hown : w.ownsMap Tryd.prog 9 (plainElem Tryd.prog 3) B n D) (hG : Good S n D)
    (hE : fold = true → ∀ (W : World) (i : Nat), Below w.heap.size w W → i < n → Calls Tryd.prog 19 #[.slice (A i) (S i).size (C i), .slice ak key.size ck] W fun e w' => ∃ b, e = .returned (.bool b) ∧ P i b ∧ Below W.heap.size W w') :
    Calls Tryd.prog 16 #[.pointer (some ⟨F, 0, none⟩), .slice ak key.size ck, .bool fold] w fun e w' => IsFound w n S Z key fold P e w' := by
  obtain ⟨cc, hlk, hat⟩ := look30 hown hk
  have hcv : ∀ nq, (convert 24 9 (.slice ak key.size ck)).run Tryd.prog (w.drewN nq) = .ok (.string key) (w.drewN nq) := fun nq => conv24 (w := w.drewN nq) ck hK
  by_cases hex : ∃ i, i < n ∧ S i = key
  · obtain ⟨i, h1, h2, h3⟩ := first_of n hex
    obtain ⟨y1, y2⟩ := hG.yes i h1 (fun j hj => by rw [h2]; exact h3 j hj)
    rw [h2] at y1 y2
    have e : cc = i := by
      rw [y2] at hat
      injection hat with hat
      injection hat with _ hat
      exact hat.symm
    rw [y1, e] at hlk
    obtain ⟨b, o, rfl, hc⟩ := hI.resolve_left (by omega)
    have hci := hc i h1
    have hii : (i : Int) < (n : Int) := by omega
    have HR : Hid (Found n S Z key fold P (Z i) true) := .inl ⟨i, h1, h2, h3, rfl, rfl⟩
    clear hat y1 y2 hex hE hown hG hN hI hc h2 h3
    generalize Z i = zi at *
    go_enter Tryd.func16, Tryd.ntmps16
    go_wp2
    go_quiet (fail)
    go_wp2
    go_ret2
    exact ⟨_, _, rfl, below_drewN (Below.refl _ _) _, HR.out⟩
  · have hno : ∀ j, j < n → S j ≠ key := fun j hj e => hex ⟨j, hj, e⟩
    rw [hG.no key hno] at hlk
    cases fold with
    | false =>
      have HR : Hid (Found n S Z key false P 0 false) := .inr ⟨hno, .inl ⟨rfl, rfl, rfl⟩⟩
      clear hat hex hE hown hG hN hI hno
      go_enter Tryd.func16, Tryd.ntmps16
      go_wp2
      go_quiet (fail)
      go_wp2
      go_ret2
      exact ⟨_, _, rfl, below_drewN (Below.refl _ _) _, HR.out⟩
    | true =>
      have HE : Hid _ := hE rfl
      have HNO : Hid _ := hno
      clear hat hex hE hown hG hno
      by_cases h0 : n = 0
      · have HR : Hid (Found n S Z key true P 0 false) := .inr ⟨HNO.out, .inr ⟨rfl, .inr ⟨fun j hj => by omega, rfl, rfl⟩⟩⟩
        have H0 : Hid _ := h0
        clear h0
        go_enter Tryd.func16, Tryd.ntmps16
        go_wp2
        go_quiet (fail)
        go_wp2
        go_loopw [39] (fun i wr => i = .int .i64 0 ∧ Hid (Below w.heap.size w wr)) (fun _ _ => 0)
        case atStart => exact ⟨rfl, below_drewN (Below.refl _ _) _⟩
        case round =>
          obtain ⟨rfl, HB⟩ := hrel
          have h0 := H0.out
          have h0i : ¬ (0 : Int) < (n : Int) := by omega
          have h0n : ¬ 0 < n := by omega
          clear h0
          go_wp2
          go_ret2
          exact ⟨_, _, rfl, HB.out, HR.out⟩
      · obtain ⟨b, o, rfl, hc⟩ := hN.1.resolve_left h0
        obtain ⟨b', o', rfl, hc'⟩ := hI.resolve_left h0
        clear hN hI
        go_enter Tryd.func16, Tryd.ntmps16
        go_wp2
        go_quiet (fail)
        go_wp2
        go_loopw [39] (fun i wr => ∃ k : Nat, k ≤ n ∧ i = .int .i64 k ∧ Hid (Below w.heap.size w wr) ∧ Hid (∀ j, j < k → P j false)) (fun i _ => n - (intOf i).toNat)
        case atStart => exact ⟨0, Nat.zero_le _, rfl, below_drewN (Below.refl _ _) _, fun j hj => absurd hj (Nat.not_lt_zero _)⟩
        case round =>
          obtain ⟨k, hkn, rfl, HB, HP⟩ := hrel
          by_cases hlt : k < n
          · have c1 := cell_below HB.out (hc k hlt)
            have c2 := cell_below HB.out (hc' k hlt)
            have c3 := cell_below HB.out hf1
            have hki : (k : Int) < (n : Int) := by omega
            have HC : Hid _ := fun (_ : Unit) => HE.out wr k HB.out hlt
            go_wp2_with (go_at_call 19; refine (HC.out ()).mono ?_; rintro e w2 ⟨bb, rfl, hP, hb2⟩; have d1 := cell_below hb2 c2; have d2 := cell_below hb2 c3; cases bb)
            · have R1 : Hid _ := HB.out.trans (hb2.mono HB.out.size)
              have R2 : Hid (∀ j, j < k + 1 → P j false) := fun j hj => by
                by_cases hj2 : j < k
                · exact HP.out j hj2
                · obtain rfl : j = k := by omega
                  exact hP
              go_roundw
              case rel => exact ⟨k + 1, by omega, by go_num, R1.out, R2.out⟩
              case measure => simp [intOf]; omega
            · go_ret2
              exact ⟨_, _, rfl, HB.out.trans (hb2.mono HB.out.size), .inr ⟨HNO.out, .inr ⟨rfl, .inl ⟨k, hlt, hP, HP.out, rfl, rfl⟩⟩⟩⟩
          · obtain rfl : k = n := by omega
            go_wp2
            go_ret2
            exact ⟨_, _, rfl, HB.out, .inr ⟨HNO.out, .inr ⟨rfl, .inr ⟨HP.out, rfl, rfl⟩⟩⟩⟩

set_option maxRecDepth 100000 in
theorem find11 (n : Nat) (S : Nat → ByteArray) (A : Nat → Option Addr) (C : Nat → Nat) (Z : Nat → Int) (key : ByteArray) (a ai ak : Option Addr) (c ci ck B : Nat) (fold : Bool) (D : DataW Unit) (P : Nat → Bool → Prop) (w : World)
    (hN : Rn w a n A C S) (hI : Ri w ai n Z) (hK : Rb w ak key) (h : n ≤ 65536) (hk : key.size ≤ 1048576)
    (hown : w.ownsMap Tryd.prog 9 (plainElem Tryd.prog 3) B n D) (hG : Good S n D)
    (hE : fold = true → ∀ (W : World) (i : Nat), Below w.heap.size w W → i < n → Calls Tryd.prog 19 #[.slice (A i) (S i).size (C i), .slice ak key.size ck] W fun e w' => ∃ b, e = .returned (.bool b) ∧ P i b ∧ Below W.heap.size W w') :
    Calls Tryd.prog 11 #[.slice a n c, .slice ai n ci, .map (some B), .slice ak key.size ck, .bool fold] w fun e w' => IsFound w n S Z key fold P e w' := by
  have hb : Below w.heap.size w (w.alloc (.cells #[.slice a n c, .slice ai n ci, .map (some B)] 39)) := (Below.refl _ _).alloc (Nat.le_refl _) _
  have hrow := World.rowIs_alloc w #[.slice a n c, .slice ai n ci, .map (some B)] 39 (fun i => if i = 0 then .slice a n c else if i = 1 then .slice ai n ci else .map (some B)) (fun i hi => by
    match i, hi with
    | 0, _ => rfl
    | 1, _ => rfl
    | 2, _ => rfl)
  have hF := find16 n S A C Z key a ai ak c ci ck B w.heap.size fold D P _ (hN.below hb) (hI.below hb) (hK.below hb) h hk (hrow.cell (i := 0) (by simp)) (hrow.cell (i := 1) (by simp)) (hrow.cell (i := 2) (by simp)) (hown.alloc _) hG
    (fun hf W i hW hi => hE hf W i (hb.trans (hW.mono hb.size)) hi)
  have HF : Hid _ := fun (_ : Unit) => hF
  have HB : Hid _ := hb
  clear hrow hF hb hE hown hG hN hI hK
  go_enter Tryd.func11, Tryd.ntmps11
  go_wp2_with (go_at_call 16; refine (HF.out ()).mono ?_; rintro e w2 ⟨r, ok, rfl, hb2, hfound⟩)
  go_ret2
  exact ⟨_, _, rfl, HB.out.trans (hb2.mono HB.out.size), hfound⟩
end Go.Proofs.Qxb6602824aDoor
