/-
  bytes.EqualFold at ASCII bytes.
-/
import Derived.Test.Qxb6602824aDoorParts
import Derived.WalkMore
import Derived.ScopeJumps
namespace Go.Proofs.Qxb6602824aDoor
open Go.RowKit Go.PlainAid

def ascii (p : ByteArray) : Prop := ∀ i, i < p.size → bt p i < 128

theorem like_ne {p q : ByteArray} {k : Nat} (hk : k < p.size) (h : low (bt p k) ≠ low (bt q k)) : like p q = false := like_at hk (by simpa using h)

theorem ret_bool {a b : Bool} (h : a = b) : Ending.returned (.bool a) = .returned (.bool b) := by rw [h]
theorem or128 {x y : Int} (x0 : 0 ≤ x) (x1 : x < 128) (y0 : 0 ≤ y) (y1 : y < 128) : bits BinOp.or IntKind.u8 x y < 128 := by
  obtain ⟨a, rfl⟩ : ∃ a : Nat, x = a := ⟨x.toNat, by omega⟩
  obtain ⟨b, rfl⟩ : ∃ b : Nat, y = b := ⟨y.toNat, by omega⟩
  rw [u8_or_nat a b (by omega) (by omega)]
  have := Nat.or_lt_two_pow (n := 7) (show a < 2 ^ 7 by omega) (show b < 2 ^ 7 by omega)
  omega
theorem low_up {x y : Int} (h1 : 65 ≤ x) (h2 : x ≤ 90) (h : y = x + 32) : low x = low y := by
  unfold low
  rw [if_pos ⟨h1, h2⟩, if_neg (by omega), h]
theorem low_same {x y : Int} (hxy : x < y) (h : low x = low y) : 65 ≤ x ∧ x ≤ 90 ∧ y = x + 32 := by
  unfold low at h
  split at h <;> split at h <;> omega

set_option maxRecDepth 100000 in
theorem fold19 (p q : ByteArray) (a a' : Option Addr) (c c' : Nat) (w : World) (hp : Rb w a p) (hq : Rb w a' q) (sp : p.size ≤ 1048576) (sq : q.size ≤ 1048576) (ap : ascii p) (aq : ascii q) (h0 : 0 < p.size) (h1 : 0 < q.size) :
    Calls Tryd.prog 19 #[.slice a p.size c, .slice a' q.size c'] w fun e w' => e = .returned (.bool (like p q)) ∧ Below w.heap.size w w' := by
  obtain ⟨b, o, rfl, hcp⟩ := hp.resolve_left (by omega)
  obtain ⟨b', o', rfl, hcq⟩ := hq.resolve_left (by omega)
  by_cases hlt : q.size < p.size
  · have hlti : (q.size : Int) < (p.size : Int) := by omega
    go_enter Tryd.func19, Tryd.ntmps19
    go_wp2
    go_step3
    go_wp2
    go_loopw [5] (fun i wr => ∃ k : Nat, k ≤ q.size ∧ i = .int .i64 k ∧ Below w.heap.size w wr ∧ Hid (∀ j, j < k → low (bt p j) = low (bt q j))) (fun i _ => q.size - (intOf i).toNat)
    case atStart => exact ⟨0, Nat.zero_le _, rfl, Below.refl _ _, fun j hj => absurd hj (Nat.not_lt_zero _)⟩
    case round =>
      obtain ⟨k, hk, rfl, hbel, H⟩ := hrel
      by_cases hkm : k < q.size
      · have hkp : k < p.size := by omega
        have hkq : k < q.size := by omega
        have c1 := cell_below hbel (hcp k hkp)
        have c2 := cell_below hbel (hcq k hkq)
        have hki : (k : Int) < (p.size : Int) := by omega
        have hkj : (k : Int) < (q.size : Int) := by omega
        have x0 := bt_nonneg p k
        have y0 := bt_nonneg q k
        have x1 := ap k hkp
        have y1 := aq k hkq
        have hne : low (bt p k) ≠ low (bt q k) → like p q = false := like_ne hkp
        have hnext : low (bt p k) = low (bt q k) → ∀ j, j < k + 1 → low (bt p j) = low (bt q j) := fun h j hj => by
          by_cases hj2 : j < k
          · exact H.out j hj2
          · obtain rfl : j = k := by omega
            exact h
        clear hcp hcq ap aq
        generalize bt p k = x at *
        generalize bt q k = y at *
        have hor : bits BinOp.or IntKind.u8 x y < 128 := or128 x0 x1 y0 y1
        have hor2 : ¬ 128 ≤ bits BinOp.or IntKind.u8 x y := by omega
        rcases Int.lt_trichotomy x y with hxy | hxy | hxy
        · have d1 : (y == x) = false := by simp; omega
          have d2 : ¬ y < x := by omega
          by_cases hc : 65 ≤ x ∧ x ≤ 90 ∧ y = x + 32
          · obtain ⟨e1, e2, rfl⟩ := hc
            have HI : Hid _ := hnext (low_up e1 e2 rfl)
            clear hnext hne
            go_wp2
            go_roundw
            case rel => exact ⟨k + 1, by omega, by go_num, hbel, HI.out⟩
            case measure => simp [intOf]; omega
          · have e := hne (fun h => hc (low_same hxy h))
            clear hnext hne
            go_wp2
            all_goals first
              | (go_ret; exact ⟨by rw [e]; rfl, hbel⟩)
              | (exfalso; simp at *; omega)
        · subst hxy
          have HI : Hid _ := hnext rfl
          clear hnext hne
          go_wp2
          go_roundw
          case rel => exact ⟨k + 1, by omega, by go_num, hbel, HI.out⟩
          case measure => simp [intOf]; omega
        · have d1 : (y == x) = false := by simp; omega
          by_cases hc : 65 ≤ y ∧ y ≤ 90 ∧ x = y + 32
          · obtain ⟨e1, e2, rfl⟩ := hc
            have HI : Hid _ := hnext (low_up e1 e2 rfl).symm
            clear hnext hne
            go_wp2
            go_roundw
            case rel => exact ⟨k + 1, by omega, by go_num, hbel, HI.out⟩
            case measure => simp [intOf]; omega
          · have e := hne (fun h => hc (low_same hxy h.symm))
            clear hnext hne
            go_wp2
            all_goals first
              | (go_ret; exact ⟨by rw [e]; rfl, hbel⟩)
              | (exfalso; simp at *; omega)
      · have e : like p q = (decide (p.size = q.size)) := by
          by_cases hs : p.size = q.size
          · rw [like_all hs (fun i hi => H.out i (by omega)), decide_eq_true hs]
          · rw [like_size hs, decide_eq_false hs]
        go_wp2
        rw [Exit.noGoto_ret]
        go_ret
        exact ⟨ret_bool (by rw [e, Bool.eq_iff_iff]; simp; try omega), hbel⟩
  · have hlti : ¬ (q.size : Int) < (p.size : Int) := by omega
    go_enter Tryd.func19, Tryd.ntmps19
    go_wp2
    go_step3
    go_wp2
    go_loopw [5] (fun i wr => ∃ k : Nat, k ≤ p.size ∧ i = .int .i64 k ∧ Below w.heap.size w wr ∧ Hid (∀ j, j < k → low (bt p j) = low (bt q j))) (fun i _ => p.size - (intOf i).toNat)
    case atStart => exact ⟨0, Nat.zero_le _, rfl, Below.refl _ _, fun j hj => absurd hj (Nat.not_lt_zero _)⟩
    case round =>
      obtain ⟨k, hk, rfl, hbel, H⟩ := hrel
      by_cases hkm : k < p.size
      · have hkp : k < p.size := by omega
        have hkq : k < q.size := by omega
        have c1 := cell_below hbel (hcp k hkp)
        have c2 := cell_below hbel (hcq k hkq)
        have hki : (k : Int) < (p.size : Int) := by omega
        have hkj : (k : Int) < (q.size : Int) := by omega
        have x0 := bt_nonneg p k
        have y0 := bt_nonneg q k
        have x1 := ap k hkp
        have y1 := aq k hkq
        have hne : low (bt p k) ≠ low (bt q k) → like p q = false := like_ne hkp
        have hnext : low (bt p k) = low (bt q k) → ∀ j, j < k + 1 → low (bt p j) = low (bt q j) := fun h j hj => by
          by_cases hj2 : j < k
          · exact H.out j hj2
          · obtain rfl : j = k := by omega
            exact h
        clear hcp hcq ap aq
        generalize bt p k = x at *
        generalize bt q k = y at *
        have hor : bits BinOp.or IntKind.u8 x y < 128 := or128 x0 x1 y0 y1
        have hor2 : ¬ 128 ≤ bits BinOp.or IntKind.u8 x y := by omega
        rcases Int.lt_trichotomy x y with hxy | hxy | hxy
        · have d1 : (y == x) = false := by simp; omega
          have d2 : ¬ y < x := by omega
          by_cases hc : 65 ≤ x ∧ x ≤ 90 ∧ y = x + 32
          · obtain ⟨e1, e2, rfl⟩ := hc
            have HI : Hid _ := hnext (low_up e1 e2 rfl)
            clear hnext hne
            go_wp2
            go_roundw
            case rel => exact ⟨k + 1, by omega, by go_num, hbel, HI.out⟩
            case measure => simp [intOf]; omega
          · have e := hne (fun h => hc (low_same hxy h))
            clear hnext hne
            go_wp2
            all_goals first
              | (go_ret; exact ⟨by rw [e]; rfl, hbel⟩)
              | (exfalso; simp at *; omega)
        · subst hxy
          have HI : Hid _ := hnext rfl
          clear hnext hne
          go_wp2
          go_roundw
          case rel => exact ⟨k + 1, by omega, by go_num, hbel, HI.out⟩
          case measure => simp [intOf]; omega
        · have d1 : (y == x) = false := by simp; omega
          by_cases hc : 65 ≤ y ∧ y ≤ 90 ∧ x = y + 32
          · obtain ⟨e1, e2, rfl⟩ := hc
            have HI : Hid _ := hnext (low_up e1 e2 rfl).symm
            clear hnext hne
            go_wp2
            go_roundw
            case rel => exact ⟨k + 1, by omega, by go_num, hbel, HI.out⟩
            case measure => simp [intOf]; omega
          · have e := hne (fun h => hc (low_same hxy h.symm))
            clear hnext hne
            go_wp2
            all_goals first
              | (go_ret; exact ⟨by rw [e]; rfl, hbel⟩)
              | (exfalso; simp at *; omega)
      · have e : like p q = (decide (p.size = q.size)) := by
          by_cases hs : p.size = q.size
          · rw [like_all hs (fun i hi => H.out i (by omega)), decide_eq_true hs]
          · rw [like_size hs, decide_eq_false hs]
        go_wp2
        rw [Exit.noGoto_ret]
        go_ret
        exact ⟨ret_bool (by rw [e, Bool.eq_iff_iff]; simp; try omega), hbel⟩

set_option maxRecDepth 100000 in
theorem fold19z (p q : ByteArray) (a a' : Option Addr) (c c' : Nat) (w : World) (sp : p.size ≤ 1048576) (sq : q.size ≤ 1048576) (h0 : p.size = 0 ∨ q.size = 0) :
    Calls Tryd.prog 19 #[.slice a p.size c, .slice a' q.size c'] w fun e w' => e = .returned (.bool (like p q)) ∧ Below w.heap.size w w' := by
  have e : like p q = decide (p.size = q.size) := by
    by_cases hs : p.size = q.size
    · rw [like_all hs (fun i hi => by omega), decide_eq_true hs]
    · rw [like_size hs, decide_eq_false hs]
  by_cases hlt : q.size < p.size
  · have hlti : (q.size : Int) < (p.size : Int) := by omega
    have hz : q.size = 0 := by omega
    go_enter Tryd.func19, Tryd.ntmps19
    go_wp2
    go_step3
    go_wp2
    go_loopw [5] (fun i wr => i = .int .i64 0 ∧ wr = w) (fun _ _ => 0)
    case atStart => exact ⟨rfl, rfl⟩
    case round =>
      obtain ⟨rfl, rfl⟩ := hrel
      go_wp2
      rw [Exit.noGoto_ret]
      go_ret
      exact ⟨ret_bool (by rw [e, Bool.eq_iff_iff]; simp only [beq_iff_eq, decide_eq_true_eq]; omega), Below.refl _ _⟩
  · have hlti : ¬ (q.size : Int) < (p.size : Int) := by omega
    have hz : p.size = 0 := by omega
    go_enter Tryd.func19, Tryd.ntmps19
    go_wp2
    go_step3
    go_wp2
    go_loopw [5] (fun i wr => i = .int .i64 0 ∧ wr = w) (fun _ _ => 0)
    case atStart => exact ⟨rfl, rfl⟩
    case round =>
      obtain ⟨rfl, rfl⟩ := hrel
      go_wp2
      rw [Exit.noGoto_ret]
      go_ret
      exact ⟨ret_bool (by rw [e, Bool.eq_iff_iff]; simp only [beq_iff_eq, decide_eq_true_eq]; omega), Below.refl _ _⟩

theorem fold_ascii (p q : ByteArray) (a a' : Option Addr) (c c' : Nat) (w : World) (hp : Rb w a p) (hq : Rb w a' q) (sp : p.size ≤ 1048576) (sq : q.size ≤ 1048576) (ap : ascii p) (aq : ascii q) :
    Calls Tryd.prog 19 #[.slice a p.size c, .slice a' q.size c'] w fun e w' => e = .returned (.bool (like p q)) ∧ Below w.heap.size w w' := by
  by_cases h0 : p.size = 0 ∨ q.size = 0
  · exact fold19z p q a a' c c' w sp sq h0
  · exact fold19 p q a a' c c' w hp hq sp sq ap aq (by omega) (by omega)
end Go.Proofs.Qxb6602824aDoor
