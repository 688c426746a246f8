/-
  Slices of bytes, of numbers and of names as the walks read them; the small functions.
-/
import Derived.Test.Qxb6602824aDoorProg
import Derived.WalkKit
import Derived.WalkSpells
import Derived.WalkLawsBesides
import Derived.PlainAid
import Derived.BigQuiet
import Derived.Deep.QuietTactic
import Derived.Deep.RegionWith
import Derived.Deep.DeepCutAuto
import Derived.Deep.OwnRows
import Derived.Laws.BytesArg
namespace Go.Proofs.Qxb6602824aDoor
open Go.RowKit Go.PlainAid

/-- The slice at a holds the bytes s. -/
def Rb (w : World) (a : Option Addr) (s : ByteArray) : Prop :=
  s.size = 0 ∨ ∃ b o, a = some ⟨b, o, none⟩ ∧ ∀ i, i < s.size → w.cell? ⟨b, o + i, none⟩ = some (.int .u8 (bt s i))
/-- The slice at a holds the n numbers Z. -/
def Ri (w : World) (a : Option Addr) (n : Nat) (Z : Nat → Int) : Prop :=
  n = 0 ∨ ∃ b o, a = some ⟨b, o, none⟩ ∧ ∀ i, i < n → w.cell? ⟨b, o + i, none⟩ = some (.int .i64 (Z i))
/-- The slice at a holds n slices, which hold the bytes S. -/
def Rn (w : World) (a : Option Addr) (n : Nat) (A : Nat → Option Addr) (C : Nat → Nat) (S : Nat → ByteArray) : Prop :=
  (n = 0 ∨ ∃ b o, a = some ⟨b, o, none⟩ ∧ ∀ i, i < n → w.cell? ⟨b, o + i, none⟩ = some (.slice (A i) (S i).size (C i))) ∧ ∀ i, i < n → Rb w (A i) (S i)

theorem cell_below {w w' : World} (hb : Below w.heap.size w w') {p : Addr} {v : Value} (h : w.cell? p = some v) : w'.cell? p = some v :=
  (hb.cell (World.block_lt_of_cell? _ _ h)).trans h
theorem Rb.below {w w' : World} {a : Option Addr} {s : ByteArray} (h : Rb w a s) (hb : Below w.heap.size w w') : Rb w' a s := by
  rcases h with h | ⟨b, o, h1, h2⟩
  · exact .inl h
  · exact .inr ⟨b, o, h1, fun i hi => cell_below hb (h2 i hi)⟩
theorem Ri.below {w w' : World} {a : Option Addr} {n : Nat} {Z : Nat → Int} (h : Ri w a n Z) (hb : Below w.heap.size w w') : Ri w' a n Z := by
  rcases h with h | ⟨b, o, h1, h2⟩
  · exact .inl h
  · exact .inr ⟨b, o, h1, fun i hi => cell_below hb (h2 i hi)⟩
theorem Rn.below {w w' : World} {a : Option Addr} {n : Nat} {A : Nat → Option Addr} {C : Nat → Nat} {S : Nat → ByteArray} (h : Rn w a n A C S) (hb : Below w.heap.size w w') : Rn w' a n A C S := by
  refine ⟨?_, fun i hi => (h.2 i hi).below hb⟩
  rcases h.1 with h | ⟨b, o, h1, h2⟩
  · exact .inl h
  · exact .inr ⟨b, o, h1, fun i hi => cell_below hb (h2 i hi)⟩

theorem ba_ext {p q : ByteArray} (hs : p.size = q.size) (h : ∀ i, i < p.size → bt p i = bt q i) : p = q := by
  refine ByteArray.ext_getElem hs fun i h1 h2 => ?_
  have := h i h1
  rw [← get_bt p i h1, ← get_bt q i h2] at this
  exact UInt8.toNat.inj (by omega)
theorem empty_of_size {p q : ByteArray} (hp : p.size = 0) (hq : q.size = 0) : p = q := ba_ext (by omega) (fun i hi => by omega)

set_option maxRecDepth 100000 in
theorem same17 (p q : ByteArray) (a a' : Option Addr) (c c' : Nat) (w : World) (hp : Rb w a p) (hq : Rb w a' q) (sp : p.size ≤ 1048576) (sq : q.size ≤ 1048576) :
    Calls Tryd.prog 17 #[.slice a p.size c, .slice a' q.size c'] w fun e w' => e = .returned (.bool (decide (p = q))) ∧ Below w.heap.size w w' := by
  by_cases hs : p.size = q.size
  · by_cases h0 : p.size = 0
    · have e : p = q := empty_of_size h0 (by omega)
      subst e
      rw [h0]
      go_enter Tryd.func17, Tryd.ntmps17
      go_wp2
      go_loopw [5] (fun i wr => i = .int .i64 0 ∧ wr = w) (fun _ _ => 0)
      case atStart => exact ⟨rfl, rfl⟩
      case round =>
        obtain ⟨rfl, rfl⟩ := hrel
        go_wp2
        go_ret
        exact ⟨by simp, Below.refl _ _⟩
    · obtain ⟨b, o, rfl, hcp⟩ := hp.resolve_left h0
      obtain ⟨b', o', rfl, hcq⟩ := hq.resolve_left (by omega)
      rw [← hs]
      go_enter Tryd.func17, Tryd.ntmps17
      go_wp2
      go_loopw [5] (fun i wr => ∃ k : Nat, k ≤ p.size ∧ i = .int .i64 k ∧ Below w.heap.size w wr ∧ Hid (∀ j, j < k → bt p j = bt q j)) (fun i _ => p.size - (intOf i).toNat)
      case atStart => exact ⟨0, Nat.zero_le _, rfl, Below.refl _ _, fun j hj => absurd hj (Nat.not_lt_zero _)⟩
      case round =>
        obtain ⟨k, hk, rfl, hbel, H⟩ := hrel
        by_cases hlt : k < p.size
        · have c1 := cell_below hbel (hcp k hlt)
          have c2 := cell_below hbel (hcq k (by omega))
          have hki : (k : Int) < (p.size : Int) := by omega
          cases hd : (bt p k == bt q k)
          · have e : decide (p = q) = false := by simpa using fun h => by rw [h] at hd; simp at hd
            go_wp2
            go_quiet (fail)
            go_wp2
            go_ret
            exact ⟨by rw [e]; rfl, below_drewN hbel _⟩
          · have HI : Hid (∀ j, j < k + 1 → bt p j = bt q j) := fun j hj => by
              by_cases h : j < k
              · exact H.out j h
              · obtain rfl : j = k := by omega
                exact eq_of_beq hd
            go_wp2
            go_quiet (fail)
            go_wp2
            go_roundw
            case rel => exact ⟨k + 1, by omega, by go_num, below_drewN hbel _, HI.out⟩
            case measure => simp [intOf]; omega
        · have e : p = q := ba_ext hs (fun i hi => H.out i (by omega))
          subst e
          go_wp2
          go_ret
          exact ⟨by simp, hbel⟩
  · have e : decide (p = q) = false := by simpa using fun h => hs (by rw [h])
    rw [e]
    go_enter Tryd.func17, Tryd.ntmps17
    have hsi : ((p.size : Int) == (q.size : Int)) = false := by simp; omega
    go_wp2
    go_ret
    exact ⟨rfl, Below.refl _ _⟩

/-- mLowerASCII. -/
def low (c : Int) : Int := if 65 ≤ c ∧ c ≤ 90 then c + 32 else c
theorem low20 (c : Int) (w : World) (h0 : 0 ≤ c) (h1 : c ≤ 255) : Calls Tryd.prog 20 #[.int .u8 c] w fun e w' => e = .returned (.int .u8 (low c)) ∧ w' = w := by
  by_cases h : 65 ≤ c
  · by_cases h2 : c ≤ 90
    · have e : low c = c + 32 := if_pos ⟨h, h2⟩
      have HE : Hid _ := e
      clear e
      go_enter Tryd.func20, Tryd.ntmps20
      go_wp2
      go_ret
      exact ⟨by rw [HE.out]; go_num, rfl⟩
    · have e : low c = c := if_neg (by omega)
      have HE : Hid _ := e
      clear e
      go_enter Tryd.func20, Tryd.ntmps20
      go_wp2
      go_ret
      exact ⟨by rw [HE.out]; rfl, rfl⟩
  · have e : low c = c := if_neg (by omega)
    have HE : Hid _ := e
    clear e
    go_enter Tryd.func20, Tryd.ntmps20
    go_wp2
    go_ret
    exact ⟨by rw [HE.out]; rfl, rfl⟩

/-- The two differ in ASCII letter case alone. -/
def like (p q : ByteArray) : Bool := decide (p.size = q.size) && (List.range p.size).all fun i => low (bt p i) == low (bt q i)
theorem like_size {p q : ByteArray} (h : p.size ≠ q.size) : like p q = false := by
  unfold like
  rw [decide_eq_false h]; rfl
theorem like_at {p q : ByteArray} {k : Nat} (hk : k < p.size) (h : (low (bt p k) == low (bt q k)) = false) : like p q = false := by
  unfold like
  rw [Bool.and_eq_false_iff]
  right
  rw [List.all_eq_false]
  exact ⟨k, List.mem_range.2 hk, by rw [h]; simp⟩
theorem like_all {p q : ByteArray} (hs : p.size = q.size) (h : ∀ i, i < p.size → low (bt p i) = low (bt q i)) : like p q = true := by
  unfold like
  rw [decide_eq_true hs, Bool.true_and, List.all_eq_true]
  intro i hi
  rw [beq_iff_eq]
  exact h i (List.mem_range.1 hi)

set_option maxRecDepth 100000 in
theorem like18 (p q : ByteArray) (a a' : Option Addr) (c c' : Nat) (w : World) (hp : Rb w a p) (hq : Rb w a' q) (sp : p.size ≤ 1048576) (_sq : q.size ≤ 1048576) :
    Calls Tryd.prog 18 #[.slice a p.size c, .slice a' q.size c'] w fun e w' => e = .returned (.bool (like p q)) ∧ Below w.heap.size w w' := by
  by_cases hs : p.size = q.size
  · by_cases h0 : p.size = 0
    · have e : like p q = true := like_all hs (fun i hi => by omega)
      rw [e, ← hs, h0]
      go_enter Tryd.func18, Tryd.ntmps18
      go_wp2
      go_loopw [5] (fun i wr => i = .int .i64 0 ∧ wr = w) (fun _ _ => 0)
      case atStart => exact ⟨rfl, rfl⟩
      case round =>
        obtain ⟨rfl, rfl⟩ := hrel
        go_wp2
        go_ret
        exact ⟨rfl, Below.refl _ _⟩
    · obtain ⟨b, o, rfl, hcp⟩ := hp.resolve_left h0
      obtain ⟨b', o', rfl, hcq⟩ := hq.resolve_left (by omega)
      rw [← hs]
      have HS : Hid _ := hs
      have hcq' : ∀ i, i < p.size → w.cell? ⟨b', o' + i, none⟩ = some (.int .u8 (bt q i)) := fun i hi => hcq i (by omega)
      clear hs hcq _sq
      go_enter Tryd.func18, Tryd.ntmps18
      go_wp2
      go_loopw [5] (fun i wr => ∃ k : Nat, k ≤ p.size ∧ i = .int .i64 k ∧ Below w.heap.size w wr ∧ Hid (∀ j, j < k → low (bt p j) = low (bt q j))) (fun i _ => p.size - (intOf i).toNat)
      case atStart => exact ⟨0, Nat.zero_le _, rfl, Below.refl _ _, fun j hj => absurd hj (Nat.not_lt_zero _)⟩
      case round =>
        obtain ⟨k, hk, rfl, hbel, H⟩ := hrel
        by_cases hlt : k < p.size
        · have c1 := cell_below hbel (hcp k hlt)
          have c2 := cell_below hbel (hcq' k hlt)
          have hki : (k : Int) < (p.size : Int) := by omega
          have H1 : Hid _ := fun W => low20 (bt p k) W (bt_nonneg p k) (bt_le p k)
          have H2 : Hid _ := fun W => low20 (bt q k) W (bt_nonneg q k) (bt_le q k)
          cases hd : (low (bt p k) == low (bt q k))
          · have e := like_at hlt hd
            generalize low (bt p k) = x at *
            generalize low (bt q k) = y at *
            go_wp2
            go_quiet (first | (go_at_call_of 20 (Value.int IntKind.u8 (bt p k)); exact Calls.quiet_of_same (H1.out _)) | (go_at_call_of 20 (Value.int IntKind.u8 (bt q k)); exact Calls.quiet_of_same (H2.out _)))
            go_wp2
            go_ret
            exact ⟨by rw [e]; rfl, below_drewN hbel _⟩
          · have HI : Hid (∀ j, j < k + 1 → low (bt p j) = low (bt q j)) := fun j hj => by
              by_cases h : j < k
              · exact H.out j h
              · obtain rfl : j = k := by omega
                exact eq_of_beq hd
            generalize low (bt p k) = x at H1 hd
            generalize low (bt q k) = y at H2 hd
            go_wp2
            go_quiet (first | (go_at_call_of 20 (Value.int IntKind.u8 (bt p k)); exact Calls.quiet_of_same (H1.out _)) | (go_at_call_of 20 (Value.int IntKind.u8 (bt q k)); exact Calls.quiet_of_same (H2.out _)))
            go_wp2
            go_roundw
            case rel => exact ⟨k + 1, by omega, by go_num, below_drewN hbel _, HI.out⟩
            case measure => simp [intOf]; omega
        · have e : like p q = true := like_all HS.out (fun i hi => H.out i (by omega))
          go_wp2
          go_ret
          exact ⟨by rw [e]; rfl, hbel⟩
  · have e := like_size hs
    rw [e]
    go_enter Tryd.func18, Tryd.ntmps18
    have hsi : ((p.size : Int) == (q.size : Int)) = false := by simp; omega
    go_wp2
    go_ret
    exact ⟨rfl, Below.refl _ _⟩
end Go.Proofs.Qxb6602824aDoor
