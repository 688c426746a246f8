/-
  The copies that the law makes of its arguments.
-/
import Derived.Test.Qxb6602824aDoorParts
namespace Go.Proofs.Qxb6602824aDoor
open Go.RowKit Go.PlainAid Go.Deep

theorem Tryd.info5 : (Tryd.prog.info? 5).map (fun i => (i.zero, i.size, i.bytes)) = some (some (.int .u8 0), 1, 1) := by kernel_rfl
theorem Tryd.info3 : (Tryd.prog.info? 3).map (fun i => (i.zero, i.size, i.bytes)) = some (some (.int .i64 0), 1, 8) := by kernel_rfl
theorem Tryd.info24 : (Tryd.prog.info? 24).map (fun i => (i.zero, i.size, i.bytes)) = some (some (.slice none 0 0), 1, 24) := by kernel_rfl

/-- Where the copy lies: nowhere, or in memory that is new. -/
def Fresh (w : World) (a : Option Addr) : Prop := ∀ b o s, a = some ⟨b, o, s⟩ → w.heap.size ≤ b

/-- What CloneB leaves. -/
def IsCloneB (w : World) (s : ByteArray) (e : Ending) (w' : World) : Prop := ∃ a' c', e = .returned (.slice a' s.size c') ∧ Below w.heap.size w w' ∧ Rb w' a' s ∧ Fresh w a' ∧ s.size ≤ c'
set_option maxRecDepth 100000 in
theorem CloneB (s : ByteArray) (a : Option Addr) (c : Nat) (w : World) (hs : Rb w a s) (h : s.size ≤ 1048576) (hn : a = none → s.size = 0 ∧ c = 0) :
    Calls Tryd.prog 9 #[.slice a s.size c] w fun e w' => IsCloneB w s e w' := by
  have q : ∀ (w : World) (a : Option Addr) (n c n' c' : Nat), (binOp .eql 24 (.slice a n c) (.slice none n' c')).run Tryd.prog w = .ok (.bool a.isNone) w := fun w a n c n' c' => Lib.run_eql_slice_nil w _ _ a n c n' c' Tryd.underlying24
  cases a with
  | none =>
    obtain ⟨h1, h2⟩ := hn rfl
    rw [h1, h2]
    go_enter Tryd.func9, Tryd.ntmps9
    go_wp2
    go_ret
    first | exact ⟨none, 0, rfl, Below.refl _ _, .inl rfl, (fun _ _ _ h => by cases h), Nat.le_refl _⟩ | exact ⟨none, 0, by rw [h1]; rfl, Below.refl _ _, .inl h1, (fun _ _ _ h => by cases h), by omega⟩
  | some a =>
    have hmk := run_make_row' (P := Tryd.prog) 24 5 (.int .u8 0) 1 Tryd.underlying24 Tryd.info5 rfl .i64 .i64 s.size (by omega) (by omega)
    obtain ⟨b, o, sub⟩ := a
    by_cases h0 : s.size = 0
    · have H0 : Hid _ := h0
      clear h0
      go_enter Tryd.func9, Tryd.ntmps9
      go_wp2
      go_loopw [4] (fun i wr => i = .int .i64 0 ∧ wr = w.alloc (.cells (madeCells #[.int .u8 0] s.size) 5)) (fun _ _ => 0)
      case atStart => exact ⟨rfl, rfl⟩
      case round =>
        obtain ⟨rfl, rfl⟩ := hrel
        have h0 := H0.out
        have h0i : ¬ (0 : Int) < (s.size : Int) := by omega
        have h0n : ¬ 0 < s.size := by omega
        clear h0
        go_wp2
        go_ret
        exact ⟨_, _, rfl, (Below.refl _ _).alloc (Nat.le_refl _) _, .inl H0.out, (fun b o s h => by cases h; exact Nat.le_refl _), Nat.le_refl _⟩
    · obtain ⟨b', o', e, hc⟩ := hs.resolve_left h0
      cases e
      go_enter Tryd.func9, Tryd.ntmps9
      go_wp2
      go_loopw [4] (fun i wr => ∃ k : Nat, k ≤ s.size ∧ i = .int .i64 k ∧ Hid (Below w.heap.size w wr) ∧ wr.rowIs w.heap.size 5 s.size (fun i => if i < k then .int .u8 (bt s i) else .int .u8 0)) (fun i _ => s.size - (intOf i).toNat)
      case atStart => exact ⟨0, Nat.zero_le _, rfl, (Below.refl _ _).alloc (Nat.le_refl _) _, (World.rowIs_made w _ s.size 5).congr (fun j _ => by simp)⟩
      case round =>
        obtain ⟨k, hk, rfl, HB, hrow⟩ := hrel
        by_cases hlt : k < s.size
        · have c1 := cell_below HB.out (hc k hlt)
          have hki : (k : Int) < (s.size : Int) := by omega
          have c2 := hrow.cell hlt
          have c3 := hrow.frozen k
          have R1 : Hid ((wr.setCell ⟨w.heap.size, k, none⟩ (.int .u8 (bt s k))).rowIs w.heap.size 5 s.size (fun i => if i < k + 1 then .int .u8 (bt s i) else .int .u8 0)) := by
            refine (hrow.set k _).congr fun j _ => ?_
            by_cases e : j = k
            · subst e; simp
            · rw [if_neg e]
              by_cases hj : j < k
              · rw [if_pos hj, if_pos (by omega)]
              · rw [if_neg hj, if_neg (by omega)]
          have R2 : Hid (Below w.heap.size w (wr.setCell ⟨w.heap.size, k, none⟩ (.int .u8 (bt s k)))) := HB.out.setCell (Nat.le_refl _) _
          clear hrow HB
          go_wp2
          go_roundw
          case rel => exact ⟨k + 1, by omega, by go_num, R2.out, R1.out⟩
          case measure => simp [intOf]; omega
        · obtain rfl : k = s.size := by omega
          go_wp2
          go_ret
          exact ⟨_, _, rfl, HB.out, .inr ⟨_, _, rfl, fun i hi => by rw [Nat.zero_add, hrow.cell hi, if_pos hi]⟩, (fun b o s h => by cases h; exact Nat.le_refl _), Nat.le_refl _⟩

/-- What CloneI leaves. -/
def IsCloneI (w : World) (n : Nat) (Z : Nat → Int) (e : Ending) (w' : World) : Prop := ∃ a' c', e = .returned (.slice a' n c') ∧ Below w.heap.size w w' ∧ Ri w' a' n Z ∧ Fresh w a'
set_option maxRecDepth 100000 in
theorem CloneI (n : Nat) (Z : Nat → Int) (a : Option Addr) (c : Nat) (w : World) (hs : Ri w a n Z) (h : n ≤ 1048576) (hn : a = none → n = 0 ∧ c = 0) :
    Calls Tryd.prog 8 #[.slice a n c] w fun e w' => IsCloneI w n Z e w' := by
  have q : ∀ (w : World) (a : Option Addr) (n c n' c' : Nat), (binOp .eql 23 (.slice a n c) (.slice none n' c')).run Tryd.prog w = .ok (.bool a.isNone) w := fun w a n c n' c' => Lib.run_eql_slice_nil w _ _ a n c n' c' Tryd.underlying23
  cases a with
  | none =>
    obtain ⟨h1, h2⟩ := hn rfl
    rw [h1, h2]
    go_enter Tryd.func8, Tryd.ntmps8
    go_wp2
    go_ret
    first | exact ⟨none, 0, rfl, Below.refl _ _, .inl rfl, fun _ _ _ h => by cases h⟩ | exact ⟨none, 0, by rw [h1]; rfl, Below.refl _ _, .inl h1, fun _ _ _ h => by cases h⟩
  | some a =>
    have hmk := run_make_row' (P := Tryd.prog) 23 3 (.int .i64 0) 8 Tryd.underlying23 Tryd.info3 rfl .i64 .i64 n (by omega) (by omega)
    obtain ⟨b, o, sub⟩ := a
    by_cases h0 : n = 0
    · have H0 : Hid _ := h0
      clear h0
      go_enter Tryd.func8, Tryd.ntmps8
      go_wp2
      go_loopw [4] (fun i wr => i = .int .i64 0 ∧ wr = w.alloc (.cells (madeCells #[.int .i64 0] n) 3)) (fun _ _ => 0)
      case atStart => exact ⟨rfl, rfl⟩
      case round =>
        obtain ⟨rfl, rfl⟩ := hrel
        have h0 := H0.out
        have h0i : ¬ (0 : Int) < (n : Int) := by omega
        have h0n : ¬ 0 < n := by omega
        clear h0
        go_wp2
        go_ret
        exact ⟨_, _, rfl, (Below.refl _ _).alloc (Nat.le_refl _) _, .inl H0.out, fun b o s h => by cases h; exact Nat.le_refl _⟩
    · obtain ⟨b', o', e, hc⟩ := hs.resolve_left h0
      cases e
      go_enter Tryd.func8, Tryd.ntmps8
      go_wp2
      go_loopw [4] (fun i wr => ∃ k : Nat, k ≤ n ∧ i = .int .i64 k ∧ Hid (Below w.heap.size w wr) ∧ wr.rowIs w.heap.size 3 n (fun i => if i < k then .int .i64 (Z i) else .int .i64 0)) (fun i _ => n - (intOf i).toNat)
      case atStart => exact ⟨0, Nat.zero_le _, rfl, (Below.refl _ _).alloc (Nat.le_refl _) _, (World.rowIs_made w _ n 3).congr (fun j _ => by simp)⟩
      case round =>
        obtain ⟨k, hk, rfl, HB, hrow⟩ := hrel
        by_cases hlt : k < n
        · have c1 := cell_below HB.out (hc k hlt)
          have hki : (k : Int) < (n : Int) := by omega
          have c2 := hrow.cell hlt
          have c3 := hrow.frozen k
          have R1 : Hid ((wr.setCell ⟨w.heap.size, k, none⟩ (.int .i64 (Z k))).rowIs w.heap.size 3 n (fun i => if i < k + 1 then .int .i64 (Z i) else .int .i64 0)) := by
            refine (hrow.set k _).congr fun j _ => ?_
            by_cases e : j = k
            · subst e; simp
            · rw [if_neg e]
              by_cases hj : j < k
              · rw [if_pos hj, if_pos (by omega)]
              · rw [if_neg hj, if_neg (by omega)]
          have R2 : Hid (Below w.heap.size w (wr.setCell ⟨w.heap.size, k, none⟩ (.int .i64 (Z k)))) := HB.out.setCell (Nat.le_refl _) _
          clear hrow HB
          go_wp2
          go_roundw
          case rel => exact ⟨k + 1, by omega, by go_num, R2.out, R1.out⟩
          case measure => simp [intOf]; omega
        · obtain rfl : k = n := by omega
          go_wp2
          go_ret
          exact ⟨_, _, rfl, HB.out, .inr ⟨_, _, rfl, fun i hi => by rw [Nat.zero_add, hrow.cell hi, if_pos hi]⟩, fun b o s h => by cases h; exact Nat.le_refl _⟩
end Go.Proofs.Qxb6602824aDoor
