/-
  mCloneNames, walked.
-/
import Derived.Test.Qxb6602824aDoorClone
namespace Go.Proofs.Qxb6602824aDoor
open Go.RowKit Go.PlainAid Go.Deep

/-- What mCloneNames leaves. -/
def IsCloneN (w : World) (n : Nat) (S : Nat → ByteArray) (e : Ending) (w' : World) : Prop := ∃ a' c' A' C', e = .returned (.slice a' n c') ∧ Below w.heap.size w w' ∧ Rn w' a' n A' C' S ∧ ∀ i, i < n → (S i).size ≤ C' i

/-- k names are copied: N is the new row's block. -/
structure Part (N : Nat) (wr : World) (n k : Nat) (S : Nat → ByteArray) (A : Nat → Option Addr) (C : Nat → Nat) : Prop where
  row : wr.rowIs N 24 n (fun i => if i < k then .slice (A i) (S i).size (C i) else .slice none 0 0)
  each : ∀ j, j < k → Rb wr (A j) (S j) ∧ ∀ b o s, A j = some ⟨b, o, s⟩ → N < b
  caps : ∀ j, j < k → (S j).size ≤ C j

theorem part_start (w : World) (n : Nat) (S : Nat → ByteArray) : Part w.heap.size (w.alloc (.cells (madeCells #[.slice none 0 0] n) 24)) n 0 S (fun _ => none) (fun _ => 0) :=
  ⟨(World.rowIs_made w _ n 24).congr (fun j _ => by simp), (fun j hj => absurd hj (Nat.not_lt_zero _)), fun j hj => absurd hj (Nat.not_lt_zero _)⟩

theorem Rb.set {w : World} {a : Option Addr} {s : ByteArray} (h : Rb w a s) {N k : Nat} {v : Value} (hN : ∀ b o s, a = some ⟨b, o, s⟩ → N < b) : Rb (w.setCell ⟨N, k, none⟩ v) a s := by
  rcases h with h | ⟨b, o, h1, h2⟩
  · exact .inl h
  · have := hN b o none h1
    exact .inr ⟨b, o, h1, fun i hi => (World.cell?_setCell_other _ _ _ _ (by intro e; injection e with e1; omega)).trans (h2 i hi)⟩

theorem part_step {N : Nat} {wr w2 : World} {n k : Nat} {S : Nat → ByteArray} {A : Nat → Option Addr} {C : Nat → Nat} (h : Part N wr n k S A C) (hb : Below wr.heap.size wr w2) {a : Option Addr} {c : Nat} (hr : Rb w2 a (S k)) (hf : Fresh wr a) (hcap : (S k).size ≤ c) :
    Part N (w2.setCell ⟨N, k, none⟩ (.slice a (S k).size c)) n (k + 1) S (fun i => if i = k then a else A i) (fun i => if i = k then c else C i) := by
  have hlt := h.row.lt
  have hrow := h.row.of_block (w' := w2) (hb.block N hlt)
  refine ⟨(hrow.set k _).congr fun j _ => ?_, fun j hj => ?_, fun j hj => ?_⟩
  · by_cases e : j = k
    · subst e; simp
    · simp only [if_neg e]
      by_cases hj : j < k
      · rw [if_pos hj, if_pos (by omega)]
      · rw [if_neg hj, if_neg (by omega)]
  · by_cases e : j = k
    · subst e
      simp only [if_true]
      have hN : ∀ b o s, a = some ⟨b, o, s⟩ → N < b := fun b o s he => Nat.lt_of_lt_of_le hlt (hf b o s he)
      exact ⟨hr.set hN, hN⟩
    · simp only [if_neg e]
      obtain ⟨h1, h2⟩ := h.each j (by omega)
      exact ⟨(h1.below hb).set h2, h2⟩
  · by_cases e : j = k
    · subst e
      simpa using hcap
    · simp only [if_neg e]
      exact h.caps j (by omega)

theorem part_done {N : Nat} {wr : World} {n : Nat} {S : Nat → ByteArray} {A : Nat → Option Addr} {C : Nat → Nat} (h : Part N wr n n S A C) : Rn wr (some ⟨N, 0, none⟩) n A C S :=
  ⟨.inr ⟨N, 0, rfl, fun i hi => by rw [Nat.zero_add, h.row.cell hi, if_pos hi]⟩, fun i hi => (h.each i hi).1⟩

set_option maxRecDepth 100000 in
theorem CloneN (n : Nat) (S : Nat → ByteArray) (A : Nat → Option Addr) (C : Nat → Nat) (a : Option Addr) (c : Nat) (w : World) (hs : Rn w a n A C S) (h : n ≤ 65536) (hS : ∀ i, i < n → (S i).size ≤ 1048576)
    (hn : a = none → n = 0 ∧ c = 0) (hA : ∀ i, i < n → A i = none → (S i).size = 0 ∧ C i = 0) :
    Calls Tryd.prog 7 #[.slice a n c] w fun e w' => IsCloneN w n S e w' := by
  have q : ∀ (w : World) (a : Option Addr) (n c n' c' : Nat), (binOp .eql 22 (.slice a n c) (.slice none n' c')).run Tryd.prog w = .ok (.bool a.isNone) w := fun w a n c n' c' => Lib.run_eql_slice_nil w _ _ a n c n' c' Tryd.underlying22
  cases a with
  | none =>
    obtain ⟨h1, h2⟩ := hn rfl
    rw [h1, h2]
    go_enter Tryd.func7, Tryd.ntmps7
    go_wp2
    go_ret
    exact ⟨none, 0, fun _ => none, fun _ => 0, rfl, Below.refl _ _, ⟨.inl rfl, fun i hi => absurd hi (Nat.not_lt_zero _)⟩, fun i hi => absurd hi (Nat.not_lt_zero _)⟩
  | some a =>
    have hmk := run_make_row' (P := Tryd.prog) 22 24 (.slice none 0 0) 24 Tryd.underlying22 Tryd.info24 rfl .i64 .i64 n (by omega) (by omega)
    obtain ⟨b, o, sub⟩ := a
    by_cases h0 : n = 0
    · have H0 : Hid _ := h0
      clear h0
      go_enter Tryd.func7, Tryd.ntmps7
      go_wp2
      go_loopw [4] (fun i wr => i = .int .i64 0 ∧ wr = w.alloc (.cells (madeCells #[.slice none 0 0] n) 24)) (fun _ _ => 0)
      case atStart => exact ⟨rfl, rfl⟩
      case round =>
        obtain ⟨rfl, rfl⟩ := hrel
        have h0 := H0.out
        have h0i : ¬ (0 : Int) < (n : Int) := by omega
        have h0n : ¬ 0 < n := by omega
        clear h0
        go_wp2
        go_ret
        exact ⟨_, _, fun _ => none, fun _ => 0, rfl, (Below.refl _ _).alloc (Nat.le_refl _) _, ⟨.inl H0.out, fun i hi => absurd (H0.out ▸ hi) (Nat.not_lt_zero _)⟩, fun i hi => absurd (H0.out ▸ hi) (Nat.not_lt_zero _)⟩
    · obtain ⟨b', o', e, hc⟩ := hs.1.resolve_left h0
      cases e
      have HR : Hid _ := hs.2
      clear hs
      go_enter Tryd.func7, Tryd.ntmps7
      go_wp2
      go_loopw [4] (fun i wr => ∃ k : Nat, k ≤ n ∧ i = .int .i64 k ∧ Hid (Below w.heap.size w wr) ∧ ∃ A' C', Hid (Part w.heap.size wr n k S A' C')) (fun i _ => n - (intOf i).toNat)
      case atStart => exact ⟨0, Nat.zero_le _, rfl, (Below.refl _ _).alloc (Nat.le_refl _) _, _, _, part_start w n S⟩
      case round =>
        obtain ⟨k, hk, rfl, HB, A', C', HP⟩ := hrel
        by_cases hlt : k < n
        · have c1 := cell_below HB.out (hc k hlt)
          have hki : (k : Int) < (n : Int) := by omega
          have HC : Hid _ := fun (_ : Unit) => CloneB (S k) (A k) (C k) wr ((HR.out k hlt).below HB.out) (hS k hlt) (hA k hlt)
          go_wp2_with (go_at_call 9; refine (HC.out ()).mono ?_; rintro e w2 ⟨a2, c2, rfl, hb2, hr2, hf2, hcap2⟩; have hrow2 := HP.out.row.of_block (hb2.block _ HP.out.row.lt); have k1 := hrow2.cell hlt; have k2 := hrow2.frozen k; clear hrow2)
          have R1 : Hid _ := part_step HP.out hb2 hr2 hf2 hcap2
          have R2 : Hid _ := (HB.out.trans (hb2.mono HB.out.size)).setCell (p := ⟨w.heap.size, k, none⟩) (Nat.le_refl _) (.slice a2 (S k).size c2)
          go_roundw
          case rel => exact ⟨k + 1, by omega, by go_num, R2.out, _, _, R1.out⟩
          case measure => simp [intOf]; omega
        · obtain rfl : k = n := by omega
          go_wp2
          go_ret
          exact ⟨_, _, A', C', rfl, HB.out, part_done HP.out, HP.out.caps⟩
end Go.Proofs.Qxb6602824aDoor
