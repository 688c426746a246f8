/-
  The arguments, opened: slices of bytes, of numbers, of names.
-/
import Derived.Test.Qxb6602824aDoorParts
import Derived.Deep.Matrix
import Derived.OpenShut
namespace Go.Proofs.Qxb6602824aDoor
open Go.RowKit Go.PlainAid Go.Deep Go.ChangeShapes

theorem plainAt (b o i : Nat) : (⟨b, o, none⟩ : Addr).add i = ⟨b, o + i, none⟩ := by unfold Addr.add; split <;> simp_all
theorem Tryd.cells24 : Tryd.prog.cellsOf 24 = 1 := by kernel_rfl
theorem Tryd.cells5 : Tryd.prog.cellsOf 5 = 1 := by kernel_rfl
theorem Tryd.cells3 : Tryd.prog.cellsOf 3 = 1 := by kernel_rfl

/-- Numbers that are bytes, as bytes. -/
theorem bytes_of (zs : List Int) (n : Nat) (hn : n ≤ zs.length) (hz : ∀ x ∈ zs, (Lit.int .u8 x).wf = true) : ∃ s : ByteArray, s.size = n ∧ ∀ i, i < n → bt s i = zs.getD i 0 := by
  refine ⟨strOfNums (zs.take n), by rw [strOfNums_size, List.length_take]; omega, fun i hi => ?_⟩
  have h1 : i < (strOfNums (zs.take n)).size := by rw [strOfNums_size, List.length_take]; omega
  rw [← get_bt _ i h1]
  have hi2 : i < zs.length := by omega
  have h2 : (strOfNums (zs.take n))[i] = UInt8.ofNat (zs[i]).toNat := by
    show ((strOfNums (zs.take n)).data)[i] = _
    simp [strOfNums]
  have hw : 0 ≤ zs[i] ∧ zs[i] ≤ 255 := by simpa [Lit.wf, IntKind.min, IntKind.max, IntKind.signed, IntKind.bits] using hz _ (List.getElem_mem hi2)
  rw [h2]
  have : (UInt8.ofNat (zs[i]).toNat).toNat = (zs[i]).toNat := by
    rw [UInt8.toNat_ofNat']
    exact Nat.mod_eq_of_lt (by omega)
  rw [this]
  simp [List.getD, hi2]
  omega

section
variable {H : Type} {enc : TypeId × Value → H} {W : World}
theorem open_b {a : Option Addr} {len cap : Nat} {d : DataW H} {ps : List MemPlace} (h : DataW.Trod enc Tryd.prog W 0 (fun _ => true) true 24 (.slice a len cap) d ps) :
    ∃ s : ByteArray, s.size = len ∧ Rb W a s ∧ len ≤ 9223372036854775807 ∧ (a = none → s.size = 0 ∧ cap = 0) := by
  obtain ⟨fuel, h⟩ := h
  rcases open_ints Tryd.underlying24 Tryd.underlying5 Tryd.cells5 h with ⟨h1, _⟩ | ⟨ad, l, cp, zs, h1, _, h2, h3, h4, _, h5, h6⟩
  · simp [Value.cells] at h1
    obtain ⟨rfl, rfl, rfl⟩ := h1
    exact ⟨ByteArray.empty, rfl, .inl rfl, by omega, fun _ => ⟨rfl, rfl⟩⟩
  · simp [Value.cells] at h1
    obtain ⟨rfl, rfl, rfl⟩ := h1
    simp only [if_true] at h4
    obtain ⟨s, hs, hb⟩ := bytes_of zs len (by omega) h6
    refine ⟨s, hs, ?_, by unfold maxLen at h3; omega, fun h => by cases h⟩
    by_cases h0 : s.size = 0
    · exact .inl h0
    · obtain ⟨b, o, sp⟩ := ad
      have hsp : sp = none := by simpa [Addr.add] using World.cell?_spot (h5 0 (by omega))
      subst hsp
      exact .inr ⟨b, o, rfl, fun i hi => by rw [← plainAt, h5 i (by omega), hb i (by omega)]⟩
theorem open_i {a : Option Addr} {len cap : Nat} {d : DataW H} {ps : List MemPlace} (h : DataW.Trod enc Tryd.prog W 0 (fun _ => true) true 23 (.slice a len cap) d ps) :
    ∃ Z : Nat → Int, Ri W a len Z ∧ len ≤ 9223372036854775807 ∧ (a = none → len = 0 ∧ cap = 0) := by
  obtain ⟨fuel, h⟩ := h
  rcases open_ints Tryd.underlying23 Tryd.underlying3 Tryd.cells3 h with ⟨h1, _⟩ | ⟨ad, l, cp, zs, h1, _, h2, h3, h4, _, h5, h6⟩
  · simp [Value.cells] at h1
    obtain ⟨rfl, rfl, rfl⟩ := h1
    exact ⟨fun _ => 0, .inl rfl, by omega, fun _ => ⟨rfl, rfl⟩⟩
  · simp [Value.cells] at h1
    obtain ⟨rfl, rfl, rfl⟩ := h1
    simp only [if_true] at h4
    refine ⟨fun i => zs.getD i 0, ?_, by unfold maxLen at h3; omega, fun h => by cases h⟩
    by_cases h0 : len = 0
    · exact .inl h0
    · obtain ⟨b, o, sp⟩ := ad
      have hsp : sp = none := by simpa [Addr.add] using World.cell?_spot (h5 0 (by omega))
      subst hsp
      exact .inr ⟨b, o, rfl, fun i hi => by rw [← plainAt, h5 i (by omega)]⟩
theorem open_n {a : Option Addr} {len cap : Nat} {d : DataW H} {ps : List MemPlace} (h : DataW.Trod enc Tryd.prog W 0 (fun _ => true) true 22 (.slice a len cap) d ps) :
    ∃ (A : Nat → Option Addr) (C : Nat → Nat) (S : Nat → ByteArray), Rn W a len A C S ∧ len ≤ 9223372036854775807 ∧ (a = none → len = 0 ∧ cap = 0) ∧ (∀ i, i < len → (S i).size ≤ 9223372036854775807) ∧ (∀ i, i < len → A i = none → (S i).size = 0 ∧ C i = 0) := by
  obtain ⟨fuel, h⟩ := h
  rcases open_int_rows Tryd.underlying22 Tryd.underlying24 Tryd.underlying5 Tryd.cells24 Tryd.cells5 h with ⟨h1, _⟩ | ⟨ad, l, cp, A, L, C, Z, h1, _, h2, h3, _, h5⟩
  · simp [Value.cells] at h1
    obtain ⟨rfl, rfl, rfl⟩ := h1
    exact ⟨fun _ => none, fun _ => 0, fun _ => ByteArray.empty, ⟨.inl rfl, fun i hi => absurd hi (Nat.not_lt_zero _)⟩, by omega, fun _ => ⟨rfl, rfl⟩, fun i hi => absurd hi (Nat.not_lt_zero _), fun i hi => absurd hi (Nat.not_lt_zero _)⟩
  · simp [Value.cells] at h1
    obtain ⟨rfl, rfl, rfl⟩ := h1
    have each : ∀ r, r < len → ∃ s : ByteArray, s.size = L r ∧ ∀ i, i < L r → bt s i = (Z r).getD i 0 := fun r hr => by
      obtain ⟨_, g1, _, g2, g3, _⟩ := h5 r (by omega)
      exact bytes_of (Z r) (L r) (by omega) g3
    obtain ⟨S, hS⟩ := choose_lt (α := ByteArray) each
    refine ⟨A, C, S, ⟨?_, fun i hi => ?_⟩, by unfold maxLen at h3; omega, (fun h => by cases h), fun i hi => ?_, fun i hi hA => ?_⟩
    · by_cases h0 : len = 0
      · exact .inl h0
      · obtain ⟨b, o, sp⟩ := ad
        have hsp : sp = none := by simpa [Addr.add] using World.cell?_spot (h5 0 (by omega)).1
        subst hsp
        exact .inr ⟨b, o, rfl, fun i hi => by rw [← plainAt, (h5 i (by omega)).1, (hS i hi).1]⟩
    · obtain ⟨_, g1, g4, g2, g3, g5, g6⟩ := h5 i (by omega)
      obtain ⟨s1, s2⟩ := hS i hi
      by_cases h0 : (S i).size = 0
      · exact .inl h0
      · cases hA : A i with
        | none => have := g5 hA; omega
        | some a' =>
          obtain ⟨_, hcell⟩ := g6 a' hA
          obtain ⟨b, o, sp⟩ := a'
          have hsp : sp = none := by simpa [Addr.add] using World.cell?_spot (hcell 0 (by omega))
          subst hsp
          exact .inr ⟨b, o, rfl, fun j hj => by rw [← plainAt, hcell j (by omega), s2 j (by omega)]⟩
    · obtain ⟨_, g1, g4, _⟩ := h5 i (by omega)
      have := (hS i hi).1
      unfold maxLen at g4
      omega
    · obtain ⟨_, g1, _, _, _, g5, _⟩ := h5 i (by omega)
      have := (hS i hi).1
      have := g5 hA
      omega
end
end Go.Proofs.Qxb6602824aDoor
