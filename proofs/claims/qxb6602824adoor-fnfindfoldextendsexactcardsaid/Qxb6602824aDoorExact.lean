/-
  mExactOf, walked: the map of each name's first place.
-/
import Derived.Test.Qxb6602824aDoorNames
import Derived.Maps.OwnSet
namespace Go.Proofs.Qxb6602824aDoor
open Go.RowKit Go.PlainAid Go.Deep Go.Maps Go.WideMaps

theorem nums_back (s : ByteArray) : strOfNums ((List.range s.size).map (bt s)) = s := by
  refine ba_ext (by rw [strOfNums_size]; simp) fun i hi => ?_
  rw [strOfNums_size] at hi
  simp only [List.length_map, List.length_range] at hi
  have h1 : i < (strOfNums ((List.range s.size).map (bt s))).size := by rw [strOfNums_size]; simpa using hi
  rw [← get_bt _ i h1]
  have h2 : (strOfNums ((List.range s.size).map (bt s)))[i] = UInt8.ofNat (bt s i).toNat := by
    show ((strOfNums ((List.range s.size).map (bt s))).data)[i] = _
    simp [strOfNums]
  rw [h2]
  have a := bt_nonneg s i
  have b := bt_le s i
  have : (UInt8.ofNat (bt s i).toNat).toNat = (bt s i).toNat := by
    rw [UInt8.toNat_ofNat']
    exact Nat.mod_eq_of_lt (by omega)
  rw [this]; omega

/-- 'string(b)'. -/
theorem conv24 {w : World} {a : Option Addr} {s : ByteArray} (c : Nat) (h : Rb w a s) : (convert 24 9 (.slice a s.size c)).run Tryd.prog w = .ok (.string s) w := by
  rcases h with h0 | ⟨b, o, rfl, hc⟩
  · have es : s = ByteArray.empty := empty_of_size h0 rfl
    cases a with
    | none =>
      rw [run_convert_bytes_nil w 24 5 Tryd.underlying24 Tryd.underlying5 s.size c 9 Tryd.underlying9, es]
    | some ad =>
      rw [run_convert_bytes_string w 24 9 5 _ s.size c Tryd.underlying24 Tryd.underlying5 Tryd.underlying9, h0, run_bytesToString w ad 0 c [] (run_loadCells_list (P := Tryd.prog) w ad [] (fun j v hj => by simp at hj)), es]
      rfl
  · rw [run_convert_bytes_arg w 24 5 Tryd.underlying24 Tryd.underlying5 b o s.size c ((List.range s.size).map (bt s)) (by simp) (fun i hi => by rw [hc i hi]; simp [List.getD, hi]) 9 Tryd.underlying9, nums_back]

def keyS (s : ByteArray) : Lit := .string s.data.toList
theorem keyS_inj {s t : ByteArray} (h : keyS s = keyS t) : s = t := by
  unfold keyS at h
  injection h with h
  have : s.data = t.data := Array.toList_inj.1 h
  cases s; cases t; simp_all

/-- D holds the first place of each of the first k names. -/
structure Good (S : Nat → ByteArray) (k : Nat) (D : DataW Unit) : Prop where
  isMap : IsMap D
  no : ∀ s, (∀ i, i < k → S i ≠ s) → Maps.has D (keyS s) = false
  yes : ∀ i, i < k → (∀ j, j < i → S j ≠ S i) → Maps.has D (keyS (S i)) = true ∧ D.atKey (keyS (S i)) (.lit (.int .i64 0)) = .lit (.int .i64 i)

theorem good_start (S : Nat → ByteArray) : Good S 0 (.map []) := ⟨⟨_, rfl⟩, fun _ _ => rfl, fun _ hi => absurd hi (Nat.not_lt_zero _)⟩
/-- Among the first k that are s there is a first. -/
theorem first_of {S : Nat → ByteArray} {s : ByteArray} : ∀ k, (∃ i, i < k ∧ S i = s) → ∃ i, i < k ∧ S i = s ∧ ∀ j, j < i → S j ≠ s
  | 0, ⟨_, h, _⟩ => absurd h (Nat.not_lt_zero _)
  | k + 1, ⟨i, h, e⟩ => by
    by_cases hk : ∃ i, i < k ∧ S i = s
    · obtain ⟨j, h1, h2, h3⟩ := first_of k hk
      exact ⟨j, by omega, h2, h3⟩
    · exact ⟨i, h, e, fun j hj e' => hk ⟨j, by omega, e'⟩⟩
theorem good_has {S : Nat → ByteArray} {k : Nat} {D : DataW Unit} (h : Good S k D) {s : ByteArray} (hs : ∃ i, i < k ∧ S i = s) : Maps.has D (keyS s) = true := by
  obtain ⟨i, h1, h2, h3⟩ := first_of k hs
  have := (h.yes i h1 (fun j hj => by rw [h2]; exact h3 j hj)).1
  rwa [h2] at this
theorem good_seen {S : Nat → ByteArray} {k : Nat} {D : DataW Unit} (h : Good S k D) (hs : Maps.has D (keyS (S k)) = true) : Good S (k + 1) D := by
  refine ⟨h.isMap, fun s hn => h.no s (fun i hi => hn i (by omega)), fun i hi hf => ?_⟩
  by_cases e : i < k
  · exact h.yes i e hf
  · obtain rfl : i = k := by omega
    rw [h.no (S i) hf] at hs
    cases hs
theorem good_new {S : Nat → ByteArray} {k : Nat} {D : DataW Unit} (h : Good S k D) (hs : Maps.has D (keyS (S k)) = false) : Good S (k + 1) (D.put (keyS (S k)) (.lit (.int .i64 k))) := by
  refine ⟨?_, fun s hn => ?_, fun i hi hf => ?_⟩
  · obtain ⟨es, rfl⟩ := h.isMap
    exact ⟨_, rfl⟩
  · rw [has_put_other (fun e => hn k (by omega) (keyS_inj e).symm)]
    exact h.no s (fun i hi => hn i (by omega))
  · by_cases e : i < k
    · obtain ⟨h1, h2⟩ := h.yes i e hf
      have hne : keyS (S i) ≠ keyS (S k) := fun e' => by rw [e', hs] at h1; cases h1
      rw [has_put_other hne, atKey_put_other hne]
      exact ⟨h1, h2⟩
    · obtain rfl : i = k := by omega
      exact ⟨has_put_same h.isMap (by trivial) _, atKey_put_same h.isMap (by trivial) _ _⟩

theorem mapLaw : Keyed Tryd.prog 9 := string_keyed Tryd.underlying9
theorem zero3 (w : World) : (zeroValue 3).run Tryd.prog w = .ok (.int .i64 0) w := by kernel_rfl
theorem key9 {s : ByteArray} (h : s.size ≤ 1048576) : keyOf Tryd.prog 9 (.string s) = some (keyS s) := keyOf_string_mk Tryd.underlying9 (by unfold maxLen; omega)

/-- 'make(map[string]int, n)'. -/
theorem make30 (n : Int) (w : World) : (Instr.makeMap 30 (some (.int .i64 n))).run Tryd.prog w = .ok (.map (some w.heap.size)) (w.alloc (.map #[] 0)) := by
  simp [Instr.makeMap, run_underlying Tryd.underlying30, asInt, asIntOf, Result.andThen]

/-- What mExactOf leaves. -/
def IsExact (w : World) (n : Nat) (S : Nat → ByteArray) (e : Ending) (w' : World) : Prop :=
  e = .returned (.map (some w.heap.size)) ∧ Below w.heap.size w w' ∧ ∃ D, w'.ownsMap Tryd.prog 9 (plainElem Tryd.prog 3) w.heap.size n D ∧ Good S n D

set_option maxRecDepth 100000 in
theorem exact10 (n : Nat) (S : Nat → ByteArray) (A : Nat → Option Addr) (C : Nat → Nat) (a : Option Addr) (c : Nat) (w : World) (hs : Rn w a n A C S) (h : n ≤ 65536) (hS : ∀ i, i < n → (S i).size ≤ 1048576) :
    Calls Tryd.prog 10 #[.slice a n c] w fun e w' => IsExact w n S e w' := by
  have hmm := make30
  by_cases h0 : n = 0
  · have H0 : Hid _ := h0
    clear h0
    go_enter Tryd.func10, Tryd.ntmps10
    go_wp2
    go_loopw [4] (fun i wr => i = .int .i64 0 ∧ wr = w.alloc (.map #[] 0)) (fun _ _ => 0)
    case atStart => exact ⟨rfl, rfl⟩
    case round =>
      obtain ⟨rfl, rfl⟩ := hrel
      have h0 := H0.out
      have h0i : ¬ (0 : Int) < (n : Int) := by omega
      have h0n : ¬ 0 < n := by omega
      clear h0
      go_wp2
      go_ret
      refine ⟨rfl, (Below.refl _ _).alloc (Nat.le_refl _) _, _, World.ownsMap.mono (World.ownsMap_made _ _ _ _) (Nat.zero_le _), ?_⟩
      rw [H0.out]
      exact good_start S
  · obtain ⟨b, o, rfl, hc⟩ := hs.1.resolve_left h0
    have HR : Hid _ := hs.2
    clear hs
    go_enter Tryd.func10, Tryd.ntmps10
    go_wp2
    go_loopw [4] (fun i wr => ∃ k : Nat, k ≤ n ∧ i = .int .i64 k ∧ Hid (Below w.heap.size w wr) ∧ ∃ D, wr.ownsMap Tryd.prog 9 (plainElem Tryd.prog 3) w.heap.size k D ∧ Hid (Good S k D)) (fun i _ => n - (intOf i).toNat)
    case atStart => exact ⟨0, Nat.zero_le _, rfl, (Below.refl _ _).alloc (Nat.le_refl _) _, _, World.ownsMap_made _ _ _ _, good_start S⟩
    case round =>
      obtain ⟨k, hk, rfl, HB, D, hown, HG⟩ := hrel
      by_cases hlt : k < n
      · have c1 := cell_below HB.out (hc k hlt)
        have hki : (k : Int) < (n : Int) := by omega
        have hcv := conv24 (C k) ((HR.out k hlt).below HB.out)
        have hkey := key9 (hS k hlt)
        cases hh : Maps.has D (keyS (S k))
        · have R1 : Hid _ := good_new HG.out hh
          go_wp2_with (first
            | (at_lookup; refine wpList_lookup_own_ok_int _ rfl _ _ 30 rfl 9 3 .i64 mapLaw Tryd.underlying30 Tryd.underlying3 (zero3 _) w.heap.size k D rfl hown _ _ rfl hkey ?_; intro cc hat hwc; rw [hh])
            | (at_mapUpdate; refine wpList_mapUpdate_own _ rfl _ _ _ 30 rfl 9 3 mapLaw Tryd.underlying30 _ w.heap.size k _ rfl hown (by unfold maxLen; omega) _ _ _ rfl rfl hkey _ [] (plainElem_int Tryd.underlying3 (WalkArith.wf_i64 (by omega))) ?_; intro w1 hown1 hgrow1)
            | go_in)
          have R2 : Hid _ := HB.out.grown hgrow1 HB.out.size (fun j hj => by cases hj; exact Nat.le_refl _)
          go_roundw
          case rel => exact ⟨k + 1, by omega, by go_num, R2.out, _, hown1, R1.out⟩
          case measure => simp [intOf]; omega
        · have R1 : Hid _ := good_seen HG.out hh
          go_wp2_with (first
            | (at_lookup; refine wpList_lookup_own_ok_int _ rfl _ _ 30 rfl 9 3 .i64 mapLaw Tryd.underlying30 Tryd.underlying3 (zero3 _) w.heap.size k D rfl hown _ _ rfl hkey ?_; intro cc hat hwc; rw [hh])
            | go_in)
          go_roundw
          case rel => exact ⟨k + 1, by omega, by go_num, HB.out, _, hown.mono (Nat.le_succ _), R1.out⟩
          case measure => simp [intOf]; omega
      · obtain rfl : k = n := by omega
        go_wp2
        go_ret
        exact ⟨rfl, HB.out, D, hown, HG.out⟩
end Go.Proofs.Qxb6602824aDoor
