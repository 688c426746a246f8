/-
  zzb1LikeHead: the literal start of a pattern, walked.
-/
import Derived.Test.Qxb6602631aDoorLeaf
import Derived.Test.Qxb6602631aDoorPlain
import Derived.Deep.RegionHeld3
import Derived.Deep.QuietTactic
import Derived.BigQuiet
import Derived.Laws.BytesArg
namespace Go.Proofs.Qxb6602631aDoor
open Go.RowKit Go.PlainAid

theorem Tryd.info5 : (Tryd.prog.info? 5).map (fun i => (i.zero, i.size, i.bytes)) = some (some (.int .u8 0), 1, 1) := by kernel_rfl

def cellsL (l : List UInt8) : List Value := l.map fun c => Value.int .u8 (c.toNat : Int)
theorem cellsL_length (l : List UInt8) : (cellsL l).length = l.length := by simp [cellsL]
theorem cellsL_snoc (l : List UInt8) (c : UInt8) : cellsL l ++ [.int .u8 (c.toNat : Int)] = cellsL (l ++ [c]) := by simp [cellsL]

/-- string(b) of an owned row of bytes. -/
theorem conv_own {W : World} {B : Nat} {v : Value} {l : List UInt8} (h : W.ownsRow B 5 1 v l.length (cellsL l)) : (convert 37 9 v).run Tryd.prog W = .ok (.string ⟨l.toArray⟩) W := by
  obtain ⟨h1, h2⟩ := h
  rcases h2 with ⟨rfl, h0⟩ | ⟨g, cap, cur, rfl, hg, hh, hn, hm, hc, ht⟩
  · have : l = [] := List.eq_nil_of_length_eq_zero h0
    subst this
    exact run_convert_bytes_nil W 37 5 Tryd.underlying37 Tryd.underlying5 0 0 9 Tryd.underlying9
  · refine run_convert_bytes_back W 37 9 5 ⟨g, 0, none⟩ cap l Tryd.underlying37 Tryd.underlying5 Tryd.underlying9 fun j hj => ?_
    have := World.ownsRow.cellAt (w := W) (base := B) (e := 5) (size := 1) (g := g) (n := l.length) (cap := cap) (xs := cellsL l) ⟨h1, .inr ⟨g, cap, cur, rfl, hg, hh, hn, hm, hc, ht⟩⟩ j (by omega)
    rw [show (⟨g, 0, none⟩ : Addr).add j = ⟨g, j, none⟩ by unfold Addr.add; split <;> simp_all, this]
    simp [cellsL, hj]

theorem head_wild (P : List UInt8) (k : Nat) (c : UInt8) (h : P[k]? = some c) (hw : c = 37 ∨ c = 95) : headL (P.drop k) = some ([], P.drop k) := by
  have e : P.drop k = c :: P.drop (k + 1) := by
    obtain ⟨hk, hc⟩ := List.getElem?_eq_some_iff.1 h
    rw [List.drop_eq_getElem_cons hk, hc]
  rw [e]; exact headL_wild _ _ hw
theorem drop_cons (P : List UInt8) (k : Nat) (c : UInt8) (h : P[k]? = some c) : P.drop k = c :: P.drop (k + 1) := by
  obtain ⟨hk, hc⟩ := List.getElem?_eq_some_iff.1 h
  rw [List.drop_eq_getElem_cons hk, hc]
theorem at_bt (p : ByteArray) (k : Nat) (h : k < p.size) : p.data.toList[k]? = some p[k] := by
  rw [List.getElem?_eq_getElem (by simpa using h)]; rfl
theorem bt_eq (p : ByteArray) (k : Nat) (h : k < p.size) (n : UInt8) : ((bt p k == (n.toNat : Int)) = true) ↔ p[k] = n := by
  rw [bt_get p k h, beq_iff_eq]
  exact u8_int
theorem bt_ne (p : ByteArray) (k : Nat) (h : k < p.size) (n : UInt8) : ((bt p k == (n.toNat : Int)) = false) ↔ p[k] ≠ n := by
  rw [← Bool.not_eq_true, bt_eq p k h n]

/-- What the loop has gathered: l, and what is still to be read lies from k on. -/
def HeadInv (P : List UInt8) (k : Nat) (l : List UInt8) : Prop := headL P = (headL (P.drop k)).map (fun x => (l ++ x.1, x.2)) ∧ l.length ≤ k
theorem hi_start (P : List UInt8) : HeadInv P 0 [] := ⟨by cases h : headL P <;> simp [h], Nat.le_refl _⟩
theorem hi_lit (p : ByteArray) (k : Nat) (l : List UInt8) (h : HeadInv p.data.toList k l) (hk : k < p.size) (h1 : (bt p k == 37) = false) (h2 : (bt p k == 95) = false) (h3 : (bt p k == 92) = false) : HeadInv p.data.toList (k + 1) (l ++ [p[k]]) := by
  refine ⟨?_, by have := h.2; simp; omega⟩
  rw [h.1, drop_cons _ k _ (at_bt p k hk), headL_lit _ _ (by have a := (bt_ne p k hk 37).1 h1; have b := (bt_ne p k hk 95).1 h2; rintro (e | e); exact a e; exact b e) ((bt_ne p k hk 92).1 h3)]
  cases headL (List.drop (k + 1) p.data.toList) <;> simp
theorem hi_esc (p : ByteArray) (k : Nat) (l : List UInt8) (h : HeadInv p.data.toList k l) (hk : k + 1 < p.size) (h3 : (bt p k == 92) = true) : HeadInv p.data.toList (k + 2) (l ++ [p[k + 1]]) := by
  refine ⟨?_, by have := h.2; simp; omega⟩
  have e := (bt_eq p k (by omega) 92).1 h3
  rw [h.1, drop_cons _ k _ (at_bt p k (by omega)), drop_cons _ (k + 1) _ (at_bt p (k + 1) hk), e, headL_esc]
  cases headL (List.drop (k + 1 + 1) p.data.toList) <;> simp
theorem hi_bad (p : ByteArray) (k : Nat) (l : List UInt8) (h : HeadInv p.data.toList k l) (hk : k + 1 = p.size) (h3 : (bt p k == 92) = true) : headL p.data.toList = none := by
  have e := (bt_eq p k (by omega) 92).1 h3
  rw [h.1, drop_cons _ k _ (at_bt p k (by omega)), e, List.drop_of_length_le (by rw [← Lib.size_eq]; omega), headL_bad]
  rfl
theorem hi_stop (p : ByteArray) (k : Nat) (l : List UInt8) (h : HeadInv p.data.toList k l) (hk : k < p.size) (h1 : (bt p k == 37) = true ∨ (bt p k == 95) = true) : headL p.data.toList = some (l, p.data.toList.drop k) := by
  rw [h.1, head_wild _ k _ (at_bt p k hk) (by rcases h1 with h1 | h1; exact .inl ((bt_eq p k hk 37).1 h1); exact .inr ((bt_eq p k hk 95).1 h1))]
  simp
theorem hi_end (p : ByteArray) (k : Nat) (l : List UInt8) (h : HeadInv p.data.toList k l) (hk : ¬ k < p.size) : headL p.data.toList = some (l, p.data.toList.drop k) := by
  rw [h.1, List.drop_of_length_le (by rw [← Lib.size_eq]; omega)]
  simp [headL]

theorem ret3_str {a b c : ByteArray} {d : Bool} (h : a = b) : Ending.returned (.tuple #[.string c, .string a, .bool d]) = .returned (.tuple #[.string c, .string b, .bool d]) := by rw [h]
theorem ext_drop (p : ByteArray) (k : Nat) : p.extract k p.size = ⟨(p.data.toList.drop k).toArray⟩ := by
  rw [Lib.extract_eq]
  congr 2
  exact List.take_of_length_le (by rw [List.length_drop, Lib.size_eq]; omega)
/-- One byte more behind an owned row. -/
theorem grow_one {w wr w1 : World} {v v' : Value} {o : Obj} {l : List UInt8} {c : UInt8} {z : Int} (hbel : Below w.heap.size w wr) (hown : wr.ownsRow w.heap.size 5 1 v l.length (cellsL l))
    (hown' : w1.ownsRow w.heap.size 5 1 v' (l.length + 1) (cellsL l ++ [.int .u8 z])) (hg : (wr.alloc o).grownBy w1 v.ownBlock) (hz : z = (c.toNat : Int)) :
    w1.ownsRow w.heap.size 5 1 v' (l ++ [c]).length (cellsL (l ++ [c])) ∧ Below w.heap.size w w1 := by
  subst hz
  rw [cellsL_snoc] at hown'
  refine ⟨by simpa using hown', ?_⟩
  exact (hbel.alloc hbel.size o).grown hg (by have := hbel.size; simp; omega) (fun k hk => (hown.lt k hk).1)

set_option maxRecDepth 100000 in
set_option maxHeartbeats 1000000 in
theorem head15 (p : ByteArray) (w : World) (hs : p.size ≤ 4096) :
    Calls Tryd.prog 15 #[.string p] w fun e w' => Below w.heap.size w w' ∧
      ((headL p.data.toList = none ∧ e = .returned (.tuple #[.string ⟨#[]⟩, .string ⟨#[]⟩, .bool true])) ∨
       ∃ l q, headL p.data.toList = some (l, q) ∧ e = .returned (.tuple #[.string ⟨l.toArray⟩, .string ⟨q.toArray⟩, .bool false])) := by
  have hb := get_bt p
  obtain ⟨i0, hi, hz0, hz1, hz2⟩ := info_parts Tryd.info5
  go_enter Tryd.func15, Tryd.ntmps15
  go_wp2
  go_loopw [5, 6] (fun v i wr => ∃ (k : Nat) (l : List UInt8), k ≤ p.size ∧ i = .int .i64 k ∧ wr.ownsRow w.heap.size 5 1 v l.length (cellsL l) ∧ Below w.heap.size w wr ∧ Hid (HeadInv p.data.toList k l)) (fun _ i _ => p.size - (intOf i).toNat)
  case atStart => exact ⟨0, [], Nat.zero_le _, rfl, World.ownsRow_nil _ _ _ _, Below.refl _ _, hi_start _⟩
  case round =>
    obtain ⟨k, l, hk, rfl, hown, hbel, H⟩ := hrel
    have hlk := H.out.2
    have hwz := hbel.size
    have hcv : ∀ nq, (convert 37 9 u5).run Tryd.prog (wr.drewN nq) = .ok (.string ⟨l.toArray⟩) (wr.drewN nq) := fun nq => conv_own hown
    have hkp : (k : Int) ≤ (p.size : Int) := by omega
    by_cases hlt : k < p.size
    · by_cases h37 : (bt p k == 37) = true
      · go_wp2
        go_quiet (fail)
        go_wp2
        go_ret3
        refine ⟨below_drewN hbel _, .inr ⟨l, _, hi_stop p k l H.out hlt (.inl h37), ?_⟩⟩
        exact ret3_str (ext_drop p k)
      by_cases h95 : (bt p k == 95) = true
      · rw [Bool.not_eq_true] at h37
        go_wp2
        go_quiet (fail)
        go_wp2
        go_ret3
        refine ⟨below_drewN hbel _, .inr ⟨l, _, hi_stop p k l H.out hlt (.inr h95), ?_⟩⟩
        exact ret3_str (ext_drop p k)
      rw [Bool.not_eq_true] at h37 h95
      by_cases h92 : (bt p k == 92) = true
      · by_cases hend : k + 1 = p.size
        · have he : ((k : Int) + 1 == (p.size : Int)) = true := by rw [beq_iff_eq]; omega
          have hbad := hi_bad p k l H.out hend h92
          have HB : Hid _ := hbad
          have HE : Hid _ := hend
          clear hbad hend
          go_wp2
          go_ret3
          exact ⟨hbel, .inl ⟨HB.out, rfl⟩⟩
        have he : ((k : Int) + 1 == (p.size : Int)) = false := by rw [Bool.eq_false_iff]; simp; omega
        have hk1 : (k : Int) + 1 < (p.size : Int) := by omega
        go_wp2_with (at_builtin; refine wpList_append_own _ rfl _ _ 37 rfl w.heap.size 5 i0 (.int .u8 0) 1 1 Tryd.underlying37 hi hz0 hz1 hz2 rfl (by decide) _ _ _ rfl (hown.alloc _) ⟨wr.heap.size, 0, none⟩ 1 1 [.int .u8 (bt p (k + 1))] rfl rfl (cell_one_new _ _ _) (by intro u hu; simp at hu; subst hu; rfl) (by unfold maxLen; omega) (by omega) (by simp; omega) ?_)
        intro v' w1 hown' hgrow _
        have R := grow_one hbel hown hown' hgrow (bt_get p (k + 1) (by omega))
        clear hown' hgrow hown hcv
        go_wp2
        go_roundw
        case rel => exact ⟨k + 2, l ++ [p[k + 1]], by omega, by go_num, R.1, R.2, hi_esc p k l H.out (by omega) h92⟩
        case measure => simp [intOf]; omega
      · rw [Bool.not_eq_true] at h92
        go_wp2_with (at_builtin; refine wpList_append_own _ rfl _ _ 37 rfl w.heap.size 5 i0 (.int .u8 0) 1 1 Tryd.underlying37 hi hz0 hz1 hz2 rfl (by decide) _ _ _ rfl (hown.alloc _) ⟨wr.heap.size, 0, none⟩ 1 1 [.int .u8 (bt p k)] rfl rfl (cell_one_new _ _ _) (by intro u hu; simp at hu; subst hu; rfl) (by unfold maxLen; omega) (by omega) (by simp; omega) ?_)
        intro v' w1 hown' hgrow _
        have R := grow_one hbel hown hown' hgrow (bt_get p k hlt)
        clear hown' hgrow hown hcv
        go_wp2
        go_roundw
        case rel => exact ⟨k + 1, l ++ [p[k]], by omega, by go_num, R.1, R.2, hi_lit p k l H.out hlt h37 h95 h92⟩
        case measure => simp [intOf]; omega
    · go_wp2
      go_quiet (fail)
      go_wp2
      go_ret3
      refine ⟨below_drewN hbel _, .inr ⟨l, _, hi_end p k l H.out hlt, ?_⟩⟩
      exact ret3_str (ext_drop p k)
end Go.Proofs.Qxb6602631aDoor
