/-
  What like keeps: lemmas outside the walk.
-/
import Derived.Test.Qxb6602631aDoorSmall
import Derived.Deep.DrawnRows
namespace Go.Proofs.Qxb6602631aDoor
open Go.RowKit Go.PlainAid
attribute [local go_sem] run_store_float

theorem bcell {W w1 : World} (hb : Below W.heap.size W w1) : (∀ b o, b < W.heap.size → w1.cell? ⟨b, o, none⟩ = W.cell? ⟨b, o, none⟩) ∧ (∀ b o, b < W.heap.size → w1.frozen? ⟨b, o, none⟩ = W.frozen? ⟨b, o, none⟩) :=
  ⟨fun b o h => hb.cell (p := ⟨b, o, none⟩) h, fun b o h => hb.frozen (p := ⟨b, o, none⟩) h⟩

theorem field40 (a x b : Bool) (W : World) : (Instr.field 40 (.agg #[.bool a, .bool x, .bool b]) 1).run Tryd.prog W = .ok (.bool x) W := by kernel_rfl
attribute [local go_sem] field40


theorem setCells_size (b : Nat) : ∀ (vs : List Value) (o : Nat) (w : World), (w.setCells b o vs).heap.size = w.heap.size
  | [], _, _ => rfl
  | v :: r, o, w => by rw [World.setCells, setCells_size b r]; simp
theorem setCells_below {w : World} {b B : Nat} (hB : B ≤ b) : ∀ (vs : List Value) (o : Nat) (W : World), Below B w W → Below B w (W.setCells b o vs)
  | [], _, _, h => h
  | v :: r, o, W, h => by rw [World.setCells]; exact setCells_below hB r (o + 1) _ (h.setCell hB v)

/-- The world behind 'p = unpadded(p, datum{})': a's box as it was laid, p's box as it was stored. -/
structure Boxes (w W : World) (cs : Array Value) (e2 : ByteArray) : Prop where
  ha : ∀ o, W.cell? ⟨w.heap.size, o, none⟩ = cs[o]?
  hp : W.cell? ⟨w.heap.size + 1, 11, none⟩ = some (.string e2)
  bel : Below w.heap.size w W
  size : w.heap.size + 2 ≤ W.heap.size

theorem mid_facts {w w1 w2 : World} {cs ds : Array Value} {vs : List Value} {e2 : ByteArray} (hb : Below ((w.alloc (.cells cs 47)).alloc (.cells ds 47)).heap.size ((w.alloc (.cells cs 47)).alloc (.cells ds 47)) w1) (hb2 : Below w1.heap.size w1 w2)
    (hl : vs.length = ds.size) (h11 : vs[11]? = some (.string e2)) : Boxes w (w2.setCells (w.heap.size + 1) 0 vs) cs e2 := by
  have hz := hb.size
  simp at hz
  have hz2 := hb2.size
  have ca : ∀ o, w2.cell? ⟨w.heap.size, o, none⟩ = cs[o]? := fun o => by
    rw [hb2.cell (p := ⟨w.heap.size, o, none⟩) (by simp; omega), hb.cell (p := ⟨w.heap.size, o, none⟩) (by simp; omega)]
    exact cell_of_row _ _ _ _ 47 (0, 0) (heap_alloc2_old w _ _)
  have cp : ∀ o, w2.cell? ⟨w.heap.size + 1, o, none⟩ = ds[o]? := fun o => by
    rw [hb2.cell (p := ⟨w.heap.size + 1, o, none⟩) (by simp; omega), hb.cell (p := ⟨w.heap.size + 1, o, none⟩) (by simp)]
    exact cell_of_row _ _ _ _ 47 (0, 0) (heap_alloc2_new w _ _)
  have hlt : 11 < vs.length := (List.getElem?_eq_some_iff.1 h11).1
  refine ⟨fun o => ?_, ?_, ?_, ?_⟩
  · rw [World.cell?_setCells_out (w.heap.size + 1) vs 0 w2 ⟨w.heap.size, o, none⟩ (fun h => by simp at h)]
    exact ca o
  · have := World.cell?_setCells_in (w.heap.size + 1) vs 0 w2 (fun j hj => by rw [Nat.zero_add, cp j]; simp [show j < ds.size by omega]) 11 hlt
    rw [Nat.zero_add] at this
    rw [this, (List.getElem?_eq_some_iff.1 h11).2]
  · have b1 : Below w.heap.size w w2 := (((Below.refl _ w).alloc (Nat.le_refl _) _).alloc (by simp) _).trans ((hb.mono (by simp; omega)).trans (hb2.mono (by omega)))
    exact setCells_below (by omega) vs 0 w2 b1
  · rw [setCells_size]; omega

def strLen : Value → Nat
  | .string s => s.size
  | _ => 0
/-- What the loop has gathered, by what is left of the pattern. -/
def RInv (P : List UInt8) (r : ByteArray) (l : List UInt8) : Prop := headL P = (headL r.data.toList).map (fun x => (l ++ x.1, x.2)) ∧ l.length + r.size ≤ P.length

theorem r_cons (r : ByteArray) (h : 0 < r.size) : r.data.toList = r[0] :: (r.extract 1 r.size).data.toList := by
  have e : (r.extract 1 r.size).data.toList = r.data.toList.drop 1 := by
    rw [Lib.extract_data]
    exact List.take_of_length_le (by rw [List.length_drop, ← Lib.size_eq]; omega)
  rw [e]
  exact drop_cons r.data.toList 0 _ (at_bt r 0 h)
theorem ri_start (P : ByteArray) : RInv P.data.toList P [] := ⟨by cases headL P.data.toList <;> simp, by rw [← Lib.size_eq]; simp⟩
theorem r_size (r : ByteArray) : (r.extract 1 r.size).size = r.size - 1 := by simp
theorem ri_lit {P : List UInt8} {r : ByteArray} {l : List UInt8} (h : RInv P r l) (hk : 0 < r.size) (h1 : (bt r 0 == 37) = false) (h2 : (bt r 0 == 95) = false) (h3 : (bt r 0 == 92) = false) : RInv P (r.extract 1 r.size) (l ++ [r[0]]) := by
  refine ⟨?_, by have := h.2; rw [r_size]; simp; omega⟩
  rw [h.1, r_cons r hk, headL_lit _ _ (by have a := (bt_ne r 0 hk 37).1 h1; have b := (bt_ne r 0 hk 95).1 h2; rintro (e | e); exact a e; exact b e) ((bt_ne r 0 hk 92).1 h3)]
  cases headL (r.extract 1 r.size).data.toList <;> simp
theorem ri_esc {P : List UInt8} {r r1 : ByteArray} {l : List UInt8} (h : RInv P r l) (hk : 1 < r.size) (h3 : (bt r 0 == 92) = true) (hr : r1 = r.extract 1 r.size) (h0 : 0 < r1.size) : RInv P (r1.extract 1 r1.size) (l ++ [r1[0]]) := by
  refine ⟨?_, by have := h.2; simp only [List.length_append, List.length_singleton]; rw [r_size, hr, r_size]; omega⟩
  rw [h.1, r_cons r (by omega), (bt_eq r 0 (by omega) 92).1 h3, ← hr, r_cons r1 h0, headL_esc]
  cases headL (r1.extract 1 r1.size).data.toList <;> simp
theorem ri_bad {P : List UInt8} {r : ByteArray} {l : List UInt8} (h : RInv P r l) (hk : r.size = 1) (h3 : (bt r 0 == 92) = true) : headL P = none := by
  have e : (r.extract 1 r.size).data.toList = [] := List.eq_nil_of_length_eq_zero (by rw [← Lib.size_eq, r_size]; omega)
  rw [h.1, r_cons r (by omega), (bt_eq r 0 (by omega) 92).1 h3, e, headL_bad]; rfl
theorem ri_stop {P : List UInt8} {r : ByteArray} {l : List UInt8} (h : RInv P r l) (hk : 0 < r.size) (h1 : (bt r 0 == 37) = true ∨ (bt r 0 == 95) = true) : headL P = some (l, r.data.toList) := by
  have hw : r[0] = 37 ∨ r[0] = 95 := by rcases h1 with h1 | h1; exact .inl ((bt_eq r 0 hk 37).1 h1); exact .inr ((bt_eq r 0 hk 95).1 h1)
  rw [h.1]
  rw [r_cons r hk, headL_wild _ _ hw]
  simp
theorem ri_end {P : List UInt8} {r : ByteArray} {l : List UInt8} (h : RInv P r l) (hk : r.size = 0) : headL P = some (l, r.data.toList) := by
  have e : r.data.toList = [] := List.eq_nil_of_length_eq_zero (by rw [← Lib.size_eq]; exact hk)
  rw [h.1, e]; simp [headL]
theorem r_empty (r : ByteArray) (h : r.size = 0) : r.toList.isEmpty = true := by
  have e : r.data.toList = [] := List.eq_nil_of_length_eq_zero (by rw [← Lib.size_eq]; exact h)
  rw [Lib.toList_data, e]; rfl
theorem r_full (r : ByteArray) (h : 0 < r.size) : r.toList.isEmpty = false := by
  rw [Lib.toList_data, r_cons r h]; rfl


theorem Boxes.grow {w wr w4 : World} {cs : Array Value} {e2 : ByteArray} {v : Value} {n : Nat} {xs : List Value} {o : Obj} (M : Boxes w wr cs e2) (hown : wr.ownsRow (w.heap.size + 2) 5 1 v n xs) (hg : (wr.alloc o).drew.grownBy w4 v.ownBlock) : Boxes w w4 cs e2 := by
  have hz := M.size
  have hne : ∀ k, k < w.heap.size + 2 → some k ≠ v.ownBlock := fun k hk e => by have := (hown.lt k e.symm).1; omega
  refine ⟨fun q => ?_, ?_, ?_, ?_⟩
  · rw [hg.cell_far ⟨w.heap.size, q, none⟩ (by simp; omega) (hne _ (by simp))]
    rw [← M.ha q]
    exact World.cell?_of_block (w := wr) (by show (wr.alloc o).heap[w.heap.size]? = _; exact Below.heap_alloc wr o _ (by omega))
  · rw [hg.cell_far ⟨w.heap.size + 1, 11, none⟩ (by simp; omega) (hne _ (by simp)), ← M.hp]
    exact World.cell?_of_block (w := wr) (by show (wr.alloc o).heap[w.heap.size + 1]? = _; exact Below.heap_alloc wr o _ (by omega))
  · exact ((M.bel.alloc (by omega) o).drew).grown hg (by simp; omega) (fun k hk => by have := (hown.lt k hk).1; omega)
  · have := hg.size; simp at this; omega
theorem row_grow {w4 : World} {B : Nat} {v : Value} {l : List UInt8} {c : UInt8} {z : Int} (h : w4.ownsRow B 5 1 v (l.length + 1) (cellsL l ++ [.int .u8 z])) (hz : z = (c.toNat : Int)) : w4.ownsRow B 5 1 v (l ++ [c]).length (cellsL (l ++ [c])) := by
  subst hz
  rw [cellsL_snoc] at h
  simpa using h

/-- like's two answers, where the collation is known deterministic. -/
def likeR (s P : List UInt8) (alike : Bool) : Bool × Bool :=
  match headL P with
  | none => (false, false)
  | some (l, q) =>
    if !(asciiL l) && !alike then (false, false)
    else if q.isEmpty then (s == l, true)
    else if !(Lib.hasPrefix s l) then (false, true)
    else if pctL q then (true, true) else (false, false)
theorem likeR_bad {s P : List UInt8} {k : Bool} (h : headL P = none) : likeR s P k = (false, false) := by unfold likeR; rw [h]
theorem likeR_some {s P l q : List UInt8} {k : Bool} (h : headL P = some (l, q)) : likeR s P k = if !(asciiL l) && !k then (false, false) else if q.isEmpty then (s == l, true) else if !(Lib.hasPrefix s l) then (false, true) else if pctL q then (true, true) else (false, false) := by unfold likeR; rw [h]
theorem ret2_pair {x : Bool × Bool} {a b : Bool} (h : x = (a, b)) : Ending.returned (.tuple #[.bool a, .bool b]) = .returned (.tuple #[.bool x.1, .bool x.2]) := by rw [h]

theorem dropWhile_nil (p : UInt8 → Bool) : ∀ q : List UInt8, (q.dropWhile p = [] ↔ q.all p = true)
  | [] => by simp
  | c :: r => by
    simp only [List.dropWhile]
    split
    · rename_i h; rw [dropWhile_nil p r]; simp [h]
    · rename_i h; simp [h]
/-- Trimming percent signs leaves nothing just where there are only such. -/
theorem trimB_pct (q : List UInt8) : (Lib.trimB q 37).isEmpty = pctL q := by
  have e : (fun c : UInt8 => c == 37) = fun c => decide (c.toNat = 37) := by
    funext c
    rw [Bool.eq_iff_iff]
    simp only [beq_iff_eq, decide_eq_true_eq]
    exact ⟨fun h => by rw [h]; rfl, fun h => UInt8.toNat.inj (by rw [h]; rfl)⟩
  rw [Bool.eq_iff_iff, List.isEmpty_iff]
  unfold Lib.trimB Lib.trimLeftB Lib.trimRightB pctL
  rw [e, dropWhile_nil, List.all_reverse]
  constructor
  · intro h
    have hsplit : q.reverse.takeWhile (fun c => decide (c.toNat = 37)) ++ q.reverse.dropWhile (fun c => decide (c.toNat = 37)) = q.reverse := List.takeWhile_append_dropWhile
    have : q.reverse.all (fun c => decide (c.toNat = 37)) = true := by
      rw [← hsplit, List.all_append, h, Bool.and_true]
      exact List.all_takeWhile
    rwa [List.all_reverse] at this
  · intro h
    have : q.reverse.dropWhile (fun c => decide (c.toNat = 37)) = [] := (dropWhile_nil _ _).2 (by rw [List.all_reverse]; exact h)
    rw [this]; rfl
theorem mk_list (l : List UInt8) : (⟨l.toArray⟩ : ByteArray).data.toList = l := by simp
end Go.Proofs.Qxb6602631aDoor
