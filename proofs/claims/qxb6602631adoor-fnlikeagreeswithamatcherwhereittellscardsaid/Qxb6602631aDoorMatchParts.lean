/-
  What zzb1LikeMatch's loops keep: lemmas on owned rows and on the tokens, outside the walk.
-/
import Derived.Test.Qxb6602631aDoorHead
namespace Go.Proofs.Qxb6602631aDoor
open Go.RowKit Go.PlainAid

theorem Tryd.info4 : (Tryd.prog.info? 4).map (fun i => (i.zero, i.size, i.bytes)) = some (some (.bool false), 1, 1) := by kernel_rfl

def kcells (ts : List (UInt8 × UInt8)) : List Value := ts.map fun x => Value.int .u8 (x.1.toNat : Int)
def lcells (ts : List (UInt8 × UInt8)) : List Value := ts.map fun x => Value.int .u8 (x.2.toNat : Int)
theorem kcells_snoc (ts : List (UInt8 × UInt8)) (a b : UInt8) : kcells ts ++ [.int .u8 (a.toNat : Int)] = kcells (ts ++ [(a, b)]) := by simp [kcells]
theorem lcells_snoc (ts : List (UInt8 × UInt8)) (a b : UInt8) : lcells ts ++ [.int .u8 (b.toNat : Int)] = lcells (ts ++ [(a, b)]) := by simp [lcells]

def sl (g n cap : Nat) : Value := .slice (some ⟨g, 0, none⟩) n cap

/-- The two rows of tokens, and what lay below. -/
structure Toks (w wr : World) (gk gl cap : Nat) (ts : List (UInt8 × UInt8)) : Prop where
  hk : wr.ownsRow w.heap.size 5 1 (.slice (some ⟨gk, 0, none⟩) ts.length cap) ts.length (kcells ts)
  hl : wr.ownsRow w.heap.size 5 1 (.slice (some ⟨gl, 0, none⟩) ts.length cap) ts.length (lcells ts)
  ne : gk ≠ gl
  bel : Below w.heap.size w wr

theorem Toks.k_lt {w wr : World} {gk gl cap : Nat} {ts : List (UInt8 × UInt8)} (h : Toks w wr gk gl cap ts) : w.heap.size ≤ gk ∧ gk < wr.heap.size := h.hk.lt gk rfl
theorem Toks.l_lt {w wr : World} {gk gl cap : Nat} {ts : List (UInt8 × UInt8)} (h : Toks w wr gk gl cap ts) : w.heap.size ≤ gl ∧ gl < wr.heap.size := h.hl.lt gl rfl

/-- Two appends, one a row. -/
theorem Toks.push {w wr w1 w2 : World} {gk gl cap : Nat} {ts : List (UInt8 × UInt8)} {o1 o2 : Obj} {x y : Int} {a b : UInt8} (h : Toks w wr gk gl cap ts) (hx : x = (a.toNat : Int)) (hy : y = (b.toNat : Int))
    (h1 : w1.ownsRow w.heap.size 5 1 (.slice (some ⟨gk, 0, none⟩) (ts.length + 1) cap) (ts.length + 1) (kcells ts ++ [.int .u8 x])) (g1 : (wr.alloc o1).grownBy w1 (some gk))
    (h2 : w2.ownsRow w.heap.size 5 1 (.slice (some ⟨gl, 0, none⟩) (ts.length + 1) cap) (ts.length + 1) (lcells ts ++ [.int .u8 y])) (g2 : (w1.alloc o2).grownBy w2 (some gl)) :
    Toks w w2 gk gl cap (ts ++ [(a, b)]) := by
  subst hx; subst hy
  rw [kcells_snoc ts a b] at h1
  rw [lcells_snoc ts a b] at h2
  have e : (ts ++ [(a, b)]).length = ts.length + 1 := by simp
  have b1 := (h.bel.alloc h.bel.size o1).grown g1 (by have := h.bel.size; simp; omega) (fun k hk => by simp at hk; subst hk; exact h.k_lt.1)
  have b2 := (b1.alloc b1.size o2).grown g2 (by have := b1.size; simp; omega) (fun k hk => by simp at hk; subst hk; exact h.l_lt.1)
  refine ⟨?_, ?_, h.ne, b2⟩
  · rw [e]; exact (h1.alloc o2).kept g2 (.inr (by simp [Value.ownBlock]; exact h.ne))
  · rw [e]; exact h2
theorem Toks.l_mid {w wr w1 : World} {gk gl cap : Nat} {ts : List (UInt8 × UInt8)} {o1 : Obj} (h : Toks w wr gk gl cap ts) (g1 : (wr.alloc o1).grownBy w1 (some gk)) :
    w1.ownsRow w.heap.size 5 1 (.slice (some ⟨gl, 0, none⟩) ts.length cap) ts.length (lcells ts) :=
  (h.hl.alloc o1).kept g1 (.inr (by simp [Value.ownBlock]; exact fun e => h.ne e.symm))

/-- The tokens read so far, and that the rest lies from k on. -/
def TokInv (P : List UInt8) (k : Nat) (ts : List (UInt8 × UInt8)) : Prop := tokL P = (tokL (P.drop k)).map (fun x => ts ++ x) ∧ ts.length ≤ k
theorem ti_start (P : List UInt8) : TokInv P 0 [] := ⟨by cases h : tokL P <;> simp [h], Nat.le_refl _⟩
theorem ti_lit (p : ByteArray) (k : Nat) (l : List (UInt8 × UInt8)) (h : TokInv p.data.toList k l) (hk : k < p.size) (h1 : (bt p k == 37) = false) (h2 : (bt p k == 95) = false) (h3 : (bt p k == 92) = false) : TokInv p.data.toList (k + 1) (l ++ [(76, p[k])]) := by
  refine ⟨?_, by have := h.2; simp; omega⟩
  rw [h.1, drop_cons _ k _ (at_bt p k hk), tokL_lit _ _ (by have a := (bt_ne p k hk 37).1 h1; have b := (bt_ne p k hk 95).1 h2; rintro (e | e); exact a e; exact b e) ((bt_ne p k hk 92).1 h3)]
  cases tokL (List.drop (k + 1) p.data.toList) <;> simp
theorem ti_wild (p : ByteArray) (k : Nat) (l : List (UInt8 × UInt8)) (h : TokInv p.data.toList k l) (hk : k < p.size) (h1 : (bt p k == 37) = true ∨ (bt p k == 95) = true) : TokInv p.data.toList (k + 1) (l ++ [(p[k], p[k])]) := by
  refine ⟨?_, by have := h.2; simp; omega⟩
  rw [h.1, drop_cons _ k _ (at_bt p k hk), tokL_wild _ _ (by rcases h1 with h1 | h1; exact .inl ((bt_eq p k hk 37).1 h1); exact .inr ((bt_eq p k hk 95).1 h1))]
  cases tokL (List.drop (k + 1) p.data.toList) <;> simp
theorem ti_esc (p : ByteArray) (k : Nat) (l : List (UInt8 × UInt8)) (h : TokInv p.data.toList k l) (hk : k + 1 < p.size) (h3 : (bt p k == 92) = true) : TokInv p.data.toList (k + 2) (l ++ [(76, p[k + 1])]) := by
  refine ⟨?_, by have := h.2; simp; omega⟩
  have e := (bt_eq p k (by omega) 92).1 h3
  rw [h.1, drop_cons _ k _ (at_bt p k (by omega)), drop_cons _ (k + 1) _ (at_bt p (k + 1) hk), e, tokL_esc]
  cases tokL (List.drop (k + 1 + 1) p.data.toList) <;> simp
theorem ti_bad (p : ByteArray) (k : Nat) (l : List (UInt8 × UInt8)) (h : TokInv p.data.toList k l) (hk : k + 1 = p.size) (h3 : (bt p k == 92) = true) : tokL p.data.toList = none := by
  have e := (bt_eq p k (by omega) 92).1 h3
  rw [h.1, drop_cons _ k _ (at_bt p k (by omega)), e, List.drop_of_length_le (by rw [← Lib.size_eq]; omega), tokL_bad]
  rfl
theorem ti_end (p : ByteArray) (k : Nat) (l : List (UInt8 × UInt8)) (h : TokInv p.data.toList k l) (hk : ¬ k < p.size) : tokL p.data.toList = some l := by
  rw [h.1, List.drop_of_length_le (by rw [← Lib.size_eq]; omega)]
  simp [tokL]

/-! ### Rows of bools -/
def rowC (n : Nat) (f : Nat → Bool) : List Value := (List.range n).map fun i => Value.bool (f i)
def upd (f : Nat → Bool) (j : Nat) (b : Bool) : Nat → Bool := fun i => if i = j then b else f i
theorem upd_at (f : Nat → Bool) (j : Nat) (b : Bool) : upd f j b j = b := by simp [upd]
theorem upd_ne (f : Nat → Bool) (j i : Nat) (b : Bool) (h : i ≠ j) : upd f j b i = f i := by simp [upd, h]
theorem rowC_set (n : Nat) (f : Nat → Bool) (j : Nat) (b : Bool) : (rowC n f).set j (.bool b) = rowC n (upd f j b) := by
  unfold rowC
  apply List.ext_getElem
  · simp
  · intro i h1 h2
    simp only [List.getElem_set, List.getElem_map, List.getElem_range, upd]
    by_cases e : j = i
    · subst e; simp
    · simp [e, Ne.symm e]
theorem rowC_get (n : Nat) (f : Nat → Bool) (j : Nat) (h : j < n) : (rowC n f)[j]? = some (.bool (f j)) := by simp [rowC, h]
theorem rowC_made (n : Nat) : (madeCells #[Value.bool false] (n * 1)).toList = rowC n fun _ => false := by
  rw [toList_madeCells_one]
  unfold rowC
  apply List.ext_getElem <;> simp

/-- All four rows. -/
structure Four (w wr : World) (gk gl gp gc cap t : Nat) (ts : List (UInt8 × UInt8)) (f g : Nat → Bool) : Prop where
  tk : Toks w wr gk gl cap ts
  hp : wr.ownsRow w.heap.size 4 1 (.slice (some ⟨gp, 0, none⟩) (t + 1) (t + 1)) (t + 1) (rowC (t + 1) f)
  hc : wr.ownsRow w.heap.size 4 1 (.slice (some ⟨gc, 0, none⟩) (t + 1) (t + 1)) (t + 1) (rowC (t + 1) g)
  pc : gp ≠ gc
  pk : gp ≠ gk
  pl : gp ≠ gl
  ck : gc ≠ gk
  cl : gc ≠ gl

section
variable {w wr : World} {gk gl gp gc cap t : Nat} {ts : List (UInt8 × UInt8)} {f g : Nat → Bool}
theorem Four.swap (h : Four w wr gk gl gp gc cap t ts f g) : Four w wr gk gl gc gp cap t ts g f := ⟨h.tk, h.hc, h.hp, fun e => h.pc e.symm, h.ck, h.cl, h.pk, h.pl⟩
theorem Four.setC (h : Four w wr gk gl gp gc cap t ts f g) (j : Nat) (b : Bool) : Four w (wr.setCell ⟨gc, j, none⟩ (.bool b)) gk gl gp gc cap t ts f (upd g j b) := by
  obtain ⟨s1, s2⟩ := h.hc.stored j (.bool b)
  rw [rowC_set] at s1
  refine ⟨⟨h.tk.hk.kept s2 (.inr ?_), h.tk.hl.kept s2 (.inr ?_), h.tk.ne, h.tk.bel.setCell (h.hc.lt gc rfl).1 _⟩, h.hp.kept s2 (.inr ?_), s1, h.pc, h.pk, h.pl, h.ck, h.cl⟩
  · simp [Value.ownBlock]; exact fun e => h.ck e.symm
  · simp [Value.ownBlock]; exact fun e => h.cl e.symm
  · simp [Value.ownBlock]; exact h.pc
theorem Four.setP (h : Four w wr gk gl gp gc cap t ts f g) (j : Nat) (b : Bool) : Four w (wr.setCell ⟨gp, j, none⟩ (.bool b)) gk gl gp gc cap t ts (upd f j b) g := (h.swap.setC j b).swap
theorem Four.drewN (h : Four w wr gk gl gp gc cap t ts f g) (n : Nat) : Four w (wr.drewN n) gk gl gp gc cap t ts f g := ⟨⟨h.tk.hk, h.tk.hl, h.tk.ne, below_drewN h.tk.bel n⟩, h.hp, h.hc, h.pc, h.pk, h.pl, h.ck, h.cl⟩
theorem Four.drew (h : Four w wr gk gl gp gc cap t ts f g) : Four w wr.drew gk gl gp gc cap t ts f g := h.drewN 1
theorem Four.cellP (h : Four w wr gk gl gp gc cap t ts f g) (j : Nat) (hj : j ≤ t) : wr.cell? ⟨gp, j, none⟩ = some (.bool (f j)) := by rw [h.hp.cellAt j (by omega), rowC_get _ _ _ (by omega)]
theorem Four.cellC (h : Four w wr gk gl gp gc cap t ts f g) (j : Nat) (hj : j ≤ t) : wr.cell? ⟨gc, j, none⟩ = some (.bool (g j)) := by rw [h.hc.cellAt j (by omega), rowC_get _ _ _ (by omega)]
theorem Four.cellK (h : Four w wr gk gl gp gc cap t ts f g) (j : Nat) (hj : j < ts.length) : wr.cell? ⟨gk, j, none⟩ = some (.int .u8 (kdL ts j)) := by
  rw [h.tk.hk.cellAt j (by omega)]; simp [kcells, kdL, hj]
theorem Four.cellL (h : Four w wr gk gl gp gc cap t ts f g) (j : Nat) (hj : j < ts.length) : wr.cell? ⟨gl, j, none⟩ = some (.int .u8 (ltL ts j)) := by
  rw [h.tk.hl.cellAt j (by omega)]; simp [lcells, ltL, hj]
theorem Four.frozenP (h : Four w wr gk gl gp gc cap t ts f g) (j : Nat) : wr.frozen? ⟨gp, j, none⟩ = false := h.hp.frozenAt j
theorem Four.frozenC (h : Four w wr gk gl gp gc cap t ts f g) (j : Nat) : wr.frozen? ⟨gc, j, none⟩ = false := h.hc.frozenAt j
end
end Go.Proofs.Qxb6602631aDoor
