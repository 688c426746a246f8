/-
  What the row's listed variables read as when the call begins, turned into the tables as the walks ask for them.
-/
import Derived.Test.Qxb6602824aDoorEqual
import Derived.Test.Qxb6602824aDoorOpen
import Derived.Test.Qxb6602824aDoorRows
import Derived.PinnedBridge
import Derived.Lib.LaidCase
import Derived.Lib.LaidU8
import Derived.MakeChecks
namespace Go.Proofs.Qxb6602824aDoor
open Go.RowKit Go.Lib Go.Shelf

theorem Tryd.cells46 : Tryd.prog.cellsOf 46 = 1 := by kernel_rfl
theorem Tryd.cells47 : Tryd.prog.cellsOf 47 = 128 := by kernel_rfl
theorem Tryd.cells51 : Tryd.prog.cellsOf 51 = 2 := by kernel_rfl
theorem Tryd.cells56 : Tryd.prog.cellsOf 56 = 256 := by kernel_rfl
theorem Tryd.cells58 : Tryd.prog.cellsOf 58 = 2 := by kernel_rfl

/-- The row's list, and a place on it. -/
def listed : List (String × DataW Unit) := Rows.fnFindFoldExtendsExactRow.laid
def nameAt (i : Nat) : String := (listed.getD i ("", .nil)).1
def dataAt (i : Nat) : DataW Unit := (listed.getD i ("", .nil)).2
theorem at_mem (i : Nat) (hi : i < 5) : (nameAt i, dataAt i) ∈ listed := by
  match i, hi with
  | 0, _ => exact .head _
  | 1, _ => exact .tail _ (.head _)
  | 2, _ => exact .tail _ (.tail _ (.head _))
  | 3, _ => exact .tail _ (.tail _ (.tail _ (.head _)))
  | 4, _ => exact .tail _ (.tail _ (.tail _ (.tail _ (.head _))))

def foldData : DataW Unit := tabData .u16 (foldT.map fun (x : Nat) => (x : Int))
def orbData : DataW Unit := .slice (orbT.map fun y => .agg ([(y.1 : Int), (y.2 : Int)].map fun z => .lit (.int .u16 z))) []
theorem data0 : dataAt 0 = acceptData := by kernel_rfl
theorem data1 : dataAt 1 = foldData := by kernel_rfl
theorem data2 : dataAt 2 = orbData := by kernel_rfl
theorem data3 : dataAt 3 = caseData := Pinned.caseRanges_eq
theorem data4 : dataAt 4 = firstData := Pinned.utf8First_eq
theorem glob0 : Tryd.prog.globalNamed (nameAt 0) = some 4 := by kernel_rfl
theorem glob1 : Tryd.prog.globalNamed (nameAt 1) = some 0 := by kernel_rfl
theorem glob2 : Tryd.prog.globalNamed (nameAt 2) = some 1 := by kernel_rfl
theorem glob4 : Tryd.prog.globalNamed (nameAt 4) = some 3 := by kernel_rfl
theorem type0 : (Tryd.prog.globals[4]?).map (·.type) = some 59 := by kernel_rfl
theorem type1 : (Tryd.prog.globals[0]?).map (·.type) = some 47 := by kernel_rfl
theorem type2 : (Tryd.prog.globals[1]?).map (·.type) = some 48 := by kernel_rfl
theorem type4 : (Tryd.prog.globals[3]?).map (·.type) = some 56 := by kernel_rfl

theorem utf8_told {w : World} (h3 : VarReads Tryd.prog w (nameAt 4) firstData) (h4 : VarReads Tryd.prog w (nameAt 0) acceptData) : Lib.Utf8Tabs 3 4 w := by
  refine ⟨fun c hc => ?_, fun i hi => ?_⟩
  · obtain ⟨g, t, cs, fuel, p, hg, hty, hvar, hd⟩ := h3
    obtain rfl := Option.some.inj (glob4.symm.trans hg)
    obtain rfl := Option.some.inj (type4.symm.trans hty)
    have hcs := cells_of_tab Tryd.underlying56 Tryd.underlying5 Tryd.cells5 Tryd.cells56 hd
    rw [World.var?_cell hg hvar c, ← Array.getElem?_toList, hcs]
    simp [firstTab, hc]
  · obtain ⟨g, t, cs, fuel, p, hg, hty, hvar, hd⟩ := h4
    obtain rfl := Option.some.inj (glob0.symm.trans hg)
    obtain rfl := Option.some.inj (type0.symm.trans hty)
    obtain ⟨fuel', d, q, hdi, he⟩ := array_elem Tryd.underlying59 hd i hi
    simp only [List.getElem?_map, List.getElem?_range hi, Option.map_some, Option.some.injEq] at hdi
    subst hdi
    rw [Tryd.cells58] at he
    have hcs := ints_of_struct Tryd.underlying58 (fun j f hj => by
      match j, hj with
      | 0, hj => simp at hj; subst hj; exact ⟨Tryd.underlying5, rfl, Tryd.cells5⟩
      | 1, hj => simp at hj; subst hj; exact ⟨Tryd.underlying5, rfl, Tryd.cells5⟩
      | j + 2, hj => simp at hj) (by rw [Tryd.cells58]; rfl) he
    have e0 := congrArg (·[0]?) hcs
    have e1 := congrArg (·[1]?) hcs
    simp only [List.getElem?_take, List.getElem?_drop] at e0 e1
    constructor
    · rw [World.var?_cell hg hvar (2 * i), ← Array.getElem?_toList]
      simpa [Nat.mul_comm] using e0
    · rw [World.var?_cell hg hvar (2 * i + 1), ← Array.getElem?_toList]
      simpa [Nat.mul_comm] using e1

theorem fold_told {w : World} (h : VarReads Tryd.prog w (nameAt 1) foldData) : FoldTab w := by
  obtain ⟨g, t, cs, fuel, p, hg, hty, hvar, hd⟩ := h
  obtain rfl := Option.some.inj (glob1.symm.trans hg)
  obtain rfl := Option.some.inj (type1.symm.trans hty)
  have hcs := cells_of_tab Tryd.underlying47 Tryd.underlying46 Tryd.cells46 Tryd.cells47 hd
  intro i hi
  have hl : foldT.length = 128 := by kernel_rfl
  rw [World.var?_cell hg hvar i, ← Array.getElem?_toList, hcs]
  simp [foldA, Array.getD, hl, hi]

theorem orb_told {w : World} (h : VarReads Tryd.prog w (nameAt 2) orbData) : OrbVar w := by
  obtain ⟨g, t, cs, fuel, p, hg, hty, hvar, hd⟩ := h
  obtain rfl := Option.some.inj (glob2.symm.trans hg)
  obtain rfl := Option.some.inj (type2.symm.trans hty)
  rcases DataW.trod_slice Tryd.underlying48 hd with ⟨_, hx'⟩ | ⟨a', len, cap, el, rs, m, rfl, hc0, hx', _, hlc, _, hel, helem, hsp, _⟩
  · cases hx'
  have e0 := congrArg Prod.fst hx'
  simp only [orbData, DataW.slice.injEq] at e0
  obtain ⟨eE, eR⟩ := e0
  have hl : orbT.length = 94 := by kernel_rfl
  have hlen : len = 94 := by
    have := congrArg List.length eE
    simp at this
    omega
  have hrow : ∀ i, i < 94 → ∀ j, j < 2 → w.cell? ((a'.add (i * 2)).add j) = ([.int .u16 (((orbA.getD i (0, 0)).1 : Nat) : Int), .int .u16 (((orbA.getD i (0, 0)).2 : Nat) : Int)] : List Value)[j]? := by
    intro i hi j hj
    have h1 := helem i (by omega)
    rw [Tryd.cells51] at h1
    obtain ⟨b, hb⟩ : ∃ b, el[i]? = some b := ⟨el[i]'(by omega), List.getElem?_eq_getElem (by omega)⟩
    rw [hb] at h1
    obtain ⟨ce, hce, hte⟩ := Option.bind_eq_some_iff.1 h1
    have hb1 : b.1 = .agg ([((orbA.getD i (0, 0)).1 : Int), ((orbA.getD i (0, 0)).2 : Int)].map fun z => .lit (.int .u16 z)) := by
      have := congrArg (·[i]?) eE
      have hi' : i < orbT.length := by omega
      simp only [List.getElem?_map, hb, Option.map_some, List.getElem?_eq_getElem hi', Option.some.injEq] at this
      rw [← this]
      simp [orbA, Array.getD, hi']
    have hcs := ints_of_struct (p := b.2) Tryd.underlying51 (fun q f hq => by
      match q, hq with
      | 0, hq => simp at hq; subst hq; exact ⟨Tryd.underlying46, rfl, Tryd.cells46⟩
      | 1, hq => simp at hq; subst hq; exact ⟨Tryd.underlying46, rfl, Tryd.cells46⟩
      | q + 2, hq => simp at hq) (by rw [Tryd.cells51]; rfl) (by rw [← hb1]; exact hte)
    obtain ⟨_, _, hcc⟩ := World.cells?_some hce
    rw [hcc j hj, hcs]
    match j, hj with
    | 0, _ => rfl
    | 1, _ => rfl
  obtain ⟨R, oR, sR⟩ := a'
  obtain rfl : sR = none := by
    have h00 := hrow 0 (by omega) 0 (by omega)
    have : (Addr.add (Addr.add ⟨R, oR, sR⟩ (0 * 2)) 0) = ⟨R, oR, sR⟩ := by simp [Addr.add]
    rw [this] at h00
    exact Go.Proofs.cell_spot h00
  refine ⟨R, oR, cap, ?_, fun i hi => ?_⟩
  · rw [World.var?_cell hg hvar 0, ← Array.getElem?_toList, hc0, hlen]
    rfl
  · have k0 := hrow i hi 0 (by omega)
    have k1 := hrow i hi 1 (by omega)
    rw [Addr.add_lit, Addr.add_lit] at k0 k1
    exact ⟨by simpa using k0, by simpa using k1⟩

theorem case_told {w : World} (h : VarReads Tryd.prog w (nameAt 3) caseData) : CaseVar 2 caseA w :=
  caseVar_of_reads (P := Tryd.prog) (ρ := Tryd.lays239_ren) { Tryd.lays239 with } Tryd.underlying62
    ⟨by kernel_rfl, by kernel_rfl, by kernel_rfl, by kernel_rfl, by kernel_rfl, by kernel_rfl⟩ h

/-- **The tables at the call's beginning.** -/
theorem tabs_told {w : World} (hL : laidMetH Tryd.prog listed w) : Tabs w := by
  rw [MakeChecks.laidMetH_plain _ _ _ (by kernel_rfl)] at hL
  have r : ∀ i, i < 5 → VarReads Tryd.prog w (nameAt i) (dataAt i) := fun i hi => Lib.laidMet.reads hL (at_mem i hi)
  have r0 := r 0 (by omega)
  have r1 := r 1 (by omega)
  have r2 := r 2 (by omega)
  have r3 := r 3 (by omega)
  have r4 := r 4 (by omega)
  rw [data0] at r0
  rw [data1] at r1
  rw [data2] at r2
  rw [data3] at r3
  rw [data4] at r4
  exact ⟨utf8_told r4 r0, fold_told r1, orb_told r2, case_told r3⟩
end Go.Proofs.Qxb6602824aDoor
