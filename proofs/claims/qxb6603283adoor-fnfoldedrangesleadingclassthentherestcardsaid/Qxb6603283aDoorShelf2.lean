/-
  The contracts of strings.Contains (a substring of one byte) and strings.Cut, laid at this program by the kit's own tool, in plain words.
-/
import Derived.Shelf.Strings.Search3
import Derived.Shelf.Strings.Cut
import Derived.Test.Qxb6603283aDoorProg
namespace Go.Proofs
open Go.Shelf
def Tryd.lays144_ren : Go.Shelf.Ren := ⟨fun | 144 => 28 | 143 => 37 | 219 => 41 | 217 => 44 | 225 => 45 | 224 => 46 | 267 => 47 | 266 => 50 | 314 => 51 | n => n, fun | 9 => 9 | 4 => 4 | 3 => 3 | 5 => 5 | 46 => 49 | 146 => 56 | 51 => 55 | n => n, fun | 1 => 0 | n => n⟩
theorem Tryd.lays144 : Go.Proofs.Lays.n144 Tryd.prog Tryd.lays144_ren := {
  mixed := by kernel_rfl
  f143 := Tryd.func37.trans (congrArg some (by kernel_rfl))
  f144 := Tryd.func28.trans (congrArg some (by kernel_rfl))
  f217 := Tryd.func44.trans (congrArg some (by kernel_rfl))
  f219 := Tryd.func41.trans (congrArg some (by kernel_rfl))
  f224 := Tryd.func46.trans (congrArg some (by kernel_rfl))
  f225 := Tryd.func45.trans (congrArg some (by kernel_rfl))
  f266 := Tryd.func50.trans (congrArg some (by kernel_rfl))
  f267 := Tryd.func47.trans (congrArg some (by kernel_rfl))
  f314 := Tryd.func51.trans (congrArg some (by kernel_rfl))
  t3 := Tryd.underlying3
  a3 := Tryd.isAgg3
  z3 := Tryd.sizeOf3
  v3 := Tryd.zeroValue3
  t4 := Tryd.underlying4
  a4 := Tryd.isAgg4
  z4 := Tryd.sizeOf4
  v4 := Tryd.zeroValue4
  t5 := Tryd.underlying5
  a5 := Tryd.isAgg5
  z5 := Tryd.sizeOf5
  v5 := Tryd.zeroValue5
  t9 := Tryd.underlying9
  a9 := Tryd.isAgg9
  z9 := Tryd.sizeOf9
  v9 := Tryd.zeroValue9
  t46 := Tryd.underlying49
  a46 := Tryd.isAgg49
  z46 := Tryd.sizeOf49
  v46 := Tryd.zeroValue49
  t51 := Tryd.underlying55
  a51 := Tryd.isAgg55
  z51 := Tryd.sizeOf55
  v51 := Tryd.zeroValue55
  t146 := Tryd.underlying56
  a146 := Tryd.isAgg56
  z146 := Tryd.sizeOf56
  v146 := Tryd.zeroValue56
  g1 := by kernel_rfl }
open Go.RowKit Go.Lib in
theorem Tryd.strings_Contains_one (s : ByteArray) (c : UInt8) (w : World) :
    Calls Tryd.prog 28 #[.string s, .string ⟨#[c]⟩] w fun e w' => e = .returned (.bool (decide (0 ≤ Lib.indexByte s.data.toList c))) ∧ w' = w := Any.strings_Contains_one Tryd.lays144 s c w
def Tryd.lays145_ren : Go.Shelf.Ren := ⟨fun | 145 => 27 | 220 => 36 | 219 => 41 | 217 => 44 | 225 => 45 | 224 => 46 | 267 => 47 | 266 => 50 | 314 => 51 | n => n, fun | 9 => 9 | 4 => 4 | 59 => 33 | 3 => 3 | 5 => 5 | 46 => 49 | 146 => 56 | 51 => 55 | n => n, fun | 1 => 0 | n => n⟩
theorem Tryd.lays145 : Go.Proofs.Lays.n145 Tryd.prog Tryd.lays145_ren := {
  mixed := by kernel_rfl
  f145 := Tryd.func27.trans (congrArg some (by kernel_rfl))
  f217 := Tryd.func44.trans (congrArg some (by kernel_rfl))
  f219 := Tryd.func41.trans (congrArg some (by kernel_rfl))
  f220 := Tryd.func36.trans (congrArg some (by kernel_rfl))
  f224 := Tryd.func46.trans (congrArg some (by kernel_rfl))
  f225 := Tryd.func45.trans (congrArg some (by kernel_rfl))
  f266 := Tryd.func50.trans (congrArg some (by kernel_rfl))
  f267 := Tryd.func47.trans (congrArg some (by kernel_rfl))
  f314 := Tryd.func51.trans (congrArg some (by kernel_rfl))
  t3 := Tryd.underlying3
  a3 := Tryd.isAgg3
  z3 := Tryd.sizeOf3
  v3 := Tryd.zeroValue3
  t4 := Tryd.underlying4
  a4 := Tryd.isAgg4
  z4 := Tryd.sizeOf4
  v4 := Tryd.zeroValue4
  t5 := Tryd.underlying5
  a5 := Tryd.isAgg5
  z5 := Tryd.sizeOf5
  v5 := Tryd.zeroValue5
  t9 := Tryd.underlying9
  a9 := Tryd.isAgg9
  z9 := Tryd.sizeOf9
  v9 := Tryd.zeroValue9
  t46 := Tryd.underlying49
  a46 := Tryd.isAgg49
  z46 := Tryd.sizeOf49
  v46 := Tryd.zeroValue49
  t51 := Tryd.underlying55
  a51 := Tryd.isAgg55
  z51 := Tryd.sizeOf55
  v51 := Tryd.zeroValue55
  t59 := Tryd.underlying33
  a59 := Tryd.isAgg33
  z59 := Tryd.sizeOf33
  v59 := Tryd.zeroValue33
  t146 := Tryd.underlying56
  a146 := Tryd.isAgg56
  z146 := Tryd.sizeOf56
  v146 := Tryd.zeroValue56
  g1 := by kernel_rfl }
open Go.RowKit Go.Lib in
theorem Tryd.strings_Cut (s sep : ByteArray) (m : Int) (w : World) (hs : s.size < 4294967281) (hm : w.cell? ⟨0, 0, none⟩ = some (.int .i64 m)) :
    Calls Tryd.prog 27 #[.string s, .string sep] w fun e w' => e = .returned (.tuple #[.string ⟨(Lib.cut s.data.toList sep.data.toList).1.toArray⟩, .string ⟨(Lib.cut s.data.toList sep.data.toList).2.1.toArray⟩, .bool (Lib.cut s.data.toList sep.data.toList).2.2]) ∧ ∃ n, w' = w.drewN n := Any.strings_Cut Tryd.lays145 s sep m w hs hm
end Go.Proofs
