/-
  The contracts of strings.TrimLeft (an ASCII cutset), strings.HasPrefix, strings.CutPrefix and strings.TrimPrefix, laid at this program by the kit's own tool, in plain words.
-/
import Derived.Shelf.Strings.SlTrimAscii
import Derived.Shelf.Strings.Prefix
import Derived.Shelf.Small.Wraps
import Derived.Test.Qxb6603283aDoorProg
namespace Go.Proofs
open Go.Shelf
def Tryd.lays161_ren : Go.Shelf.Ren := ⟨fun | 161 => 25 | 231 => 31 | 227 => 32 | 233 => 33 | 235 => 34 | 228 => 38 | 197 => 39 | 151 => 40 | 260 => 42 | 152 => 43 | 137 => 48 | 119 => 49 | 224 => 46 | 225 => 45 | 217 => 44 | 266 => 50 | n => n, fun | 9 => 9 | 4 => 4 | 3 => 3 | 5 => 5 | 117 => 38 | 116 => 37 | 0 => 0 | 124 => 41 | 105 => 43 | 21 => 21 | 119 => 50 | 46 => 49 | 139 => 53 | 138 => 52 | n => n, fun | 3 => 1 | 4 => 2 | n => n⟩
theorem Tryd.lays161 : Go.Proofs.Lays.n161 Tryd.prog Tryd.lays161_ren := {
  mixed := by kernel_rfl
  f119 := Tryd.func49.trans (congrArg some (by kernel_rfl))
  f137 := Tryd.func48.trans (congrArg some (by kernel_rfl))
  f151 := Tryd.func40.trans (congrArg some (by kernel_rfl))
  f152 := Tryd.func43.trans (congrArg some (by kernel_rfl))
  f161 := Tryd.func25.trans (congrArg some (by kernel_rfl))
  f197 := Tryd.func39.trans (congrArg some (by kernel_rfl))
  f217 := Tryd.func44.trans (congrArg some (by kernel_rfl))
  f224 := Tryd.func46.trans (congrArg some (by kernel_rfl))
  f225 := Tryd.func45.trans (congrArg some (by kernel_rfl))
  f227 := Tryd.func32.trans (congrArg some (by kernel_rfl))
  f228 := Tryd.func38.trans (congrArg some (by kernel_rfl))
  f231 := Tryd.func31.trans (congrArg some (by kernel_rfl))
  f233 := Tryd.func33.trans (congrArg some (by kernel_rfl))
  f235 := Tryd.func34.trans (congrArg some (by kernel_rfl))
  f260 := Tryd.func42.trans (congrArg some (by kernel_rfl))
  f266 := Tryd.func50.trans (congrArg some (by kernel_rfl))
  t0 := Tryd.underlying0
  a0 := Tryd.isAgg0
  z0 := Tryd.sizeOf0
  v0 := Tryd.zeroValue0
  t3 := Tryd.underlying3
  a3 := Tryd.isAgg3
  z3 := Tryd.sizeOf3
  v3 := Tryd.zeroValue3
  t4 := Tryd.underlying4
  a4 := Tryd.isAgg4
  z4 := Tryd.sizeOf4
  v4 := Tryd.zeroValue4
  t5 := Tryd.underlying5
  a5 := Tryd.isAgg5
  z5 := Tryd.sizeOf5
  v5 := Tryd.zeroValue5
  t9 := Tryd.underlying9
  a9 := Tryd.isAgg9
  z9 := Tryd.sizeOf9
  v9 := Tryd.zeroValue9
  t21 := Tryd.underlying21
  a21 := Tryd.isAgg21
  z21 := Tryd.sizeOf21
  v21 := Tryd.zeroValue21
  t46 := Tryd.underlying49
  a46 := Tryd.isAgg49
  z46 := Tryd.sizeOf49
  v46 := Tryd.zeroValue49
  t105 := Tryd.underlying43
  a105 := Tryd.isAgg43
  z105 := Tryd.sizeOf43
  v105 := Tryd.zeroValue43
  t116 := Tryd.underlying37
  a116 := Tryd.isAgg37
  z116 := Tryd.sizeOf37
  t117 := Tryd.underlying38
  a117 := Tryd.isAgg38
  z117 := Tryd.sizeOf38
  v117 := Tryd.zeroValue38
  t119 := Tryd.underlying50
  a119 := Tryd.isAgg50
  z119 := Tryd.sizeOf50
  t124 := Tryd.underlying41
  a124 := Tryd.isAgg41
  z124 := Tryd.sizeOf41
  v124 := Tryd.zeroValue41
  t138 := Tryd.underlying52
  a138 := Tryd.isAgg52
  z138 := Tryd.sizeOf52
  v138 := Tryd.zeroValue52
  t139 := Tryd.underlying53
  a139 := Tryd.isAgg53
  z139 := Tryd.sizeOf53
  v139 := Tryd.zeroValue53
  g3 := by kernel_rfl
  g4 := by kernel_rfl }
open Go.RowKit Go.Lib in
theorem Tryd.strings_TrimLeft_set (s cutset : ByteArray) (w : World) (hcs : cutset.size < 4294967281) (hascii : ∀ (j : Nat) b, cutset.data.toList[j]? = some b → b.toNat < 128) :
    Calls Tryd.prog 25 #[.string s, .string cutset] w fun e w' => e = .returned (.string ⟨(Lib.trimLeftS s.data.toList cutset.data.toList).toArray⟩) ∧ Below w.heap.size w w' := Any.strings_TrimLeft_laid Tryd.lays161 (by kernel_rfl) s cutset w hcs hascii
def Tryd.lays99_ren : Go.Shelf.Ren := ⟨fun | 99 => 23 | 206 => 29 | n => n, fun | 9 => 9 | 4 => 4 | 3 => 3 | n => n, fun | n => n⟩
theorem Tryd.lays99 : Go.Proofs.Lays.n99 Tryd.prog Tryd.lays99_ren := {
  mixed := by kernel_rfl
  f99 := Tryd.func23.trans (congrArg some (by kernel_rfl))
  f206 := Tryd.func29.trans (congrArg some (by kernel_rfl))
  t3 := Tryd.underlying3
  a3 := Tryd.isAgg3
  z3 := Tryd.sizeOf3
  v3 := Tryd.zeroValue3
  t4 := Tryd.underlying4
  a4 := Tryd.isAgg4
  z4 := Tryd.sizeOf4
  v4 := Tryd.zeroValue4
  t9 := Tryd.underlying9
  a9 := Tryd.isAgg9
  z9 := Tryd.sizeOf9
  v9 := Tryd.zeroValue9 }
open Go.RowKit Go.Lib in
theorem Tryd.strings_HasPrefix (s p : ByteArray) (w : World) :
    Calls Tryd.prog 23 #[.string s, .string p] w fun e w' => e = .returned (.bool (Lib.hasPrefix s.data.toList p.data.toList)) ∧ w' = w := Any.strings_HasPrefix Tryd.lays99 s p w
def Tryd.lays103_ren : Go.Shelf.Ren := ⟨fun | 103 => 24 | 210 => 30 | 206 => 29 | n => n, fun | 9 => 9 | 4 => 4 | 24 => 30 | 3 => 3 | n => n, fun | n => n⟩
theorem Tryd.lays103 : Go.Proofs.Lays.n103 Tryd.prog Tryd.lays103_ren := {
  mixed := by kernel_rfl
  f103 := Tryd.func24.trans (congrArg some (by kernel_rfl))
  f206 := Tryd.func29.trans (congrArg some (by kernel_rfl))
  f210 := Tryd.func30.trans (congrArg some (by kernel_rfl))
  t3 := Tryd.underlying3
  a3 := Tryd.isAgg3
  z3 := Tryd.sizeOf3
  v3 := Tryd.zeroValue3
  t4 := Tryd.underlying4
  a4 := Tryd.isAgg4
  z4 := Tryd.sizeOf4
  v4 := Tryd.zeroValue4
  t9 := Tryd.underlying9
  a9 := Tryd.isAgg9
  z9 := Tryd.sizeOf9
  v9 := Tryd.zeroValue9
  t24 := Tryd.underlying30
  a24 := Tryd.isAgg30
  z24 := Tryd.sizeOf30
  v24 := Tryd.zeroValue30 }
open Go.RowKit in
theorem Tryd.strings_CutPrefix (s p : ByteArray) (w : World) :
    Calls Tryd.prog 24 #[.string s, .string p] w fun e w' => e = .returned (.tuple #[.string ⟨(Lib.trimPrefix s.data.toList p.data.toList).toArray⟩, .bool (Lib.hasPrefix s.data.toList p.data.toList)]) ∧ w' = w := Any.strings_CutPrefix Tryd.lays103 s p w
def Tryd.lays101_ren : Go.Shelf.Ren := ⟨fun | 101 => 26 | 208 => 35 | 206 => 29 | n => n, fun | 9 => 9 | 4 => 4 | 3 => 3 | n => n, fun | n => n⟩
theorem Tryd.lays101 : Go.Proofs.Lays.n101 Tryd.prog Tryd.lays101_ren := {
  mixed := by kernel_rfl
  f101 := Tryd.func26.trans (congrArg some (by kernel_rfl))
  f206 := Tryd.func29.trans (congrArg some (by kernel_rfl))
  f208 := Tryd.func35.trans (congrArg some (by kernel_rfl))
  t3 := Tryd.underlying3
  a3 := Tryd.isAgg3
  z3 := Tryd.sizeOf3
  v3 := Tryd.zeroValue3
  t4 := Tryd.underlying4
  a4 := Tryd.isAgg4
  z4 := Tryd.sizeOf4
  v4 := Tryd.zeroValue4
  t9 := Tryd.underlying9
  a9 := Tryd.isAgg9
  z9 := Tryd.sizeOf9
  v9 := Tryd.zeroValue9 }
open Go.RowKit Go.Lib in
theorem Tryd.strings_TrimPrefix (s p : ByteArray) (w : World) :
    Calls Tryd.prog 26 #[.string s, .string p] w fun e w' => e = .returned (.string ⟨(Lib.trimPrefix s.data.toList p.data.toList).toArray⟩) ∧ w' = w := Any.strings_TrimPrefix Tryd.lays101 s p w
end Go.Proofs
