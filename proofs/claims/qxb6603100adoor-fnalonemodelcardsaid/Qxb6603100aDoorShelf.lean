/-
  The contracts of strings.TrimLeft and strings.Trim (an ASCII cutset), strings.HasPrefix and strings.LastIndexByte, laid at this program by the kit's own tool, in plain words.
-/
import Derived.Shelf.Strings.SlTrimAscii
import Derived.Shelf.Strings.Prefix
import Derived.Shelf.Strings.LastIndex
import Derived.Test.Qxb6603100aDoorProg
namespace Go.Proofs
open Go.Shelf
def Tryd.lays161_ren : Go.Shelf.Ren := ⟨fun | 161 => 13 | 231 => 16 | 227 => 18 | 233 => 19 | 235 => 21 | 228 => 24 | 197 => 25 | 151 => 26 | 260 => 28 | 152 => 29 | 137 => 31 | 119 => 32 | 224 => 33 | 225 => 34 | 217 => 35 | 266 => 36 | n => n, fun | 9 => 9 | 4 => 4 | 3 => 3 | 5 => 5 | 117 => 32 | 116 => 31 | 0 => 0 | 124 => 35 | 105 => 36 | 21 => 21 | 119 => 40 | 46 => 41 | 139 => 44 | 138 => 43 | n => n, fun | 3 => 1 | 4 => 2 | n => n⟩
theorem Tryd.lays161 : Go.Proofs.Lays.n161 Tryd.prog Tryd.lays161_ren := {
  mixed := by kernel_rfl
  f119 := Tryd.func32.trans (congrArg some (by kernel_rfl))
  f137 := Tryd.func31.trans (congrArg some (by kernel_rfl))
  f151 := Tryd.func26.trans (congrArg some (by kernel_rfl))
  f152 := Tryd.func29.trans (congrArg some (by kernel_rfl))
  f161 := Tryd.func13.trans (congrArg some (by kernel_rfl))
  f197 := Tryd.func25.trans (congrArg some (by kernel_rfl))
  f217 := Tryd.func35.trans (congrArg some (by kernel_rfl))
  f224 := Tryd.func33.trans (congrArg some (by kernel_rfl))
  f225 := Tryd.func34.trans (congrArg some (by kernel_rfl))
  f227 := Tryd.func18.trans (congrArg some (by kernel_rfl))
  f228 := Tryd.func24.trans (congrArg some (by kernel_rfl))
  f231 := Tryd.func16.trans (congrArg some (by kernel_rfl))
  f233 := Tryd.func19.trans (congrArg some (by kernel_rfl))
  f235 := Tryd.func21.trans (congrArg some (by kernel_rfl))
  f260 := Tryd.func28.trans (congrArg some (by kernel_rfl))
  f266 := Tryd.func36.trans (congrArg some (by kernel_rfl))
  t0 := Tryd.underlying0
  a0 := Tryd.isAgg0
  z0 := Tryd.sizeOf0
  v0 := Tryd.zeroValue0
  t3 := Tryd.underlying3
  a3 := Tryd.isAgg3
  z3 := Tryd.sizeOf3
  v3 := Tryd.zeroValue3
  t4 := Tryd.underlying4
  a4 := Tryd.isAgg4
  z4 := Tryd.sizeOf4
  v4 := Tryd.zeroValue4
  t5 := Tryd.underlying5
  a5 := Tryd.isAgg5
  z5 := Tryd.sizeOf5
  v5 := Tryd.zeroValue5
  t9 := Tryd.underlying9
  a9 := Tryd.isAgg9
  z9 := Tryd.sizeOf9
  v9 := Tryd.zeroValue9
  t21 := Tryd.underlying21
  a21 := Tryd.isAgg21
  z21 := Tryd.sizeOf21
  v21 := Tryd.zeroValue21
  t46 := Tryd.underlying41
  a46 := Tryd.isAgg41
  z46 := Tryd.sizeOf41
  v46 := Tryd.zeroValue41
  t105 := Tryd.underlying36
  a105 := Tryd.isAgg36
  z105 := Tryd.sizeOf36
  v105 := Tryd.zeroValue36
  t116 := Tryd.underlying31
  a116 := Tryd.isAgg31
  z116 := Tryd.sizeOf31
  t117 := Tryd.underlying32
  a117 := Tryd.isAgg32
  z117 := Tryd.sizeOf32
  v117 := Tryd.zeroValue32
  t119 := Tryd.underlying40
  a119 := Tryd.isAgg40
  z119 := Tryd.sizeOf40
  t124 := Tryd.underlying35
  a124 := Tryd.isAgg35
  z124 := Tryd.sizeOf35
  v124 := Tryd.zeroValue35
  t138 := Tryd.underlying43
  a138 := Tryd.isAgg43
  z138 := Tryd.sizeOf43
  v138 := Tryd.zeroValue43
  t139 := Tryd.underlying44
  a139 := Tryd.isAgg44
  z139 := Tryd.sizeOf44
  v139 := Tryd.zeroValue44
  g3 := by kernel_rfl
  g4 := by kernel_rfl }
open Go.RowKit Go.Lib in
theorem Tryd.strings_TrimLeft_set (s cutset : ByteArray) (w : World) (hcs : cutset.size < 4294967281) (hascii : ∀ (j : Nat) b, cutset.data.toList[j]? = some b → b.toNat < 128) :
    Calls Tryd.prog 13 #[.string s, .string cutset] w fun e w' => e = .returned (.string ⟨(Lib.trimLeftS s.data.toList cutset.data.toList).toArray⟩) ∧ Below w.heap.size w w' := Any.strings_TrimLeft_laid Tryd.lays161 (by kernel_rfl) s cutset w hcs hascii
def Tryd.lays160_ren : Go.Shelf.Ren := ⟨fun | 160 => 12 | 232 => 17 | 231 => 16 | 227 => 18 | 234 => 20 | 233 => 19 | 236 => 22 | 235 => 21 | 228 => 24 | 271 => 27 | 151 => 26 | 197 => 25 | 120 => 30 | 152 => 29 | 260 => 28 | 137 => 31 | 119 => 32 | 224 => 33 | 225 => 34 | 217 => 35 | 266 => 36 | n => n, fun | 9 => 9 | 4 => 4 | 3 => 3 | 5 => 5 | 117 => 32 | 116 => 31 | 0 => 0 | 124 => 35 | 21 => 21 | 105 => 36 | 46 => 41 | 119 => 40 | 139 => 44 | 138 => 43 | n => n, fun | 3 => 1 | 4 => 2 | n => n⟩
theorem Tryd.lays160 : Go.Proofs.Lays.n160 Tryd.prog Tryd.lays160_ren := {
  mixed := by kernel_rfl
  f119 := Tryd.func32.trans (congrArg some (by kernel_rfl))
  f120 := Tryd.func30.trans (congrArg some (by kernel_rfl))
  f137 := Tryd.func31.trans (congrArg some (by kernel_rfl))
  f151 := Tryd.func26.trans (congrArg some (by kernel_rfl))
  f152 := Tryd.func29.trans (congrArg some (by kernel_rfl))
  f160 := Tryd.func12.trans (congrArg some (by kernel_rfl))
  f197 := Tryd.func25.trans (congrArg some (by kernel_rfl))
  f217 := Tryd.func35.trans (congrArg some (by kernel_rfl))
  f224 := Tryd.func33.trans (congrArg some (by kernel_rfl))
  f225 := Tryd.func34.trans (congrArg some (by kernel_rfl))
  f227 := Tryd.func18.trans (congrArg some (by kernel_rfl))
  f228 := Tryd.func24.trans (congrArg some (by kernel_rfl))
  f231 := Tryd.func16.trans (congrArg some (by kernel_rfl))
  f232 := Tryd.func17.trans (congrArg some (by kernel_rfl))
  f233 := Tryd.func19.trans (congrArg some (by kernel_rfl))
  f234 := Tryd.func20.trans (congrArg some (by kernel_rfl))
  f235 := Tryd.func21.trans (congrArg some (by kernel_rfl))
  f236 := Tryd.func22.trans (congrArg some (by kernel_rfl))
  f260 := Tryd.func28.trans (congrArg some (by kernel_rfl))
  f266 := Tryd.func36.trans (congrArg some (by kernel_rfl))
  f271 := Tryd.func27.trans (congrArg some (by kernel_rfl))
  t0 := Tryd.underlying0
  a0 := Tryd.isAgg0
  z0 := Tryd.sizeOf0
  v0 := Tryd.zeroValue0
  t3 := Tryd.underlying3
  a3 := Tryd.isAgg3
  z3 := Tryd.sizeOf3
  v3 := Tryd.zeroValue3
  t4 := Tryd.underlying4
  a4 := Tryd.isAgg4
  z4 := Tryd.sizeOf4
  v4 := Tryd.zeroValue4
  t5 := Tryd.underlying5
  a5 := Tryd.isAgg5
  z5 := Tryd.sizeOf5
  v5 := Tryd.zeroValue5
  t9 := Tryd.underlying9
  a9 := Tryd.isAgg9
  z9 := Tryd.sizeOf9
  v9 := Tryd.zeroValue9
  t21 := Tryd.underlying21
  a21 := Tryd.isAgg21
  z21 := Tryd.sizeOf21
  v21 := Tryd.zeroValue21
  t46 := Tryd.underlying41
  a46 := Tryd.isAgg41
  z46 := Tryd.sizeOf41
  v46 := Tryd.zeroValue41
  t105 := Tryd.underlying36
  a105 := Tryd.isAgg36
  z105 := Tryd.sizeOf36
  v105 := Tryd.zeroValue36
  t116 := Tryd.underlying31
  a116 := Tryd.isAgg31
  z116 := Tryd.sizeOf31
  t117 := Tryd.underlying32
  a117 := Tryd.isAgg32
  z117 := Tryd.sizeOf32
  v117 := Tryd.zeroValue32
  t119 := Tryd.underlying40
  a119 := Tryd.isAgg40
  z119 := Tryd.sizeOf40
  t124 := Tryd.underlying35
  a124 := Tryd.isAgg35
  z124 := Tryd.sizeOf35
  v124 := Tryd.zeroValue35
  t138 := Tryd.underlying43
  a138 := Tryd.isAgg43
  z138 := Tryd.sizeOf43
  v138 := Tryd.zeroValue43
  t139 := Tryd.underlying44
  a139 := Tryd.isAgg44
  z139 := Tryd.sizeOf44
  v139 := Tryd.zeroValue44
  g3 := by kernel_rfl
  g4 := by kernel_rfl }
open Go.RowKit Go.Lib in
theorem Tryd.strings_Trim_set (s cutset : ByteArray) (w : World) (hs : s.size ≤ 9223372036854775807) (hcs : cutset.size < 4294967281) (hascii : ∀ (j : Nat) b, cutset.data.toList[j]? = some b → b.toNat < 128) :
    Calls Tryd.prog 12 #[.string s, .string cutset] w fun e w' => e = .returned (.string ⟨(Lib.trimS s.data.toList cutset.data.toList).toArray⟩) ∧ Below w.heap.size w w' := Any.strings_Trim_laid Tryd.lays160 (by kernel_rfl) s cutset w hs hcs hascii
def Tryd.lays99_ren : Go.Shelf.Ren := ⟨fun | 99 => 14 | 206 => 23 | n => n, fun | 9 => 9 | 4 => 4 | 3 => 3 | n => n, fun | n => n⟩
theorem Tryd.lays99 : Go.Proofs.Lays.n99 Tryd.prog Tryd.lays99_ren := {
  mixed := by kernel_rfl
  f99 := Tryd.func14.trans (congrArg some (by kernel_rfl))
  f206 := Tryd.func23.trans (congrArg some (by kernel_rfl))
  t3 := Tryd.underlying3
  a3 := Tryd.isAgg3
  z3 := Tryd.sizeOf3
  v3 := Tryd.zeroValue3
  t4 := Tryd.underlying4
  a4 := Tryd.isAgg4
  z4 := Tryd.sizeOf4
  v4 := Tryd.zeroValue4
  t9 := Tryd.underlying9
  a9 := Tryd.isAgg9
  z9 := Tryd.sizeOf9
  v9 := Tryd.zeroValue9 }
open Go.RowKit Go.Lib in
theorem Tryd.strings_HasPrefix (s p : ByteArray) (w : World) :
    Calls Tryd.prog 14 #[.string s, .string p] w fun e w' => e = .returned (.bool (Lib.hasPrefix s.data.toList p.data.toList)) ∧ w' = w := Any.strings_HasPrefix Tryd.lays99 s p w
def Tryd.lays149_ren : Go.Shelf.Ren := ⟨fun | 149 => 11 | 222 => 15 | n => n, fun | 9 => 9 | 5 => 5 | 3 => 3 | 4 => 4 | n => n, fun | n => n⟩
theorem Tryd.lays149 : Go.Proofs.Lays.n149 Tryd.prog Tryd.lays149_ren := {
  mixed := by kernel_rfl
  f149 := Tryd.func11.trans (congrArg some (by kernel_rfl))
  f222 := Tryd.func15.trans (congrArg some (by kernel_rfl))
  t3 := Tryd.underlying3
  a3 := Tryd.isAgg3
  z3 := Tryd.sizeOf3
  v3 := Tryd.zeroValue3
  t4 := Tryd.underlying4
  a4 := Tryd.isAgg4
  z4 := Tryd.sizeOf4
  v4 := Tryd.zeroValue4
  t5 := Tryd.underlying5
  a5 := Tryd.isAgg5
  z5 := Tryd.sizeOf5
  v5 := Tryd.zeroValue5
  t9 := Tryd.underlying9
  a9 := Tryd.isAgg9
  z9 := Tryd.sizeOf9
  v9 := Tryd.zeroValue9 }
open Go.RowKit Go.Lib in
theorem Tryd.strings_LastIndexByte (s : ByteArray) (c : Int) (hs : s.size < 4611686018427387904) (w : World) :
    Calls Tryd.prog 11 #[.string s, .int .u8 c] w fun e w' => e = .returned (.int .i64 (Lib.lastIndexByte s c)) ∧ w' = w := Any.strings_LastIndexByte Tryd.lays149 s c hs w
end Go.Proofs
