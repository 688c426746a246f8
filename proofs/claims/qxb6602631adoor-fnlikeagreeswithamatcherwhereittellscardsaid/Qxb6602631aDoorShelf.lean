/-
  The contracts of strings.TrimRight and strings.Trim (a cutset of one ASCII byte) and strings.HasPrefix, laid at this program by the kit's own tool, in plain words.
-/
import Derived.Shelf.Strings.Trim
import Derived.Shelf.Strings.Prefix
import Derived.Test.Qxb6602631aDoorProg
namespace Go.Proofs
open Go.Shelf
def Tryd.lays162_ren : Go.Shelf.Ren := ⟨fun | 162 => 47 | 232 => 49 | 227 => 37 | 234 => 50 | 236 => 51 | 228 => 52 | 271 => 64 | 151 => 54 | 120 => 73 | 197 => 53 | 152 => 66 | 260 => 65 | 137 => 74 | 119 => 75 | 224 => 76 | 225 => 77 | 217 => 81 | 266 => 83 | n => n, fun | 9 => 9 | 4 => 4 | 3 => 3 | 5 => 5 | 117 => 65 | 116 => 64 | 0 => 0 | 124 => 68 | 21 => 21 | 105 => 80 | 46 => 70 | 119 => 105 | 139 => 108 | 138 => 107 | n => n, fun | 3 => 2 | 4 => 3 | n => n⟩
theorem Tryd.lays162 : Go.Proofs.Lays.n162 Tryd.prog Tryd.lays162_ren := {
  mixed := by kernel_rfl
  f119 := Tryd.func75.trans (congrArg some (by kernel_rfl))
  f120 := Tryd.func73.trans (congrArg some (by kernel_rfl))
  f137 := Tryd.func74.trans (congrArg some (by kernel_rfl))
  f151 := Tryd.func54.trans (congrArg some (by kernel_rfl))
  f152 := Tryd.func66.trans (congrArg some (by kernel_rfl))
  f162 := Tryd.func47.trans (congrArg some (by kernel_rfl))
  f197 := Tryd.func53.trans (congrArg some (by kernel_rfl))
  f217 := Tryd.func81.trans (congrArg some (by kernel_rfl))
  f224 := Tryd.func76.trans (congrArg some (by kernel_rfl))
  f225 := Tryd.func77.trans (congrArg some (by kernel_rfl))
  f227 := Tryd.func37.trans (congrArg some (by kernel_rfl))
  f228 := Tryd.func52.trans (congrArg some (by kernel_rfl))
  f232 := Tryd.func49.trans (congrArg some (by kernel_rfl))
  f234 := Tryd.func50.trans (congrArg some (by kernel_rfl))
  f236 := Tryd.func51.trans (congrArg some (by kernel_rfl))
  f260 := Tryd.func65.trans (congrArg some (by kernel_rfl))
  f266 := Tryd.func83.trans (congrArg some (by kernel_rfl))
  f271 := Tryd.func64.trans (congrArg some (by kernel_rfl))
  t0 := Tryd.underlying0
  a0 := Tryd.isAgg0
  z0 := Tryd.sizeOf0
  v0 := Tryd.zeroValue0
  t3 := Tryd.underlying3
  a3 := Tryd.isAgg3
  z3 := Tryd.sizeOf3
  v3 := Tryd.zeroValue3
  t4 := Tryd.underlying4
  a4 := Tryd.isAgg4
  z4 := Tryd.sizeOf4
  v4 := Tryd.zeroValue4
  t5 := Tryd.underlying5
  a5 := Tryd.isAgg5
  z5 := Tryd.sizeOf5
  v5 := Tryd.zeroValue5
  t9 := Tryd.underlying9
  a9 := Tryd.isAgg9
  z9 := Tryd.sizeOf9
  v9 := Tryd.zeroValue9
  t21 := Tryd.underlying21
  a21 := Tryd.isAgg21
  z21 := Tryd.sizeOf21
  v21 := Tryd.zeroValue21
  t46 := Tryd.underlying70
  a46 := Tryd.isAgg70
  z46 := Tryd.sizeOf70
  v46 := Tryd.zeroValue70
  t105 := Tryd.underlying80
  a105 := Tryd.isAgg80
  z105 := Tryd.sizeOf80
  v105 := Tryd.zeroValue80
  t116 := Tryd.underlying64
  a116 := Tryd.isAgg64
  z116 := Tryd.sizeOf64
  t117 := Tryd.underlying65
  a117 := Tryd.isAgg65
  z117 := Tryd.sizeOf65
  v117 := Tryd.zeroValue65
  t119 := Tryd.underlying105
  a119 := Tryd.isAgg105
  z119 := Tryd.sizeOf105
  t124 := Tryd.underlying68
  a124 := Tryd.isAgg68
  z124 := Tryd.sizeOf68
  v124 := Tryd.zeroValue68
  t138 := Tryd.underlying107
  a138 := Tryd.isAgg107
  z138 := Tryd.sizeOf107
  v138 := Tryd.zeroValue107
  t139 := Tryd.underlying108
  a139 := Tryd.isAgg108
  z139 := Tryd.sizeOf108
  v139 := Tryd.zeroValue108
  g3 := by kernel_rfl
  g4 := by kernel_rfl }
open Go.RowKit in
theorem Tryd.strings_TrimRight_one (s : ByteArray) (c : UInt8) (hc : c.toNat < 128) (w : World) (hs : s.size ≤ 9223372036854775807) :
    Calls Tryd.prog 47 #[.string s, .string ⟨#[c]⟩] w fun e w' => e = .returned (.string ⟨(Lib.trimRightB s.data.toList c).toArray⟩) ∧ w' = w := Any.strings_TrimRight_one Tryd.lays162 s c hc w hs
def Tryd.lays160_ren : Go.Shelf.Ren := ⟨fun | 160 => 33 | 232 => 49 | 231 => 36 | 227 => 37 | 234 => 50 | 233 => 38 | 236 => 51 | 235 => 39 | 228 => 52 | 271 => 64 | 151 => 54 | 197 => 53 | 120 => 73 | 152 => 66 | 260 => 65 | 137 => 74 | 119 => 75 | 224 => 76 | 225 => 77 | 217 => 81 | 266 => 83 | n => n, fun | 9 => 9 | 4 => 4 | 3 => 3 | 5 => 5 | 117 => 65 | 116 => 64 | 0 => 0 | 124 => 68 | 21 => 21 | 105 => 80 | 46 => 70 | 119 => 105 | 139 => 108 | 138 => 107 | n => n, fun | 3 => 2 | 4 => 3 | n => n⟩
theorem Tryd.lays160 : Go.Proofs.Lays.n160 Tryd.prog Tryd.lays160_ren := {
  mixed := by kernel_rfl
  f119 := Tryd.func75.trans (congrArg some (by kernel_rfl))
  f120 := Tryd.func73.trans (congrArg some (by kernel_rfl))
  f137 := Tryd.func74.trans (congrArg some (by kernel_rfl))
  f151 := Tryd.func54.trans (congrArg some (by kernel_rfl))
  f152 := Tryd.func66.trans (congrArg some (by kernel_rfl))
  f160 := Tryd.func33.trans (congrArg some (by kernel_rfl))
  f197 := Tryd.func53.trans (congrArg some (by kernel_rfl))
  f217 := Tryd.func81.trans (congrArg some (by kernel_rfl))
  f224 := Tryd.func76.trans (congrArg some (by kernel_rfl))
  f225 := Tryd.func77.trans (congrArg some (by kernel_rfl))
  f227 := Tryd.func37.trans (congrArg some (by kernel_rfl))
  f228 := Tryd.func52.trans (congrArg some (by kernel_rfl))
  f231 := Tryd.func36.trans (congrArg some (by kernel_rfl))
  f232 := Tryd.func49.trans (congrArg some (by kernel_rfl))
  f233 := Tryd.func38.trans (congrArg some (by kernel_rfl))
  f234 := Tryd.func50.trans (congrArg some (by kernel_rfl))
  f235 := Tryd.func39.trans (congrArg some (by kernel_rfl))
  f236 := Tryd.func51.trans (congrArg some (by kernel_rfl))
  f260 := Tryd.func65.trans (congrArg some (by kernel_rfl))
  f266 := Tryd.func83.trans (congrArg some (by kernel_rfl))
  f271 := Tryd.func64.trans (congrArg some (by kernel_rfl))
  t0 := Tryd.underlying0
  a0 := Tryd.isAgg0
  z0 := Tryd.sizeOf0
  v0 := Tryd.zeroValue0
  t3 := Tryd.underlying3
  a3 := Tryd.isAgg3
  z3 := Tryd.sizeOf3
  v3 := Tryd.zeroValue3
  t4 := Tryd.underlying4
  a4 := Tryd.isAgg4
  z4 := Tryd.sizeOf4
  v4 := Tryd.zeroValue4
  t5 := Tryd.underlying5
  a5 := Tryd.isAgg5
  z5 := Tryd.sizeOf5
  v5 := Tryd.zeroValue5
  t9 := Tryd.underlying9
  a9 := Tryd.isAgg9
  z9 := Tryd.sizeOf9
  v9 := Tryd.zeroValue9
  t21 := Tryd.underlying21
  a21 := Tryd.isAgg21
  z21 := Tryd.sizeOf21
  v21 := Tryd.zeroValue21
  t46 := Tryd.underlying70
  a46 := Tryd.isAgg70
  z46 := Tryd.sizeOf70
  v46 := Tryd.zeroValue70
  t105 := Tryd.underlying80
  a105 := Tryd.isAgg80
  z105 := Tryd.sizeOf80
  v105 := Tryd.zeroValue80
  t116 := Tryd.underlying64
  a116 := Tryd.isAgg64
  z116 := Tryd.sizeOf64
  t117 := Tryd.underlying65
  a117 := Tryd.isAgg65
  z117 := Tryd.sizeOf65
  v117 := Tryd.zeroValue65
  t119 := Tryd.underlying105
  a119 := Tryd.isAgg105
  z119 := Tryd.sizeOf105
  t124 := Tryd.underlying68
  a124 := Tryd.isAgg68
  z124 := Tryd.sizeOf68
  v124 := Tryd.zeroValue68
  t138 := Tryd.underlying107
  a138 := Tryd.isAgg107
  z138 := Tryd.sizeOf107
  v138 := Tryd.zeroValue107
  t139 := Tryd.underlying108
  a139 := Tryd.isAgg108
  z139 := Tryd.sizeOf108
  v139 := Tryd.zeroValue108
  g3 := by kernel_rfl
  g4 := by kernel_rfl }
open Go.RowKit in
theorem Tryd.strings_Trim_one (s : ByteArray) (c : UInt8) (hc : c.toNat < 128) (w : World) (hs : s.size ≤ 9223372036854775807) :
    Calls Tryd.prog 33 #[.string s, .string ⟨#[c]⟩] w fun e w' => e = .returned (.string ⟨(Lib.trimB s.data.toList c).toArray⟩) ∧ (w' = w ∨ w' = w.drew) := Any.strings_Trim_one Tryd.lays160 s c hc w hs
def Tryd.lays99_ren : Go.Shelf.Ren := ⟨fun | 99 => 32 | 206 => 48 | n => n, fun | 9 => 9 | 4 => 4 | 3 => 3 | n => n, fun | n => n⟩
theorem Tryd.lays99 : Go.Proofs.Lays.n99 Tryd.prog Tryd.lays99_ren := {
  mixed := by kernel_rfl
  f99 := Tryd.func32.trans (congrArg some (by kernel_rfl))
  f206 := Tryd.func48.trans (congrArg some (by kernel_rfl))
  t3 := Tryd.underlying3
  a3 := Tryd.isAgg3
  z3 := Tryd.sizeOf3
  v3 := Tryd.zeroValue3
  t4 := Tryd.underlying4
  a4 := Tryd.isAgg4
  z4 := Tryd.sizeOf4
  v4 := Tryd.zeroValue4
  t9 := Tryd.underlying9
  a9 := Tryd.isAgg9
  z9 := Tryd.sizeOf9
  v9 := Tryd.zeroValue9 }
open Go.RowKit Go.Lib in
theorem Tryd.strings_HasPrefix (s p : ByteArray) (w : World) :
    Calls Tryd.prog 32 #[.string s, .string p] w fun e w' => e = .returned (.bool (Lib.hasPrefix s.data.toList p.data.toList)) ∧ w' = w := Any.strings_HasPrefix Tryd.lays99 s p w
end Go.Proofs
