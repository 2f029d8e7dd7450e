/-
  DERIVED: THE SHELF's CONTRACTS AT THIS DUMP, IN PLAIN WORDS (tools/lay-plain.mjs out of 'Qxb6000766aDoorShelf0.lean', which tools/lay-shelf.mjs wrote): THE SAME DECLARATIONS UNDER THE SAME NAMES: 'import', 'namespace', 'open', 'def', 'theorem' AND NOTHING ELSE: no command of the shelf's: FOR A HAND-IN. Each laying: the table of numbers ('.._ren') and one theorem, a field a fact of the dump's own or the kernel's comparison; each contract: ONE APPLICATION.
-/
import Derived.Shelf.Strings.SlTrimAscii
import Derived.Shelf.Strings.Prefix
import Derived.Test.Qxb6000766aDoorProg
namespace Go.Proofs
open Go.Shelf
def Tryd.lays161_ren : Go.Shelf.Ren := ⟨fun | 161 => 20 | 231 => 22 | 227 => 23 | 233 => 24 | 235 => 25 | 228 => 27 | 197 => 28 | 151 => 29 | 260 => 31 | 152 => 32 | 137 => 34 | 119 => 35 | 224 => 36 | 225 => 37 | 217 => 38 | 266 => 39 | n => n, fun | 9 => 9 | 4 => 4 | 3 => 3 | 5 => 5 | 117 => 46 | 116 => 45 | 0 => 0 | 124 => 49 | 105 => 50 | 21 => 21 | 119 => 55 | 46 => 56 | 139 => 59 | 138 => 58 | n => n, fun | 3 => 0 | 4 => 1 | n => n⟩
theorem Tryd.lays161 : Go.Proofs.Lays.n161 Tryd.prog Tryd.lays161_ren := {
  mixed := by kernel_rfl
  f119 := Tryd.func35.trans (congrArg some (by kernel_rfl))
  f137 := Tryd.func34.trans (congrArg some (by kernel_rfl))
  f151 := Tryd.func29.trans (congrArg some (by kernel_rfl))
  f152 := Tryd.func32.trans (congrArg some (by kernel_rfl))
  f161 := Tryd.func20.trans (congrArg some (by kernel_rfl))
  f197 := Tryd.func28.trans (congrArg some (by kernel_rfl))
  f217 := Tryd.func38.trans (congrArg some (by kernel_rfl))
  f224 := Tryd.func36.trans (congrArg some (by kernel_rfl))
  f225 := Tryd.func37.trans (congrArg some (by kernel_rfl))
  f227 := Tryd.func23.trans (congrArg some (by kernel_rfl))
  f228 := Tryd.func27.trans (congrArg some (by kernel_rfl))
  f231 := Tryd.func22.trans (congrArg some (by kernel_rfl))
  f233 := Tryd.func24.trans (congrArg some (by kernel_rfl))
  f235 := Tryd.func25.trans (congrArg some (by kernel_rfl))
  f260 := Tryd.func31.trans (congrArg some (by kernel_rfl))
  f266 := Tryd.func39.trans (congrArg some (by kernel_rfl))
  t0 := Tryd.underlying0
  a0 := Tryd.isAgg0
  z0 := Tryd.sizeOf0
  v0 := Tryd.zeroValue0
  t3 := Tryd.underlying3
  a3 := Tryd.isAgg3
  z3 := Tryd.sizeOf3
  v3 := Tryd.zeroValue3
  t4 := Tryd.underlying4
  a4 := Tryd.isAgg4
  z4 := Tryd.sizeOf4
  v4 := Tryd.zeroValue4
  t5 := Tryd.underlying5
  a5 := Tryd.isAgg5
  z5 := Tryd.sizeOf5
  v5 := Tryd.zeroValue5
  t9 := Tryd.underlying9
  a9 := Tryd.isAgg9
  z9 := Tryd.sizeOf9
  v9 := Tryd.zeroValue9
  t21 := Tryd.underlying21
  a21 := Tryd.isAgg21
  z21 := Tryd.sizeOf21
  v21 := Tryd.zeroValue21
  t46 := Tryd.underlying56
  a46 := Tryd.isAgg56
  z46 := Tryd.sizeOf56
  v46 := Tryd.zeroValue56
  t105 := Tryd.underlying50
  a105 := Tryd.isAgg50
  z105 := Tryd.sizeOf50
  v105 := Tryd.zeroValue50
  t116 := Tryd.underlying45
  a116 := Tryd.isAgg45
  z116 := Tryd.sizeOf45
  t117 := Tryd.underlying46
  a117 := Tryd.isAgg46
  z117 := Tryd.sizeOf46
  v117 := Tryd.zeroValue46
  t119 := Tryd.underlying55
  a119 := Tryd.isAgg55
  z119 := Tryd.sizeOf55
  t124 := Tryd.underlying49
  a124 := Tryd.isAgg49
  z124 := Tryd.sizeOf49
  v124 := Tryd.zeroValue49
  t138 := Tryd.underlying58
  a138 := Tryd.isAgg58
  z138 := Tryd.sizeOf58
  v138 := Tryd.zeroValue58
  t139 := Tryd.underlying59
  a139 := Tryd.isAgg59
  z139 := Tryd.sizeOf59
  v139 := Tryd.zeroValue59
  g3 := by kernel_rfl
  g4 := by kernel_rfl }
def Tryd.lays101_ren : Go.Shelf.Ren := ⟨fun | 101 => 26 | 208 => 30 | 206 => 33 | n => n, fun | 9 => 9 | 4 => 4 | 3 => 3 | n => n, fun | n => n⟩
theorem Tryd.lays101 : Go.Proofs.Lays.n101 Tryd.prog Tryd.lays101_ren := {
  mixed := by kernel_rfl
  f101 := Tryd.func26.trans (congrArg some (by kernel_rfl))
  f206 := Tryd.func33.trans (congrArg some (by kernel_rfl))
  f208 := Tryd.func30.trans (congrArg some (by kernel_rfl))
  t3 := Tryd.underlying3
  a3 := Tryd.isAgg3
  z3 := Tryd.sizeOf3
  v3 := Tryd.zeroValue3
  t4 := Tryd.underlying4
  a4 := Tryd.isAgg4
  z4 := Tryd.sizeOf4
  v4 := Tryd.zeroValue4
  t9 := Tryd.underlying9
  a9 := Tryd.isAgg9
  z9 := Tryd.sizeOf9
  v9 := Tryd.zeroValue9 }
end Go.Proofs
