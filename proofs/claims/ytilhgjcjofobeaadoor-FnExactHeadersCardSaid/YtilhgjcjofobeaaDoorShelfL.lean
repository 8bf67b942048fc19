/-
  DERIVED: THE SHELF's CONTRACTS AT THIS DUMP, IN PLAIN WORDS (tools/lay-plain.mjs out of 'TrydShelfT.lean', which tools/lay-shelf.mjs wrote): THE SAME DECLARATIONS UNDER THE SAME NAMES: 'import', 'namespace', 'open', 'def', 'theorem' AND NOTHING ELSE: no command of the shelf's: FOR A HAND-IN. Each laying: the table of numbers ('.._ren') and one theorem, a field a fact of the dump's own or the kernel's comparison; each contract: ONE APPLICATION.
-/
import Derived.Shelf.Bytes.SlTrim
import Derived.Test.YtilhgjcjofobeaaDoorProg
namespace Go.Proofs
open Go.Shelf
def Tryd.trimL_ren : Go.Shelf.Ren := ⟨fun | 8 => 52 | 9 => 77 | 11 => 78 | 12 => 79 | 14 => 80 | 16 => 92 | 17 => 93 | 18 => 94 | 20 => 96 | n => n, fun | 22 => 23 | 9 => 9 | 3 => 3 | 4 => 4 | 5 => 5 | 28 => 124 | 27 => 123 | 0 => 0 | 31 => 127 | 33 => 141 | 21 => 21 | 36 => 149 | 37 => 71 | 40 => 152 | 39 => 151 | n => n, fun | 0 => 9 | 1 => 10 | n => n⟩
theorem Tryd.trimL : Go.Proofs.SlLaysV.n8 Tryd.prog Tryd.trimL_ren := {
  mixed := by kernel_rfl
  f8 := Tryd.func52.trans (congrArg some (by kernel_rfl))
  f9 := Tryd.func77.trans (congrArg some (by kernel_rfl))
  f11 := Tryd.func78.trans (congrArg some (by kernel_rfl))
  f12 := Tryd.func79.trans (congrArg some (by kernel_rfl))
  f14 := Tryd.func80.trans (congrArg some (by kernel_rfl))
  f16 := Tryd.func92.trans (congrArg some (by kernel_rfl))
  f17 := Tryd.func93.trans (congrArg some (by kernel_rfl))
  f18 := Tryd.func94.trans (congrArg some (by kernel_rfl))
  f20 := Tryd.func96.trans (congrArg some (by kernel_rfl))
  t0 := Tryd.underlying0
  a0 := Tryd.isAgg0
  z0 := Tryd.sizeOf0
  v0 := Tryd.zeroValue0
  t3 := Tryd.underlying3
  a3 := Tryd.isAgg3
  z3 := Tryd.sizeOf3
  v3 := Tryd.zeroValue3
  t4 := Tryd.underlying4
  a4 := Tryd.isAgg4
  z4 := Tryd.sizeOf4
  v4 := Tryd.zeroValue4
  t5 := Tryd.underlying5
  a5 := Tryd.isAgg5
  z5 := Tryd.sizeOf5
  v5 := Tryd.zeroValue5
  t9 := Tryd.underlying9
  a9 := Tryd.isAgg9
  z9 := Tryd.sizeOf9
  v9 := Tryd.zeroValue9
  t21 := Tryd.underlying21
  a21 := Tryd.isAgg21
  z21 := Tryd.sizeOf21
  v21 := Tryd.zeroValue21
  t22 := Tryd.underlying23
  a22 := Tryd.isAgg23
  z22 := Tryd.sizeOf23
  v22 := Tryd.zeroValue23
  t27 := Tryd.underlying123
  a27 := Tryd.isAgg123
  z27 := Tryd.sizeOf123
  t28 := Tryd.underlying124
  a28 := Tryd.isAgg124
  z28 := Tryd.sizeOf124
  v28 := Tryd.zeroValue124
  t31 := Tryd.underlying127
  a31 := Tryd.isAgg127
  z31 := Tryd.sizeOf127
  v31 := Tryd.zeroValue127
  t33 := Tryd.underlying141
  a33 := Tryd.isAgg141
  z33 := Tryd.sizeOf141
  v33 := Tryd.zeroValue141
  t36 := Tryd.underlying149
  a36 := Tryd.isAgg149
  z36 := Tryd.sizeOf149
  t37 := Tryd.underlying71
  a37 := Tryd.isAgg71
  z37 := Tryd.sizeOf71
  v37 := Tryd.zeroValue71
  t39 := Tryd.underlying151
  a39 := Tryd.isAgg151
  z39 := Tryd.sizeOf151
  v39 := Tryd.zeroValue151
  t40 := Tryd.underlying152
  a40 := Tryd.isAgg152
  z40 := Tryd.sizeOf152
  v40 := Tryd.zeroValue152 }
end Go.Proofs
