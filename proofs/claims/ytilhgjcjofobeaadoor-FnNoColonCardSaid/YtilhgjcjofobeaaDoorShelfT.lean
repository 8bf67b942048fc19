/-
  DERIVED: THE SHELF's CONTRACTS AT THIS DUMP, IN PLAIN WORDS (tools/lay-plain.mjs out of 'TrydShelfT.lean', which tools/lay-shelf.mjs wrote): THE SAME DECLARATIONS UNDER THE SAME NAMES: 'import', 'namespace', 'open', 'def', 'theorem' AND NOTHING ELSE: no command of the shelf's: FOR A HAND-IN. Each laying: the table of numbers ('.._ren') and one theorem, a field a fact of the dump's own or the kernel's comparison; each contract: ONE APPLICATION.
-/
import Derived.Shelf.SlSortCmp.NoneTotal
import Derived.Test.YtilhgjcjofobeaaDoorProg
namespace Go.Proofs
open Go.Shelf
def Tryd.sortHdr_ren : Go.Shelf.Ren := ⟨fun | 6 => 19 | 15 => 37 | 14 => 36 | 28 => 61 | 29 => 62 | 20 => 53 | 21 => 54 | 22 => 55 | 23 => 56 | 24 => 57 | 25 => 58 | 26 => 59 | 27 => 60 | 46 => 81 | 47 => 82 | 48 => 83 | 49 => 84 | 50 => 85 | 57 => 95 | n => n, fun | 22 => 26 | 24 => 51 | 25 => 53 | 3 => 3 | 39 => 71 | 0 => 0 | 53 => 107 | 55 => 109 | 4 => 4 | 46 => 100 | 45 => 99 | 50 => 104 | 5 => 5 | 9 => 9 | 66 => 128 | 70 => 132 | 76 => 144 | 77 => 145 | n => n, fun | n => n⟩
theorem Tryd.sortHdr : Go.Proofs.SlLaysF0.n6 Tryd.prog Tryd.sortHdr_ren := {
  mixed := by kernel_rfl
  f6 := ⟨Tryd.f19.name, by decide, Tryd.func19.trans (congrArg some (by kernel_rfl))⟩
  f14 := ⟨Tryd.f36.name, by decide, Tryd.func36.trans (congrArg some (by kernel_rfl))⟩
  f15 := Tryd.func37.trans (congrArg some (by kernel_rfl))
  f20 := ⟨Tryd.f53.name, by decide, Tryd.func53.trans (congrArg some (by kernel_rfl))⟩
  f21 := ⟨Tryd.f54.name, by decide, Tryd.func54.trans (congrArg some (by kernel_rfl))⟩
  f22 := ⟨Tryd.f55.name, by decide, Tryd.func55.trans (congrArg some (by kernel_rfl))⟩
  f23 := ⟨Tryd.f56.name, by decide, Tryd.func56.trans (congrArg some (by kernel_rfl))⟩
  f24 := ⟨Tryd.f57.name, by decide, Tryd.func57.trans (congrArg some (by kernel_rfl))⟩
  f25 := ⟨Tryd.f58.name, by decide, Tryd.func58.trans (congrArg some (by kernel_rfl))⟩
  f26 := ⟨Tryd.f59.name, by decide, Tryd.func59.trans (congrArg some (by kernel_rfl))⟩
  f27 := ⟨Tryd.f60.name, by decide, Tryd.func60.trans (congrArg some (by kernel_rfl))⟩
  f28 := Tryd.func61.trans (congrArg some (by kernel_rfl))
  f29 := Tryd.func62.trans (congrArg some (by kernel_rfl))
  f46 := ⟨Tryd.f81.name, by decide, Tryd.func81.trans (congrArg some (by kernel_rfl))⟩
  f47 := Tryd.func82.trans (congrArg some (by kernel_rfl))
  f48 := Tryd.func83.trans (congrArg some (by kernel_rfl))
  f49 := ⟨Tryd.f84.name, by decide, Tryd.func84.trans (congrArg some (by kernel_rfl))⟩
  f50 := ⟨Tryd.f85.name, by decide, Tryd.func85.trans (congrArg some (by kernel_rfl))⟩
  f57 := ⟨Tryd.f95.name, by decide, Tryd.func95.trans (congrArg some (by kernel_rfl))⟩
  t0 := Tryd.underlying0
  a0 := Tryd.isAgg0
  z0 := Tryd.sizeOf0
  v0 := Tryd.zeroValue0
  t3 := Tryd.underlying3
  a3 := Tryd.isAgg3
  z3 := Tryd.sizeOf3
  v3 := Tryd.zeroValue3
  t4 := Tryd.underlying4
  a4 := Tryd.isAgg4
  z4 := Tryd.sizeOf4
  v4 := Tryd.zeroValue4
  t5 := Tryd.underlying5
  a5 := Tryd.isAgg5
  z5 := Tryd.sizeOf5
  v5 := Tryd.zeroValue5
  t9 := Tryd.underlying9
  a9 := Tryd.isAgg9
  z9 := Tryd.sizeOf9
  v9 := Tryd.zeroValue9
  t22 := Tryd.underlying26
  a22 := Tryd.isAgg26
  z22 := Tryd.sizeOf26
  v22 := Tryd.zeroValue26
  t25 := Tryd.underlying53
  a25 := Tryd.isAgg53
  z25 := Tryd.sizeOf53
  v25 := Tryd.zeroValue53
  t39 := Tryd.underlying71
  a39 := Tryd.isAgg71
  z39 := Tryd.sizeOf71
  v39 := Tryd.zeroValue71
  t45 := Tryd.underlying99
  a45 := Tryd.isAgg99
  z45 := Tryd.sizeOf99
  v45 := Tryd.zeroValue99
  t46 := Tryd.underlying100
  a46 := Tryd.isAgg100
  z46 := Tryd.sizeOf100
  v46 := Tryd.zeroValue100
  t50 := Tryd.underlying104
  a50 := Tryd.isAgg104
  z50 := Tryd.sizeOf104
  v50 := Tryd.zeroValue104
  t53 := Tryd.underlying107
  a53 := Tryd.isAgg107
  z53 := Tryd.sizeOf107
  v53 := Tryd.zeroValue107
  t55 := Tryd.underlying109
  a55 := Tryd.isAgg109
  z55 := Tryd.sizeOf109
  v55 := Tryd.zeroValue109
  t66 := Tryd.underlying128
  a66 := Tryd.isAgg128
  z66 := Tryd.sizeOf128
  v66 := Tryd.zeroValue128
  t70 := Tryd.underlying132
  a70 := Tryd.isAgg132
  z70 := Tryd.sizeOf132
  v70 := Tryd.zeroValue132
  t76 := Tryd.underlying144
  a76 := Tryd.isAgg144
  z76 := Tryd.sizeOf144
  v76 := Tryd.zeroValue144
  t77 := Tryd.underlying145
  a77 := Tryd.isAgg145
  z77 := Tryd.sizeOf145
  v77 := Tryd.zeroValue145 }
end Go.Proofs
