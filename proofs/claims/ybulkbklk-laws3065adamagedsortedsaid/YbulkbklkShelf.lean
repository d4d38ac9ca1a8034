/-
  DERIVED: THE SHELF's CONTRACTS AT THIS DUMP, IN PLAIN WORDS (tools/lay-plain.mjs out of 'YbulkbklkShelf.lean', which tools/lay-shelf.mjs wrote): THE SAME DECLARATIONS UNDER THE SAME NAMES: 'import', 'namespace', 'open', 'def', 'theorem' AND NOTHING ELSE: no command of the shelf's: FOR A HAND-IN. Each laying: the table of numbers ('.._ren') and one theorem, a field a fact of the dump's own or the kernel's comparison; each contract: ONE APPLICATION.
-/
import Derived.Shelf.Slices.In.SortNone2
import Derived.Shelf.Sort.Plain
import Derived.Test.YbulkbklkProg
namespace Go.Proofs
open Go.Shelf
def Yba.lays192_ren : Go.Shelf.Ren := ⟨fun | 192 => 9 | 190 => 18 | 125 => 23 | 258 => 22 | 128 => 33 | 129 => 34 | 302 => 24 | 303 => 25 | 304 => 26 | 305 => 27 | 306 => 28 | 307 => 29 | 308 => 30 | 309 => 31 | 310 => 32 | 333 => 35 | 329 => 36 | 330 => 37 | 334 => 38 | 335 => 39 | 336 => 40 | 344 => 41 | n => n, fun | 31 => 22 | 0 => 0 | 9 => 9 | 3 => 3 | 46 => 67 | 51 => 28 | 53 => 79 | 4 => 4 | 183 => 70 | 182 => 69 | 131 => 75 | 5 => 5 | 218 => 80 | 222 => 84 | 228 => 87 | 229 => 88 | n => n, fun | n => n⟩
theorem Yba.lays192 : Go.Proofs.Lays.n192 Yba.prog Yba.lays192_ren := {
  mixed := by kernel_rfl
  f125 := Yba.func23.trans (congrArg some (by kernel_rfl))
  f128 := Yba.func33.trans (congrArg some (by kernel_rfl))
  f129 := Yba.func34.trans (congrArg some (by kernel_rfl))
  f190 := Yba.func18.trans (congrArg some (by kernel_rfl))
  f192 := Yba.func9.trans (congrArg some (by kernel_rfl))
  f258 := Yba.func22.trans (congrArg some (by kernel_rfl))
  f302 := Yba.func24.trans (congrArg some (by kernel_rfl))
  f303 := Yba.func25.trans (congrArg some (by kernel_rfl))
  f304 := Yba.func26.trans (congrArg some (by kernel_rfl))
  f305 := Yba.func27.trans (congrArg some (by kernel_rfl))
  f306 := Yba.func28.trans (congrArg some (by kernel_rfl))
  f307 := Yba.func29.trans (congrArg some (by kernel_rfl))
  f308 := Yba.func30.trans (congrArg some (by kernel_rfl))
  f309 := Yba.func31.trans (congrArg some (by kernel_rfl))
  f310 := Yba.func32.trans (congrArg some (by kernel_rfl))
  f329 := Yba.func36.trans (congrArg some (by kernel_rfl))
  f330 := Yba.func37.trans (congrArg some (by kernel_rfl))
  f333 := Yba.func35.trans (congrArg some (by kernel_rfl))
  f334 := Yba.func38.trans (congrArg some (by kernel_rfl))
  f335 := Yba.func39.trans (congrArg some (by kernel_rfl))
  f336 := Yba.func40.trans (congrArg some (by kernel_rfl))
  f344 := Yba.func41.trans (congrArg some (by kernel_rfl))
  t0 := Yba.underlying0
  a0 := Yba.isAgg0
  z0 := Yba.sizeOf0
  v0 := Yba.zeroValue0
  t3 := Yba.underlying3
  a3 := Yba.isAgg3
  z3 := Yba.sizeOf3
  v3 := Yba.zeroValue3
  t4 := Yba.underlying4
  a4 := Yba.isAgg4
  z4 := Yba.sizeOf4
  v4 := Yba.zeroValue4
  t5 := Yba.underlying5
  a5 := Yba.isAgg5
  z5 := Yba.sizeOf5
  v5 := Yba.zeroValue5
  t9 := Yba.underlying9
  a9 := Yba.isAgg9
  z9 := Yba.sizeOf9
  v9 := Yba.zeroValue9
  t31 := Yba.underlying22
  a31 := Yba.isAgg22
  z31 := Yba.sizeOf22
  v31 := Yba.zeroValue22
  t46 := Yba.underlying67
  a46 := Yba.isAgg67
  z46 := Yba.sizeOf67
  v46 := Yba.zeroValue67
  t51 := Yba.underlying28
  a51 := Yba.isAgg28
  z51 := Yba.sizeOf28
  v51 := Yba.zeroValue28
  t53 := Yba.underlying79
  a53 := Yba.isAgg79
  z53 := Yba.sizeOf79
  v53 := Yba.zeroValue79
  t131 := Yba.underlying75
  a131 := Yba.isAgg75
  z131 := Yba.sizeOf75
  v131 := Yba.zeroValue75
  t182 := Yba.underlying69
  a182 := Yba.isAgg69
  z182 := Yba.sizeOf69
  v182 := Yba.zeroValue69
  t183 := Yba.underlying70
  a183 := Yba.isAgg70
  z183 := Yba.sizeOf70
  v183 := Yba.zeroValue70
  t218 := Yba.underlying80
  a218 := Yba.isAgg80
  z218 := Yba.sizeOf80
  v218 := Yba.zeroValue80
  t222 := Yba.underlying84
  a222 := Yba.isAgg84
  z222 := Yba.sizeOf84
  v222 := Yba.zeroValue84
  t228 := Yba.underlying87
  a228 := Yba.isAgg87
  z228 := Yba.sizeOf87
  v228 := Yba.zeroValue87
  t229 := Yba.underlying88
  a229 := Yba.isAgg88
  z229 := Yba.sizeOf88
  v229 := Yba.zeroValue88 }
end Go.Proofs
