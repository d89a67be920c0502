/-
  DERIVED: THE SHELF's CONTRACTS AT THIS DUMP, IN PLAIN WORDS (tools/lay-plain.mjs out of 'YtmbjhfkpmgkkbaaGreatDoorShelf2.lean', which tools/lay-shelf.mjs wrote): THE SAME DECLARATIONS UNDER THE SAME NAMES: 'import', 'namespace', 'open', 'def', 'theorem' AND NOTHING ELSE: no command of the shelf's: FOR A HAND-IN. Each laying: the table of numbers ('.._ren') and one theorem, a field a fact of the dump's own or the kernel's comparison; each contract: ONE APPLICATION.
-/
import Derived.Shelf.Strings.Prefix
import Derived.Shelf.Slices.In.SortNone
import Derived.Shelf.Sort.Plain
import Derived.Ground.NamesProg
import Derived.Test.YtmbjhfkpmgkkbaaGreatDoorProg
namespace Go.Proofs
open Go.Shelf
def Tryz.lays190_ren : Go.Shelf.Ren := ⟨fun | 190 => 24 | 125 => 32 | 258 => 31 | 128 => 52 | 129 => 53 | 302 => 43 | 303 => 44 | 304 => 45 | 305 => 46 | 306 => 47 | 307 => 48 | 308 => 49 | 309 => 50 | 310 => 51 | 333 => 63 | 329 => 64 | 330 => 65 | 334 => 66 | 335 => 67 | 336 => 68 | 344 => 75 | n => n, fun | 31 => 22 | 9 => 9 | 3 => 3 | 46 => 44 | 0 => 0 | 51 => 89 | 53 => 91 | 4 => 4 | 183 => 82 | 182 => 81 | 131 => 86 | 5 => 5 | 218 => 99 | 222 => 103 | 228 => 113 | 229 => 114 | n => n, fun | n => n⟩
theorem Tryz.lays190 : Go.Proofs.Lays.n190 Tryz.prog Tryz.lays190_ren := {
  mixed := by kernel_rfl
  f125 := Tryz.func32.trans (congrArg some (by kernel_rfl))
  f128 := Tryz.func52.trans (congrArg some (by kernel_rfl))
  f129 := Tryz.func53.trans (congrArg some (by kernel_rfl))
  f190 := Tryz.func24.trans (congrArg some (by kernel_rfl))
  f258 := Tryz.func31.trans (congrArg some (by kernel_rfl))
  f302 := Tryz.func43.trans (congrArg some (by kernel_rfl))
  f303 := Tryz.func44.trans (congrArg some (by kernel_rfl))
  f304 := Tryz.func45.trans (congrArg some (by kernel_rfl))
  f305 := Tryz.func46.trans (congrArg some (by kernel_rfl))
  f306 := Tryz.func47.trans (congrArg some (by kernel_rfl))
  f307 := Tryz.func48.trans (congrArg some (by kernel_rfl))
  f308 := Tryz.func49.trans (congrArg some (by kernel_rfl))
  f309 := Tryz.func50.trans (congrArg some (by kernel_rfl))
  f310 := Tryz.func51.trans (congrArg some (by kernel_rfl))
  f329 := Tryz.func64.trans (congrArg some (by kernel_rfl))
  f330 := Tryz.func65.trans (congrArg some (by kernel_rfl))
  f333 := Tryz.func63.trans (congrArg some (by kernel_rfl))
  f334 := Tryz.func66.trans (congrArg some (by kernel_rfl))
  f335 := Tryz.func67.trans (congrArg some (by kernel_rfl))
  f336 := Tryz.func68.trans (congrArg some (by kernel_rfl))
  f344 := Tryz.func75.trans (congrArg some (by kernel_rfl))
  t0 := Tryz.underlying0
  a0 := Tryz.isAgg0
  z0 := Tryz.sizeOf0
  v0 := Tryz.zeroValue0
  t3 := Tryz.underlying3
  a3 := Tryz.isAgg3
  z3 := Tryz.sizeOf3
  v3 := Tryz.zeroValue3
  t4 := Tryz.underlying4
  a4 := Tryz.isAgg4
  z4 := Tryz.sizeOf4
  v4 := Tryz.zeroValue4
  t5 := Tryz.underlying5
  a5 := Tryz.isAgg5
  z5 := Tryz.sizeOf5
  v5 := Tryz.zeroValue5
  t9 := Tryz.underlying9
  a9 := Tryz.isAgg9
  z9 := Tryz.sizeOf9
  v9 := Tryz.zeroValue9
  t31 := Tryz.underlying22
  a31 := Tryz.isAgg22
  z31 := Tryz.sizeOf22
  v31 := Tryz.zeroValue22
  t46 := Tryz.underlying44
  a46 := Tryz.isAgg44
  z46 := Tryz.sizeOf44
  v46 := Tryz.zeroValue44
  t51 := Tryz.underlying89
  a51 := Tryz.isAgg89
  z51 := Tryz.sizeOf89
  v51 := Tryz.zeroValue89
  t53 := Tryz.underlying91
  a53 := Tryz.isAgg91
  z53 := Tryz.sizeOf91
  v53 := Tryz.zeroValue91
  t131 := Tryz.underlying86
  a131 := Tryz.isAgg86
  z131 := Tryz.sizeOf86
  v131 := Tryz.zeroValue86
  t182 := Tryz.underlying81
  a182 := Tryz.isAgg81
  z182 := Tryz.sizeOf81
  v182 := Tryz.zeroValue81
  t183 := Tryz.underlying82
  a183 := Tryz.isAgg82
  z183 := Tryz.sizeOf82
  v183 := Tryz.zeroValue82
  t218 := Tryz.underlying99
  a218 := Tryz.isAgg99
  z218 := Tryz.sizeOf99
  v218 := Tryz.zeroValue99
  t222 := Tryz.underlying103
  a222 := Tryz.isAgg103
  z222 := Tryz.sizeOf103
  v222 := Tryz.zeroValue103
  t228 := Tryz.underlying113
  a228 := Tryz.isAgg113
  z228 := Tryz.sizeOf113
  v228 := Tryz.zeroValue113
  t229 := Tryz.underlying114
  a229 := Tryz.isAgg114
  z229 := Tryz.sizeOf114
  v229 := Tryz.zeroValue114 }
def Tryz.lays99_ren : Go.Shelf.Ren := ⟨fun | 99 => 23 | 206 => 30 | n => n, fun | 9 => 9 | 4 => 4 | 3 => 3 | n => n, fun | n => n⟩
theorem Tryz.lays99 : Go.Proofs.Lays.n99 Tryz.prog Tryz.lays99_ren := {
  mixed := by kernel_rfl
  f99 := Tryz.func23.trans (congrArg some (by kernel_rfl))
  f206 := Tryz.func30.trans (congrArg some (by kernel_rfl))
  t3 := Tryz.underlying3
  a3 := Tryz.isAgg3
  z3 := Tryz.sizeOf3
  v3 := Tryz.zeroValue3
  t4 := Tryz.underlying4
  a4 := Tryz.isAgg4
  z4 := Tryz.sizeOf4
  v4 := Tryz.zeroValue4
  t9 := Tryz.underlying9
  a9 := Tryz.isAgg9
  z9 := Tryz.sizeOf9
  v9 := Tryz.zeroValue9 }
end Go.Proofs
