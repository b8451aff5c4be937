/-
  DERIVED: THE SHELF's CONTRACTS AT THIS DUMP, IN PLAIN WORDS (tools/lay-plain.mjs out of 'Qxb6604778aShelgsrc.lean', which tools/lay-shelf.mjs wrote): THE SAME DECLARATIONS UNDER THE SAME NAMES: 'import', 'namespace', 'open', 'def', 'theorem' AND NOTHING ELSE: no command of the shelf's: FOR A HAND-IN. Each laying: the table of numbers ('.._ren') and one theorem, a field a fact of the dump's own or the kernel's comparison; each contract: ONE APPLICATION.
-/
import Derived.Shelf.Sort.Plain
import Derived.Ground.Names2Prog
import Derived.Shelf.Slices.CompactI
import Derived.Ground.SlgfProg
import Derived.Shelf.SlicesE.DeleteFunc
import Derived.Test.Qxb6604778aProg
namespace Go.Proofs
open Go.Shelf
def Try.sortI_ren : Go.Shelf.Ren := ⟨fun | 189 => 24 | 125 => 27 | 257 => 29 | 128 => 38 | 129 => 39 | 294 => 40 | 295 => 41 | 296 => 42 | 297 => 43 | 298 => 44 | 299 => 45 | 216 => 46 | 300 => 47 | 301 => 48 | 328 => 54 | 329 => 50 | 330 => 51 | 331 => 55 | 332 => 56 | 215 => 57 | 343 => 59 | n => n, fun | 28 => 34 | 3 => 3 | 46 => 57 | 0 => 0 | 51 => 69 | 53 => 71 | 4 => 4 | 183 => 62 | 182 => 61 | 131 => 66 | 5 => 5 | 9 => 9 | 218 => 78 | 222 => 82 | 228 => 86 | 229 => 87 | n => n, fun | n => n⟩
theorem Try.sortI : Go.Proofs.Lays.n189 Try.prog Try.sortI_ren := {
  mixed := by kernel_rfl
  f125 := Try.func27.trans (congrArg some (by kernel_rfl))
  f128 := Try.func38.trans (congrArg some (by kernel_rfl))
  f129 := Try.func39.trans (congrArg some (by kernel_rfl))
  f189 := Try.func24.trans (congrArg some (by kernel_rfl))
  f215 := Try.func57.trans (congrArg some (by kernel_rfl))
  f216 := Try.func46.trans (congrArg some (by kernel_rfl))
  f257 := Try.func29.trans (congrArg some (by kernel_rfl))
  f294 := Try.func40.trans (congrArg some (by kernel_rfl))
  f295 := Try.func41.trans (congrArg some (by kernel_rfl))
  f296 := Try.func42.trans (congrArg some (by kernel_rfl))
  f297 := Try.func43.trans (congrArg some (by kernel_rfl))
  f298 := Try.func44.trans (congrArg some (by kernel_rfl))
  f299 := Try.func45.trans (congrArg some (by kernel_rfl))
  f300 := Try.func47.trans (congrArg some (by kernel_rfl))
  f301 := Try.func48.trans (congrArg some (by kernel_rfl))
  f328 := Try.func54.trans (congrArg some (by kernel_rfl))
  f329 := Try.func50.trans (congrArg some (by kernel_rfl))
  f330 := Try.func51.trans (congrArg some (by kernel_rfl))
  f331 := Try.func55.trans (congrArg some (by kernel_rfl))
  f332 := Try.func56.trans (congrArg some (by kernel_rfl))
  f343 := Try.func59.trans (congrArg some (by kernel_rfl))
  t0 := Try.underlying0
  a0 := Try.isAgg0
  z0 := Try.sizeOf0
  v0 := Try.zeroValue0
  t3 := Try.underlying3
  a3 := Try.isAgg3
  z3 := Try.sizeOf3
  v3 := Try.zeroValue3
  t4 := Try.underlying4
  a4 := Try.isAgg4
  z4 := Try.sizeOf4
  v4 := Try.zeroValue4
  t5 := Try.underlying5
  a5 := Try.isAgg5
  z5 := Try.sizeOf5
  v5 := Try.zeroValue5
  t9 := Try.underlying9
  a9 := Try.isAgg9
  z9 := Try.sizeOf9
  v9 := Try.zeroValue9
  t28 := Try.underlying34
  a28 := Try.isAgg34
  z28 := Try.sizeOf34
  v28 := Try.zeroValue34
  t46 := Try.underlying57
  a46 := Try.isAgg57
  z46 := Try.sizeOf57
  v46 := Try.zeroValue57
  t51 := Try.underlying69
  a51 := Try.isAgg69
  z51 := Try.sizeOf69
  v51 := Try.zeroValue69
  t53 := Try.underlying71
  a53 := Try.isAgg71
  z53 := Try.sizeOf71
  v53 := Try.zeroValue71
  t131 := Try.underlying66
  a131 := Try.isAgg66
  z131 := Try.sizeOf66
  v131 := Try.zeroValue66
  t182 := Try.underlying61
  a182 := Try.isAgg61
  z182 := Try.sizeOf61
  v182 := Try.zeroValue61
  t183 := Try.underlying62
  a183 := Try.isAgg62
  z183 := Try.sizeOf62
  v183 := Try.zeroValue62
  t218 := Try.underlying78
  a218 := Try.isAgg78
  z218 := Try.sizeOf78
  v218 := Try.zeroValue78
  t222 := Try.underlying82
  a222 := Try.isAgg82
  z222 := Try.sizeOf82
  v222 := Try.zeroValue82
  t228 := Try.underlying86
  a228 := Try.isAgg86
  z228 := Try.sizeOf86
  v228 := Try.zeroValue86
  t229 := Try.underlying87
  a229 := Try.isAgg87
  z229 := Try.sizeOf87
  v229 := Try.zeroValue87 }
def Try.compI_ren : Go.Shelf.Ren := ⟨fun | 20 => 25 | n => n, fun | 22 => 34 | 3 => 3 | 4 => 4 | 0 => 0 | n => n, fun | n => n⟩
theorem Try.compI : Go.Proofs.Lays2.n20 Try.prog Try.compI_ren := {
  mixed := by kernel_rfl
  f20 := Try.func25.trans (congrArg some (by kernel_rfl))
  t0 := Try.underlying0
  a0 := Try.isAgg0
  z0 := Try.sizeOf0
  v0 := Try.zeroValue0
  t3 := Try.underlying3
  a3 := Try.isAgg3
  z3 := Try.sizeOf3
  v3 := Try.zeroValue3
  t4 := Try.underlying4
  a4 := Try.isAgg4
  z4 := Try.sizeOf4
  v4 := Try.zeroValue4
  t22 := Try.underlying34
  a22 := Try.isAgg34
  z22 := Try.sizeOf34
  v22 := Try.zeroValue34
  i3 := by kernel_rfl }
def Try.delI_ren : Go.Shelf.Ren := ⟨fun | 10 => 22 | 6 => 28 | n => n, fun | 22 => 34 | 23 => 3 | 25 => 52 | 3 => 3 | 4 => 4 | 0 => 0 | n => n, fun | n => n⟩
theorem Try.delI : Go.Proofs.SlLaysH.n10 Try.prog Try.delI_ren := {
  mixed := by kernel_rfl
  f6 := ⟨Try.f28.name, by decide, Try.func28.trans (congrArg some (by kernel_rfl))⟩
  f10 := ⟨Try.f22.name, by decide, Try.func22.trans (congrArg some (by kernel_rfl))⟩
  t0 := Try.underlying0
  a0 := Try.isAgg0
  z0 := Try.sizeOf0
  v0 := Try.zeroValue0
  t3 := Try.underlying3
  a3 := Try.isAgg3
  z3 := Try.sizeOf3
  v3 := Try.zeroValue3
  t4 := Try.underlying4
  a4 := Try.isAgg4
  z4 := Try.sizeOf4
  v4 := Try.zeroValue4
  t22 := Try.underlying34
  a22 := Try.isAgg34
  z22 := Try.sizeOf34
  v22 := Try.zeroValue34
  a23 := Try.isAgg3
  z23 := Try.sizeOf3
  t25 := Try.underlying52
  a25 := Try.isAgg52
  z25 := Try.sizeOf52
  v25 := Try.zeroValue52 }
end Go.Proofs
