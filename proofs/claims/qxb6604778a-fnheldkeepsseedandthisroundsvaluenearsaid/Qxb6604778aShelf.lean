/-
  DERIVED: THE SHELF's CONTRACTS AT THIS DUMP, IN PLAIN WORDS (tools/lay-plain.mjs out of 'Qxb6604778aShelfsrc.lean', which tools/lay-shelf.mjs wrote): THE SAME DECLARATIONS UNDER THE SAME NAMES: 'import', 'namespace', 'open', 'def', 'theorem' AND NOTHING ELSE: no command of the shelf's: FOR A HAND-IN. Each laying: the table of numbers ('.._ren') and one theorem, a field a fact of the dump's own or the kernel's comparison; each contract: ONE APPLICATION.
-/
import Derived.Test.Qxb6604778aProg
import Derived.Shelf.SlSortCmp.NoneTotal
import Derived.Ground.SlsfProg
namespace Go.Proofs
open Go.Shelf
def Try.sortWk_ren : Go.Shelf.Ren := ⟨fun | 6 => 20 | 15 => 27 | 14 => 26 | 28 => 38 | 29 => 39 | 20 => 30 | 21 => 31 | 22 => 32 | 23 => 33 | 24 => 34 | 25 => 35 | 26 => 36 | 27 => 37 | 46 => 49 | 47 => 50 | 48 => 51 | 49 => 52 | 50 => 53 | 57 => 58 | n => n, fun | 22 => 40 | 24 => 46 | 25 => 49 | 3 => 3 | 39 => 57 | 0 => 0 | 53 => 69 | 55 => 71 | 4 => 4 | 46 => 62 | 45 => 61 | 50 => 66 | 5 => 5 | 9 => 9 | 66 => 78 | 70 => 82 | 76 => 86 | 77 => 87 | n => n, fun | n => n⟩
theorem Try.sortWk : Go.Proofs.SlLaysF0.n6 Try.prog Try.sortWk_ren := {
  mixed := by kernel_rfl
  f6 := ⟨Try.f20.name, by decide, Try.func20.trans (congrArg some (by kernel_rfl))⟩
  f14 := ⟨Try.f26.name, by decide, Try.func26.trans (congrArg some (by kernel_rfl))⟩
  f15 := Try.func27.trans (congrArg some (by kernel_rfl))
  f20 := ⟨Try.f30.name, by decide, Try.func30.trans (congrArg some (by kernel_rfl))⟩
  f21 := ⟨Try.f31.name, by decide, Try.func31.trans (congrArg some (by kernel_rfl))⟩
  f22 := ⟨Try.f32.name, by decide, Try.func32.trans (congrArg some (by kernel_rfl))⟩
  f23 := ⟨Try.f33.name, by decide, Try.func33.trans (congrArg some (by kernel_rfl))⟩
  f24 := ⟨Try.f34.name, by decide, Try.func34.trans (congrArg some (by kernel_rfl))⟩
  f25 := ⟨Try.f35.name, by decide, Try.func35.trans (congrArg some (by kernel_rfl))⟩
  f26 := ⟨Try.f36.name, by decide, Try.func36.trans (congrArg some (by kernel_rfl))⟩
  f27 := ⟨Try.f37.name, by decide, Try.func37.trans (congrArg some (by kernel_rfl))⟩
  f28 := Try.func38.trans (congrArg some (by kernel_rfl))
  f29 := Try.func39.trans (congrArg some (by kernel_rfl))
  f46 := ⟨Try.f49.name, by decide, Try.func49.trans (congrArg some (by kernel_rfl))⟩
  f47 := Try.func50.trans (congrArg some (by kernel_rfl))
  f48 := Try.func51.trans (congrArg some (by kernel_rfl))
  f49 := ⟨Try.f52.name, by decide, Try.func52.trans (congrArg some (by kernel_rfl))⟩
  f50 := ⟨Try.f53.name, by decide, Try.func53.trans (congrArg some (by kernel_rfl))⟩
  f57 := ⟨Try.f58.name, by decide, Try.func58.trans (congrArg some (by kernel_rfl))⟩
  t0 := Try.underlying0
  a0 := Try.isAgg0
  z0 := Try.sizeOf0
  v0 := Try.zeroValue0
  t3 := Try.underlying3
  a3 := Try.isAgg3
  z3 := Try.sizeOf3
  v3 := Try.zeroValue3
  t4 := Try.underlying4
  a4 := Try.isAgg4
  z4 := Try.sizeOf4
  v4 := Try.zeroValue4
  t5 := Try.underlying5
  a5 := Try.isAgg5
  z5 := Try.sizeOf5
  v5 := Try.zeroValue5
  t9 := Try.underlying9
  a9 := Try.isAgg9
  z9 := Try.sizeOf9
  v9 := Try.zeroValue9
  t22 := Try.underlying40
  a22 := Try.isAgg40
  z22 := Try.sizeOf40
  v22 := Try.zeroValue40
  t25 := Try.underlying49
  a25 := Try.isAgg49
  z25 := Try.sizeOf49
  v25 := Try.zeroValue49
  t39 := Try.underlying57
  a39 := Try.isAgg57
  z39 := Try.sizeOf57
  v39 := Try.zeroValue57
  t45 := Try.underlying61
  a45 := Try.isAgg61
  z45 := Try.sizeOf61
  v45 := Try.zeroValue61
  t46 := Try.underlying62
  a46 := Try.isAgg62
  z46 := Try.sizeOf62
  v46 := Try.zeroValue62
  t50 := Try.underlying66
  a50 := Try.isAgg66
  z50 := Try.sizeOf66
  v50 := Try.zeroValue66
  t53 := Try.underlying69
  a53 := Try.isAgg69
  z53 := Try.sizeOf69
  v53 := Try.zeroValue69
  t55 := Try.underlying71
  a55 := Try.isAgg71
  z55 := Try.sizeOf71
  v55 := Try.zeroValue71
  t66 := Try.underlying78
  a66 := Try.isAgg78
  z66 := Try.sizeOf78
  v66 := Try.zeroValue78
  t70 := Try.underlying82
  a70 := Try.isAgg82
  z70 := Try.sizeOf82
  v70 := Try.zeroValue82
  t76 := Try.underlying86
  a76 := Try.isAgg86
  z76 := Try.sizeOf86
  v76 := Try.zeroValue86
  t77 := Try.underlying87
  a77 := Try.isAgg87
  z77 := Try.sizeOf87
  v77 := Try.zeroValue87 }
end Go.Proofs
