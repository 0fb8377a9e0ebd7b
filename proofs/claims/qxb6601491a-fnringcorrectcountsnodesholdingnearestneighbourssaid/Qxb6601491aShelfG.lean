/-
  DERIVED: THE SHELF's CONTRACTS AT THIS DUMP, IN PLAIN WORDS (tools/lay-plain.mjs out of 'TryShelfG.lean', which tools/lay-shelf.mjs wrote): THE SAME DECLARATIONS UNDER THE SAME NAMES: 'import', 'namespace', 'open', 'def', 'theorem' AND NOTHING ELSE: no command of the shelf's: FOR A HAND-IN. Each laying: the table of numbers ('.._ren') and one theorem, a field a fact of the dump's own or the kernel's comparison; each contract: ONE APPLICATION.
-/
import Derived.Shelf.SlSortCmp.NoneTotal
import Derived.Ground.SlsfProg
import Derived.Test.Qxb6601491aProg
namespace Go.Proofs
open Go.Shelf
def Try.sortF_ren : Go.Shelf.Ren := ⟨fun | 6 => 48 | 15 => 55 | 14 => 56 | 28 => 69 | 29 => 70 | 20 => 71 | 21 => 72 | 22 => 73 | 23 => 74 | 24 => 75 | 25 => 76 | 26 => 77 | 27 => 78 | 46 => 96 | 47 => 91 | 48 => 92 | 49 => 97 | 50 => 98 | 57 => 104 | n => n, fun | 22 => 41 | 24 => 3 | 25 => 84 | 3 => 3 | 39 => 90 | 0 => 0 | 53 => 104 | 55 => 106 | 4 => 4 | 46 => 98 | 45 => 97 | 50 => 39 | 5 => 5 | 9 => 9 | 66 => 118 | 70 => 122 | 76 => 128 | 77 => 129 | n => n, fun | n => n⟩
theorem Try.sortF : Go.Proofs.SlLaysF.n6 Try.prog Try.sortF_ren := {
  mixed := by kernel_rfl
  f6 := ⟨Try.f48.name, by decide, Try.func48.trans (congrArg some (by kernel_rfl))⟩
  f14 := ⟨Try.f56.name, by decide, Try.func56.trans (congrArg some (by kernel_rfl))⟩
  f15 := Try.func55.trans (congrArg some (by kernel_rfl))
  f20 := ⟨Try.f71.name, by decide, Try.func71.trans (congrArg some (by kernel_rfl))⟩
  f21 := ⟨Try.f72.name, by decide, Try.func72.trans (congrArg some (by kernel_rfl))⟩
  f22 := ⟨Try.f73.name, by decide, Try.func73.trans (congrArg some (by kernel_rfl))⟩
  f23 := ⟨Try.f74.name, by decide, Try.func74.trans (congrArg some (by kernel_rfl))⟩
  f24 := ⟨Try.f75.name, by decide, Try.func75.trans (congrArg some (by kernel_rfl))⟩
  f25 := ⟨Try.f76.name, by decide, Try.func76.trans (congrArg some (by kernel_rfl))⟩
  f26 := ⟨Try.f77.name, by decide, Try.func77.trans (congrArg some (by kernel_rfl))⟩
  f27 := ⟨Try.f78.name, by decide, Try.func78.trans (congrArg some (by kernel_rfl))⟩
  f28 := Try.func69.trans (congrArg some (by kernel_rfl))
  f29 := Try.func70.trans (congrArg some (by kernel_rfl))
  f46 := ⟨Try.f96.name, by decide, Try.func96.trans (congrArg some (by kernel_rfl))⟩
  f47 := Try.func91.trans (congrArg some (by kernel_rfl))
  f48 := Try.func92.trans (congrArg some (by kernel_rfl))
  f49 := ⟨Try.f97.name, by decide, Try.func97.trans (congrArg some (by kernel_rfl))⟩
  f50 := ⟨Try.f98.name, by decide, Try.func98.trans (congrArg some (by kernel_rfl))⟩
  f57 := ⟨Try.f104.name, by decide, Try.func104.trans (congrArg some (by kernel_rfl))⟩
  t0 := Try.underlying0
  a0 := Try.isAgg0
  z0 := Try.sizeOf0
  v0 := Try.zeroValue0
  t3 := Try.underlying3
  a3 := Try.isAgg3
  z3 := Try.sizeOf3
  v3 := Try.zeroValue3
  t4 := Try.underlying4
  a4 := Try.isAgg4
  z4 := Try.sizeOf4
  v4 := Try.zeroValue4
  t5 := Try.underlying5
  a5 := Try.isAgg5
  z5 := Try.sizeOf5
  v5 := Try.zeroValue5
  t9 := Try.underlying9
  a9 := Try.isAgg9
  z9 := Try.sizeOf9
  v9 := Try.zeroValue9
  t22 := Try.underlying41
  a22 := Try.isAgg41
  z22 := Try.sizeOf41
  v22 := Try.zeroValue41
  a24 := Try.isAgg3
  z24 := Try.sizeOf3
  t25 := Try.underlying84
  a25 := Try.isAgg84
  z25 := Try.sizeOf84
  v25 := Try.zeroValue84
  t39 := Try.underlying90
  a39 := Try.isAgg90
  z39 := Try.sizeOf90
  v39 := Try.zeroValue90
  t45 := Try.underlying97
  a45 := Try.isAgg97
  z45 := Try.sizeOf97
  v45 := Try.zeroValue97
  t46 := Try.underlying98
  a46 := Try.isAgg98
  z46 := Try.sizeOf98
  v46 := Try.zeroValue98
  t50 := Try.underlying39
  a50 := Try.isAgg39
  z50 := Try.sizeOf39
  v50 := Try.zeroValue39
  t53 := Try.underlying104
  a53 := Try.isAgg104
  z53 := Try.sizeOf104
  v53 := Try.zeroValue104
  t55 := Try.underlying106
  a55 := Try.isAgg106
  z55 := Try.sizeOf106
  v55 := Try.zeroValue106
  t66 := Try.underlying118
  a66 := Try.isAgg118
  z66 := Try.sizeOf118
  v66 := Try.zeroValue118
  t70 := Try.underlying122
  a70 := Try.isAgg122
  z70 := Try.sizeOf122
  v70 := Try.zeroValue122
  t76 := Try.underlying128
  a76 := Try.isAgg128
  z76 := Try.sizeOf128
  v76 := Try.zeroValue128
  t77 := Try.underlying129
  a77 := Try.isAgg129
  z77 := Try.sizeOf129
  v77 := Try.zeroValue129 }
end Go.Proofs
