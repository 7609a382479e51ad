/-
  DERIVED: THE SHELF's CONTRACTS AT THIS DUMP, IN PLAIN WORDS (tools/lay-plain.mjs out of 'YthmpjmohakdkmaaShelf.lean', which tools/lay-shelf.mjs wrote): THE SAME DECLARATIONS UNDER THE SAME NAMES: 'import', 'namespace', 'open', 'def', 'theorem' AND NOTHING ELSE: no command of the shelf's: FOR A HAND-IN. Each laying: the table of numbers ('.._ren') and one theorem, a field a fact of the dump's own or the kernel's comparison; each contract: ONE APPLICATION.
-/
import Derived.Test.YthmpjmohakdkmaaProg
import Derived.Shelf.SlSortCmp.NoneTotal
import Derived.Shelf.SlGeneric
import Derived.Ground.SlsfProg
namespace Go.Proofs
open Go.Shelf
def Try.sortL_ren : Go.Shelf.Ren := ⟨fun | 6 => 20 | 15 => 28 | 14 => 27 | 28 => 40 | 29 => 41 | 20 => 32 | 21 => 33 | 22 => 34 | 23 => 35 | 24 => 36 | 25 => 37 | 26 => 38 | 27 => 39 | 46 => 73 | 47 => 74 | 48 => 75 | 49 => 76 | 50 => 77 | 57 => 88 | n => n, fun | 22 => 24 | 24 => 3 | 25 => 40 | 3 => 3 | 39 => 46 | 0 => 0 | 53 => 59 | 55 => 61 | 4 => 4 | 46 => 52 | 45 => 51 | 50 => 56 | 5 => 5 | 9 => 9 | 66 => 82 | 70 => 86 | 76 => 95 | 77 => 96 | n => n, fun | n => n⟩
theorem Try.sortL : Go.Proofs.SlLaysF.n6 Try.prog Try.sortL_ren := {
  mixed := by kernel_rfl
  f6 := ⟨Try.f20.name, by decide, Try.func20.trans (congrArg some (by kernel_rfl))⟩
  f14 := ⟨Try.f27.name, by decide, Try.func27.trans (congrArg some (by kernel_rfl))⟩
  f15 := Try.func28.trans (congrArg some (by kernel_rfl))
  f20 := ⟨Try.f32.name, by decide, Try.func32.trans (congrArg some (by kernel_rfl))⟩
  f21 := ⟨Try.f33.name, by decide, Try.func33.trans (congrArg some (by kernel_rfl))⟩
  f22 := ⟨Try.f34.name, by decide, Try.func34.trans (congrArg some (by kernel_rfl))⟩
  f23 := ⟨Try.f35.name, by decide, Try.func35.trans (congrArg some (by kernel_rfl))⟩
  f24 := ⟨Try.f36.name, by decide, Try.func36.trans (congrArg some (by kernel_rfl))⟩
  f25 := ⟨Try.f37.name, by decide, Try.func37.trans (congrArg some (by kernel_rfl))⟩
  f26 := ⟨Try.f38.name, by decide, Try.func38.trans (congrArg some (by kernel_rfl))⟩
  f27 := ⟨Try.f39.name, by decide, Try.func39.trans (congrArg some (by kernel_rfl))⟩
  f28 := Try.func40.trans (congrArg some (by kernel_rfl))
  f29 := Try.func41.trans (congrArg some (by kernel_rfl))
  f46 := ⟨Try.f73.name, by decide, Try.func73.trans (congrArg some (by kernel_rfl))⟩
  f47 := Try.func74.trans (congrArg some (by kernel_rfl))
  f48 := Try.func75.trans (congrArg some (by kernel_rfl))
  f49 := ⟨Try.f76.name, by decide, Try.func76.trans (congrArg some (by kernel_rfl))⟩
  f50 := ⟨Try.f77.name, by decide, Try.func77.trans (congrArg some (by kernel_rfl))⟩
  f57 := ⟨Try.f88.name, by decide, Try.func88.trans (congrArg some (by kernel_rfl))⟩
  t0 := Try.underlying0
  a0 := Try.isAgg0
  z0 := Try.sizeOf0
  v0 := Try.zeroValue0
  t3 := Try.underlying3
  a3 := Try.isAgg3
  z3 := Try.sizeOf3
  v3 := Try.zeroValue3
  t4 := Try.underlying4
  a4 := Try.isAgg4
  z4 := Try.sizeOf4
  v4 := Try.zeroValue4
  t5 := Try.underlying5
  a5 := Try.isAgg5
  z5 := Try.sizeOf5
  v5 := Try.zeroValue5
  t9 := Try.underlying9
  a9 := Try.isAgg9
  z9 := Try.sizeOf9
  v9 := Try.zeroValue9
  t22 := Try.underlying24
  a22 := Try.isAgg24
  z22 := Try.sizeOf24
  v22 := Try.zeroValue24
  a24 := Try.isAgg3
  z24 := Try.sizeOf3
  t25 := Try.underlying40
  a25 := Try.isAgg40
  z25 := Try.sizeOf40
  v25 := Try.zeroValue40
  t39 := Try.underlying46
  a39 := Try.isAgg46
  z39 := Try.sizeOf46
  v39 := Try.zeroValue46
  t45 := Try.underlying51
  a45 := Try.isAgg51
  z45 := Try.sizeOf51
  v45 := Try.zeroValue51
  t46 := Try.underlying52
  a46 := Try.isAgg52
  z46 := Try.sizeOf52
  v46 := Try.zeroValue52
  t50 := Try.underlying56
  a50 := Try.isAgg56
  z50 := Try.sizeOf56
  v50 := Try.zeroValue56
  t53 := Try.underlying59
  a53 := Try.isAgg59
  z53 := Try.sizeOf59
  v53 := Try.zeroValue59
  t55 := Try.underlying61
  a55 := Try.isAgg61
  z55 := Try.sizeOf61
  v55 := Try.zeroValue61
  t66 := Try.underlying82
  a66 := Try.isAgg82
  z66 := Try.sizeOf82
  v66 := Try.zeroValue82
  t70 := Try.underlying86
  a70 := Try.isAgg86
  z70 := Try.sizeOf86
  v70 := Try.zeroValue86
  t76 := Try.underlying95
  a76 := Try.isAgg95
  z76 := Try.sizeOf95
  v76 := Try.zeroValue95
  t77 := Try.underlying96
  a77 := Try.isAgg96
  z77 := Try.sizeOf96
  v77 := Try.zeroValue96 }
end Go.Proofs
