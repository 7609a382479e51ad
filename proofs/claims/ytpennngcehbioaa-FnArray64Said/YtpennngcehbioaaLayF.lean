/-
  DERIVED: THE SHELF's CONTRACTS AT THIS DUMP, IN PLAIN WORDS (tools/lay-plain.mjs out of 'YtpennngcehbioaaShelf.lean', which tools/lay-shelf.mjs wrote): THE SAME DECLARATIONS UNDER THE SAME NAMES: 'import', 'namespace', 'open', 'def', 'theorem' AND NOTHING ELSE: no command of the shelf's: FOR A HAND-IN. Each laying: the table of numbers ('.._ren') and one theorem, a field a fact of the dump's own or the kernel's comparison; each contract: ONE APPLICATION.
-/
import Derived.Test.YtpennngcehbioaaProg
import Derived.Shelf.SlSortCmp.NoneTotal
import Derived.Shelf.SlGeneric
import Derived.Ground.SlsfProg
namespace Go.Proofs
open Go.Shelf
def Try.sortL_ren : Go.Shelf.Ren := ⟨fun | 6 => 25 | 15 => 31 | 14 => 30 | 28 => 43 | 29 => 44 | 20 => 35 | 21 => 36 | 22 => 37 | 23 => 38 | 24 => 39 | 25 => 40 | 26 => 41 | 27 => 42 | 46 => 67 | 47 => 68 | 48 => 69 | 49 => 70 | 50 => 71 | 57 => 78 | n => n, fun | 22 => 25 | 24 => 3 | 25 => 42 | 3 => 3 | 39 => 47 | 0 => 0 | 53 => 59 | 55 => 61 | 4 => 4 | 46 => 52 | 45 => 51 | 50 => 56 | 5 => 5 | 9 => 9 | 66 => 76 | 70 => 80 | 76 => 86 | 77 => 87 | n => n, fun | n => n⟩
theorem Try.sortL : Go.Proofs.SlLaysF.n6 Try.prog Try.sortL_ren := {
  mixed := by kernel_rfl
  f6 := ⟨Try.f25.name, by decide, Try.func25.trans (congrArg some (by kernel_rfl))⟩
  f14 := ⟨Try.f30.name, by decide, Try.func30.trans (congrArg some (by kernel_rfl))⟩
  f15 := Try.func31.trans (congrArg some (by kernel_rfl))
  f20 := ⟨Try.f35.name, by decide, Try.func35.trans (congrArg some (by kernel_rfl))⟩
  f21 := ⟨Try.f36.name, by decide, Try.func36.trans (congrArg some (by kernel_rfl))⟩
  f22 := ⟨Try.f37.name, by decide, Try.func37.trans (congrArg some (by kernel_rfl))⟩
  f23 := ⟨Try.f38.name, by decide, Try.func38.trans (congrArg some (by kernel_rfl))⟩
  f24 := ⟨Try.f39.name, by decide, Try.func39.trans (congrArg some (by kernel_rfl))⟩
  f25 := ⟨Try.f40.name, by decide, Try.func40.trans (congrArg some (by kernel_rfl))⟩
  f26 := ⟨Try.f41.name, by decide, Try.func41.trans (congrArg some (by kernel_rfl))⟩
  f27 := ⟨Try.f42.name, by decide, Try.func42.trans (congrArg some (by kernel_rfl))⟩
  f28 := Try.func43.trans (congrArg some (by kernel_rfl))
  f29 := Try.func44.trans (congrArg some (by kernel_rfl))
  f46 := ⟨Try.f67.name, by decide, Try.func67.trans (congrArg some (by kernel_rfl))⟩
  f47 := Try.func68.trans (congrArg some (by kernel_rfl))
  f48 := Try.func69.trans (congrArg some (by kernel_rfl))
  f49 := ⟨Try.f70.name, by decide, Try.func70.trans (congrArg some (by kernel_rfl))⟩
  f50 := ⟨Try.f71.name, by decide, Try.func71.trans (congrArg some (by kernel_rfl))⟩
  f57 := ⟨Try.f78.name, by decide, Try.func78.trans (congrArg some (by kernel_rfl))⟩
  t0 := Try.underlying0
  a0 := Try.isAgg0
  z0 := Try.sizeOf0
  v0 := Try.zeroValue0
  t3 := Try.underlying3
  a3 := Try.isAgg3
  z3 := Try.sizeOf3
  v3 := Try.zeroValue3
  t4 := Try.underlying4
  a4 := Try.isAgg4
  z4 := Try.sizeOf4
  v4 := Try.zeroValue4
  t5 := Try.underlying5
  a5 := Try.isAgg5
  z5 := Try.sizeOf5
  v5 := Try.zeroValue5
  t9 := Try.underlying9
  a9 := Try.isAgg9
  z9 := Try.sizeOf9
  v9 := Try.zeroValue9
  t22 := Try.underlying25
  a22 := Try.isAgg25
  z22 := Try.sizeOf25
  v22 := Try.zeroValue25
  a24 := Try.isAgg3
  z24 := Try.sizeOf3
  t25 := Try.underlying42
  a25 := Try.isAgg42
  z25 := Try.sizeOf42
  v25 := Try.zeroValue42
  t39 := Try.underlying47
  a39 := Try.isAgg47
  z39 := Try.sizeOf47
  v39 := Try.zeroValue47
  t45 := Try.underlying51
  a45 := Try.isAgg51
  z45 := Try.sizeOf51
  v45 := Try.zeroValue51
  t46 := Try.underlying52
  a46 := Try.isAgg52
  z46 := Try.sizeOf52
  v46 := Try.zeroValue52
  t50 := Try.underlying56
  a50 := Try.isAgg56
  z50 := Try.sizeOf56
  v50 := Try.zeroValue56
  t53 := Try.underlying59
  a53 := Try.isAgg59
  z53 := Try.sizeOf59
  v53 := Try.zeroValue59
  t55 := Try.underlying61
  a55 := Try.isAgg61
  z55 := Try.sizeOf61
  v55 := Try.zeroValue61
  t66 := Try.underlying76
  a66 := Try.isAgg76
  z66 := Try.sizeOf76
  v66 := Try.zeroValue76
  t70 := Try.underlying80
  a70 := Try.isAgg80
  z70 := Try.sizeOf80
  v70 := Try.zeroValue80
  t76 := Try.underlying86
  a76 := Try.isAgg86
  z76 := Try.sizeOf86
  v76 := Try.zeroValue86
  t77 := Try.underlying87
  a77 := Try.isAgg87
  z77 := Try.sizeOf87
  v77 := Try.zeroValue87 }
end Go.Proofs
