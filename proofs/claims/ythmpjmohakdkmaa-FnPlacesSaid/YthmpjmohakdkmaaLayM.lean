/-
  DERIVED: THE SHELF's CONTRACTS AT THIS DUMP, IN PLAIN WORDS (tools/lay-plain.mjs out of 'YthmpjmohakdkmaaShelf.lean', which tools/lay-shelf.mjs wrote): THE SAME DECLARATIONS UNDER THE SAME NAMES: 'import', 'namespace', 'open', 'def', 'theorem' AND NOTHING ELSE: no command of the shelf's: FOR A HAND-IN. Each laying: the table of numbers ('.._ren') and one theorem, a field a fact of the dump's own or the kernel's comparison; each contract: ONE APPLICATION.
-/
import Derived.Test.YthmpjmohakdkmaaProg
import Derived.Shelf.SortM.Plain
import Derived.Shelf.SortM.SortNone
import Derived.Ground.SlgmProg
import Derived.Shelf.SlGeneric
namespace Go.Proofs
open Go.Shelf
def Try.srtL_ren : Go.Shelf.Ren := ⟨fun | 5 => 23 | 8 => 28 | 7 => 29 | 19 => 40 | 20 => 41 | 10 => 42 | 11 => 43 | 12 => 44 | 13 => 45 | 14 => 46 | 15 => 47 | 16 => 48 | 17 => 49 | 18 => 50 | 30 => 78 | 31 => 74 | 32 => 75 | 33 => 79 | 34 => 80 | 35 => 81 | 40 => 89 | n => n, fun | 23 => 24 | 25 => 3 | 3 => 3 | 32 => 46 | 22 => 24 | 0 => 0 | 44 => 59 | 46 => 61 | 4 => 4 | 36 => 52 | 35 => 51 | 41 => 56 | 5 => 5 | 9 => 9 | 53 => 82 | 57 => 86 | 63 => 95 | 64 => 96 | n => n, fun | n => n⟩
theorem Try.srtL : Go.Proofs.SlLaysM.n5 Try.prog Try.srtL_ren := {
  mixed := by kernel_rfl
  f5 := ⟨Try.f23.name, by decide, Try.func23.trans (congrArg some (by kernel_rfl))⟩
  f7 := ⟨Try.f29.name, by decide, Try.func29.trans (congrArg some (by kernel_rfl))⟩
  f8 := Try.func28.trans (congrArg some (by kernel_rfl))
  f10 := ⟨Try.f42.name, by decide, Try.func42.trans (congrArg some (by kernel_rfl))⟩
  f11 := ⟨Try.f43.name, by decide, Try.func43.trans (congrArg some (by kernel_rfl))⟩
  f12 := ⟨Try.f44.name, by decide, Try.func44.trans (congrArg some (by kernel_rfl))⟩
  f13 := ⟨Try.f45.name, by decide, Try.func45.trans (congrArg some (by kernel_rfl))⟩
  f14 := ⟨Try.f46.name, by decide, Try.func46.trans (congrArg some (by kernel_rfl))⟩
  f15 := ⟨Try.f47.name, by decide, Try.func47.trans (congrArg some (by kernel_rfl))⟩
  f16 := ⟨Try.f48.name, by decide, Try.func48.trans (congrArg some (by kernel_rfl))⟩
  f17 := ⟨Try.f49.name, by decide, Try.func49.trans (congrArg some (by kernel_rfl))⟩
  f18 := ⟨Try.f50.name, by decide, Try.func50.trans (congrArg some (by kernel_rfl))⟩
  f19 := Try.func40.trans (congrArg some (by kernel_rfl))
  f20 := Try.func41.trans (congrArg some (by kernel_rfl))
  f30 := ⟨Try.f78.name, by decide, Try.func78.trans (congrArg some (by kernel_rfl))⟩
  f31 := Try.func74.trans (congrArg some (by kernel_rfl))
  f32 := Try.func75.trans (congrArg some (by kernel_rfl))
  f33 := ⟨Try.f79.name, by decide, Try.func79.trans (congrArg some (by kernel_rfl))⟩
  f34 := ⟨Try.f80.name, by decide, Try.func80.trans (congrArg some (by kernel_rfl))⟩
  f35 := ⟨Try.f81.name, by decide, Try.func81.trans (congrArg some (by kernel_rfl))⟩
  f40 := ⟨Try.f89.name, by decide, Try.func89.trans (congrArg some (by kernel_rfl))⟩
  t0 := Try.underlying0
  a0 := Try.isAgg0
  z0 := Try.sizeOf0
  v0 := Try.zeroValue0
  t3 := Try.underlying3
  a3 := Try.isAgg3
  z3 := Try.sizeOf3
  v3 := Try.zeroValue3
  t4 := Try.underlying4
  a4 := Try.isAgg4
  z4 := Try.sizeOf4
  v4 := Try.zeroValue4
  t5 := Try.underlying5
  a5 := Try.isAgg5
  z5 := Try.sizeOf5
  v5 := Try.zeroValue5
  t9 := Try.underlying9
  a9 := Try.isAgg9
  z9 := Try.sizeOf9
  v9 := Try.zeroValue9
  t22 := Try.underlying24
  a22 := Try.isAgg24
  z22 := Try.sizeOf24
  v22 := Try.zeroValue24
  t23 := Try.underlying24
  a23 := Try.isAgg24
  z23 := Try.sizeOf24
  v23 := Try.zeroValue24
  t25 := Try.underlying3
  a25 := Try.isAgg3
  z25 := Try.sizeOf3
  v25 := Try.zeroValue3
  t32 := Try.underlying46
  a32 := Try.isAgg46
  z32 := Try.sizeOf46
  v32 := Try.zeroValue46
  t35 := Try.underlying51
  a35 := Try.isAgg51
  z35 := Try.sizeOf51
  v35 := Try.zeroValue51
  t36 := Try.underlying52
  a36 := Try.isAgg52
  z36 := Try.sizeOf52
  v36 := Try.zeroValue52
  t41 := Try.underlying56
  a41 := Try.isAgg56
  z41 := Try.sizeOf56
  v41 := Try.zeroValue56
  t44 := Try.underlying59
  a44 := Try.isAgg59
  z44 := Try.sizeOf59
  v44 := Try.zeroValue59
  t46 := Try.underlying61
  a46 := Try.isAgg61
  z46 := Try.sizeOf61
  v46 := Try.zeroValue61
  t53 := Try.underlying82
  a53 := Try.isAgg82
  z53 := Try.sizeOf82
  v53 := Try.zeroValue82
  t57 := Try.underlying86
  a57 := Try.isAgg86
  z57 := Try.sizeOf86
  v57 := Try.zeroValue86
  t63 := Try.underlying95
  a63 := Try.isAgg95
  z63 := Try.sizeOf95
  v63 := Try.zeroValue95
  t64 := Try.underlying96
  a64 := Try.isAgg96
  z64 := Try.sizeOf96
  v64 := Try.zeroValue96 }
end Go.Proofs
