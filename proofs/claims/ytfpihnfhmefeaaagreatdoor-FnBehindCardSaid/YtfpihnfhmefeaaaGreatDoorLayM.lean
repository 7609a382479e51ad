/-
  DERIVED: THE SHELF's CONTRACTS AT THIS DUMP, IN PLAIN WORDS (tools/lay-plain.mjs out of 'YtfpihnfhmefeaaaGreatDoorShelf.lean', which tools/lay-shelf.mjs wrote): THE SAME DECLARATIONS UNDER THE SAME NAMES: 'import', 'namespace', 'open', 'def', 'theorem' AND NOTHING ELSE: no command of the shelf's: FOR A HAND-IN. Each laying: the table of numbers ('.._ren') and one theorem, a field a fact of the dump's own or the kernel's comparison; each contract: ONE APPLICATION.
-/
import Derived.Test.YtfpihnfhmefeaaaGreatDoorProg
import Derived.Shelf.SortM.Plain
import Derived.Shelf.SortM.SortNone
import Derived.Ground.SlgmProg
import Derived.Shelf.SlGeneric
namespace Go.Proofs
open Go.Shelf
def Tryz.srtL_ren : Go.Shelf.Ren := ⟨fun | 5 => 26 | 8 => 39 | 7 => 38 | 19 => 64 | 20 => 65 | 10 => 55 | 11 => 56 | 12 => 57 | 13 => 58 | 14 => 59 | 15 => 60 | 16 => 61 | 17 => 62 | 18 => 63 | 30 => 89 | 31 => 90 | 32 => 91 | 33 => 92 | 34 => 93 | 35 => 94 | 40 => 101 | n => n, fun | 23 => 27 | 25 => 3 | 3 => 3 | 32 => 85 | 22 => 27 | 0 => 0 | 44 => 112 | 46 => 79 | 4 => 4 | 36 => 104 | 35 => 103 | 41 => 109 | 5 => 5 | 9 => 9 | 53 => 128 | 57 => 132 | 63 => 138 | 64 => 139 | n => n, fun | n => n⟩
theorem Tryz.srtL : Go.Proofs.SlLaysM.n5 Tryz.prog Tryz.srtL_ren := {
  mixed := by kernel_rfl
  f5 := ⟨Tryz.f26.name, by decide, Tryz.func26.trans (congrArg some (by kernel_rfl))⟩
  f7 := ⟨Tryz.f38.name, by decide, Tryz.func38.trans (congrArg some (by kernel_rfl))⟩
  f8 := Tryz.func39.trans (congrArg some (by kernel_rfl))
  f10 := ⟨Tryz.f55.name, by decide, Tryz.func55.trans (congrArg some (by kernel_rfl))⟩
  f11 := ⟨Tryz.f56.name, by decide, Tryz.func56.trans (congrArg some (by kernel_rfl))⟩
  f12 := ⟨Tryz.f57.name, by decide, Tryz.func57.trans (congrArg some (by kernel_rfl))⟩
  f13 := ⟨Tryz.f58.name, by decide, Tryz.func58.trans (congrArg some (by kernel_rfl))⟩
  f14 := ⟨Tryz.f59.name, by decide, Tryz.func59.trans (congrArg some (by kernel_rfl))⟩
  f15 := ⟨Tryz.f60.name, by decide, Tryz.func60.trans (congrArg some (by kernel_rfl))⟩
  f16 := ⟨Tryz.f61.name, by decide, Tryz.func61.trans (congrArg some (by kernel_rfl))⟩
  f17 := ⟨Tryz.f62.name, by decide, Tryz.func62.trans (congrArg some (by kernel_rfl))⟩
  f18 := ⟨Tryz.f63.name, by decide, Tryz.func63.trans (congrArg some (by kernel_rfl))⟩
  f19 := Tryz.func64.trans (congrArg some (by kernel_rfl))
  f20 := Tryz.func65.trans (congrArg some (by kernel_rfl))
  f30 := ⟨Tryz.f89.name, by decide, Tryz.func89.trans (congrArg some (by kernel_rfl))⟩
  f31 := Tryz.func90.trans (congrArg some (by kernel_rfl))
  f32 := Tryz.func91.trans (congrArg some (by kernel_rfl))
  f33 := ⟨Tryz.f92.name, by decide, Tryz.func92.trans (congrArg some (by kernel_rfl))⟩
  f34 := ⟨Tryz.f93.name, by decide, Tryz.func93.trans (congrArg some (by kernel_rfl))⟩
  f35 := ⟨Tryz.f94.name, by decide, Tryz.func94.trans (congrArg some (by kernel_rfl))⟩
  f40 := ⟨Tryz.f101.name, by decide, Tryz.func101.trans (congrArg some (by kernel_rfl))⟩
  t0 := Tryz.underlying0
  a0 := Tryz.isAgg0
  z0 := Tryz.sizeOf0
  v0 := Tryz.zeroValue0
  t3 := Tryz.underlying3
  a3 := Tryz.isAgg3
  z3 := Tryz.sizeOf3
  v3 := Tryz.zeroValue3
  t4 := Tryz.underlying4
  a4 := Tryz.isAgg4
  z4 := Tryz.sizeOf4
  v4 := Tryz.zeroValue4
  t5 := Tryz.underlying5
  a5 := Tryz.isAgg5
  z5 := Tryz.sizeOf5
  v5 := Tryz.zeroValue5
  t9 := Tryz.underlying9
  a9 := Tryz.isAgg9
  z9 := Tryz.sizeOf9
  v9 := Tryz.zeroValue9
  t22 := Tryz.underlying27
  a22 := Tryz.isAgg27
  z22 := Tryz.sizeOf27
  v22 := Tryz.zeroValue27
  t23 := Tryz.underlying27
  a23 := Tryz.isAgg27
  z23 := Tryz.sizeOf27
  v23 := Tryz.zeroValue27
  t25 := Tryz.underlying3
  a25 := Tryz.isAgg3
  z25 := Tryz.sizeOf3
  v25 := Tryz.zeroValue3
  t32 := Tryz.underlying85
  a32 := Tryz.isAgg85
  z32 := Tryz.sizeOf85
  v32 := Tryz.zeroValue85
  t35 := Tryz.underlying103
  a35 := Tryz.isAgg103
  z35 := Tryz.sizeOf103
  v35 := Tryz.zeroValue103
  t36 := Tryz.underlying104
  a36 := Tryz.isAgg104
  z36 := Tryz.sizeOf104
  v36 := Tryz.zeroValue104
  t41 := Tryz.underlying109
  a41 := Tryz.isAgg109
  z41 := Tryz.sizeOf109
  v41 := Tryz.zeroValue109
  t44 := Tryz.underlying112
  a44 := Tryz.isAgg112
  z44 := Tryz.sizeOf112
  v44 := Tryz.zeroValue112
  t46 := Tryz.underlying79
  a46 := Tryz.isAgg79
  z46 := Tryz.sizeOf79
  v46 := Tryz.zeroValue79
  t53 := Tryz.underlying128
  a53 := Tryz.isAgg128
  z53 := Tryz.sizeOf128
  v53 := Tryz.zeroValue128
  t57 := Tryz.underlying132
  a57 := Tryz.isAgg132
  z57 := Tryz.sizeOf132
  v57 := Tryz.zeroValue132
  t63 := Tryz.underlying138
  a63 := Tryz.isAgg138
  z63 := Tryz.sizeOf138
  v63 := Tryz.zeroValue138
  t64 := Tryz.underlying139
  a64 := Tryz.isAgg139
  z64 := Tryz.sizeOf139
  v64 := Tryz.zeroValue139 }
end Go.Proofs
