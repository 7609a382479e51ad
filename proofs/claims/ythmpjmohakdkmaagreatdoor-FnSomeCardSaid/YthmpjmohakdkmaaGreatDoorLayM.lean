/-
  DERIVED: THE SHELF's CONTRACTS AT THIS DUMP, IN PLAIN WORDS (tools/lay-plain.mjs out of 'YthmpjmohakdkmaaGreatDoorShelf.lean', which tools/lay-shelf.mjs wrote): THE SAME DECLARATIONS UNDER THE SAME NAMES: 'import', 'namespace', 'open', 'def', 'theorem' AND NOTHING ELSE: no command of the shelf's: FOR A HAND-IN. Each laying: the table of numbers ('.._ren') and one theorem, a field a fact of the dump's own or the kernel's comparison; each contract: ONE APPLICATION.
-/
import Derived.Test.YthmpjmohakdkmaaGreatDoorProg
import Derived.Shelf.SortM.Plain
import Derived.Shelf.SortM.SortNone
import Derived.Ground.SlgmProg
import Derived.Shelf.SlGeneric
namespace Go.Proofs
open Go.Shelf
def Tryz.srtL_ren : Go.Shelf.Ren := ⟨fun | 5 => 13 | 8 => 21 | 7 => 20 | 19 => 35 | 20 => 36 | 10 => 26 | 11 => 27 | 12 => 28 | 13 => 29 | 14 => 30 | 15 => 31 | 16 => 32 | 17 => 33 | 18 => 34 | 30 => 46 | 31 => 47 | 32 => 48 | 33 => 49 | 34 => 50 | 35 => 51 | 40 => 76 | n => n, fun | 23 => 26 | 25 => 3 | 3 => 3 | 32 => 42 | 22 => 26 | 0 => 0 | 44 => 63 | 46 => 65 | 4 => 4 | 36 => 55 | 35 => 54 | 41 => 60 | 5 => 5 | 9 => 9 | 53 => 74 | 57 => 78 | 63 => 95 | 64 => 96 | n => n, fun | n => n⟩
theorem Tryz.srtL : Go.Proofs.SlLaysM.n5 Tryz.prog Tryz.srtL_ren := {
  mixed := by kernel_rfl
  f5 := ⟨Tryz.f13.name, by decide, Tryz.func13.trans (congrArg some (by kernel_rfl))⟩
  f7 := ⟨Tryz.f20.name, by decide, Tryz.func20.trans (congrArg some (by kernel_rfl))⟩
  f8 := Tryz.func21.trans (congrArg some (by kernel_rfl))
  f10 := ⟨Tryz.f26.name, by decide, Tryz.func26.trans (congrArg some (by kernel_rfl))⟩
  f11 := ⟨Tryz.f27.name, by decide, Tryz.func27.trans (congrArg some (by kernel_rfl))⟩
  f12 := ⟨Tryz.f28.name, by decide, Tryz.func28.trans (congrArg some (by kernel_rfl))⟩
  f13 := ⟨Tryz.f29.name, by decide, Tryz.func29.trans (congrArg some (by kernel_rfl))⟩
  f14 := ⟨Tryz.f30.name, by decide, Tryz.func30.trans (congrArg some (by kernel_rfl))⟩
  f15 := ⟨Tryz.f31.name, by decide, Tryz.func31.trans (congrArg some (by kernel_rfl))⟩
  f16 := ⟨Tryz.f32.name, by decide, Tryz.func32.trans (congrArg some (by kernel_rfl))⟩
  f17 := ⟨Tryz.f33.name, by decide, Tryz.func33.trans (congrArg some (by kernel_rfl))⟩
  f18 := ⟨Tryz.f34.name, by decide, Tryz.func34.trans (congrArg some (by kernel_rfl))⟩
  f19 := Tryz.func35.trans (congrArg some (by kernel_rfl))
  f20 := Tryz.func36.trans (congrArg some (by kernel_rfl))
  f30 := ⟨Tryz.f46.name, by decide, Tryz.func46.trans (congrArg some (by kernel_rfl))⟩
  f31 := Tryz.func47.trans (congrArg some (by kernel_rfl))
  f32 := Tryz.func48.trans (congrArg some (by kernel_rfl))
  f33 := ⟨Tryz.f49.name, by decide, Tryz.func49.trans (congrArg some (by kernel_rfl))⟩
  f34 := ⟨Tryz.f50.name, by decide, Tryz.func50.trans (congrArg some (by kernel_rfl))⟩
  f35 := ⟨Tryz.f51.name, by decide, Tryz.func51.trans (congrArg some (by kernel_rfl))⟩
  f40 := ⟨Tryz.f76.name, by decide, Tryz.func76.trans (congrArg some (by kernel_rfl))⟩
  t0 := Tryz.underlying0
  a0 := Tryz.isAgg0
  z0 := Tryz.sizeOf0
  v0 := Tryz.zeroValue0
  t3 := Tryz.underlying3
  a3 := Tryz.isAgg3
  z3 := Tryz.sizeOf3
  v3 := Tryz.zeroValue3
  t4 := Tryz.underlying4
  a4 := Tryz.isAgg4
  z4 := Tryz.sizeOf4
  v4 := Tryz.zeroValue4
  t5 := Tryz.underlying5
  a5 := Tryz.isAgg5
  z5 := Tryz.sizeOf5
  v5 := Tryz.zeroValue5
  t9 := Tryz.underlying9
  a9 := Tryz.isAgg9
  z9 := Tryz.sizeOf9
  v9 := Tryz.zeroValue9
  t22 := Tryz.underlying26
  a22 := Tryz.isAgg26
  z22 := Tryz.sizeOf26
  v22 := Tryz.zeroValue26
  t23 := Tryz.underlying26
  a23 := Tryz.isAgg26
  z23 := Tryz.sizeOf26
  v23 := Tryz.zeroValue26
  t25 := Tryz.underlying3
  a25 := Tryz.isAgg3
  z25 := Tryz.sizeOf3
  v25 := Tryz.zeroValue3
  t32 := Tryz.underlying42
  a32 := Tryz.isAgg42
  z32 := Tryz.sizeOf42
  v32 := Tryz.zeroValue42
  t35 := Tryz.underlying54
  a35 := Tryz.isAgg54
  z35 := Tryz.sizeOf54
  v35 := Tryz.zeroValue54
  t36 := Tryz.underlying55
  a36 := Tryz.isAgg55
  z36 := Tryz.sizeOf55
  v36 := Tryz.zeroValue55
  t41 := Tryz.underlying60
  a41 := Tryz.isAgg60
  z41 := Tryz.sizeOf60
  v41 := Tryz.zeroValue60
  t44 := Tryz.underlying63
  a44 := Tryz.isAgg63
  z44 := Tryz.sizeOf63
  v44 := Tryz.zeroValue63
  t46 := Tryz.underlying65
  a46 := Tryz.isAgg65
  z46 := Tryz.sizeOf65
  v46 := Tryz.zeroValue65
  t53 := Tryz.underlying74
  a53 := Tryz.isAgg74
  z53 := Tryz.sizeOf74
  v53 := Tryz.zeroValue74
  t57 := Tryz.underlying78
  a57 := Tryz.isAgg78
  z57 := Tryz.sizeOf78
  v57 := Tryz.zeroValue78
  t63 := Tryz.underlying95
  a63 := Tryz.isAgg95
  z63 := Tryz.sizeOf95
  v63 := Tryz.zeroValue95
  t64 := Tryz.underlying96
  a64 := Tryz.isAgg96
  z64 := Tryz.sizeOf96
  v64 := Tryz.zeroValue96 }
end Go.Proofs
