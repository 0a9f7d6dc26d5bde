/-
  DERIVED: THE SHELF's CONTRACTS AT THIS DUMP, IN PLAIN WORDS (tools/lay-plain.mjs out of 'YbulkcfpsShelf.lean', which tools/lay-shelf.mjs wrote): THE SAME DECLARATIONS UNDER THE SAME NAMES: 'import', 'namespace', 'open', 'def', 'theorem' AND NOTHING ELSE: no command of the shelf's: FOR A HAND-IN. Each laying: the table of numbers ('.._ren') and one theorem, a field a fact of the dump's own or the kernel's comparison; each contract: ONE APPLICATION.
-/
import Derived.Ground.SlgmProg
import Derived.Ground.SlsoProg
import Derived.Ground.SlgnProg
import Derived.Shelf.SlicesG.Clone
import Derived.Shelf.SortM.Plain
import Derived.Shelf.SlSorted.Search
import Derived.Test.YbulkcfpsProg
namespace Go.Proofs
open Go.Shelf
def Yba.laysSort_ren : Go.Shelf.Ren := ⟨fun | 5 => 11 | 8 => 14 | 7 => 13 | 19 => 25 | 20 => 26 | 10 => 16 | 11 => 17 | 12 => 18 | 13 => 19 | 14 => 20 | 15 => 21 | 16 => 22 | 17 => 23 | 18 => 24 | 30 => 29 | 31 => 30 | 32 => 31 | 33 => 32 | 34 => 33 | 35 => 34 | 40 => 35 | n => n, fun | 23 => 41 | 25 => 2 | 3 => 3 | 32 => 52 | 22 => 41 | 0 => 0 | 44 => 64 | 46 => 66 | 4 => 4 | 36 => 56 | 35 => 55 | 41 => 61 | 5 => 5 | 9 => 9 | 53 => 69 | 57 => 73 | 63 => 76 | 64 => 77 | n => n, fun | n => n⟩
theorem Yba.laysSort : Go.Proofs.SlLaysM.n5 Yba.prog Yba.laysSort_ren := {
  mixed := by kernel_rfl
  f5 := ⟨Yba.f11.name, by decide, Yba.func11.trans (congrArg some (by kernel_rfl))⟩
  f7 := ⟨Yba.f13.name, by decide, Yba.func13.trans (congrArg some (by kernel_rfl))⟩
  f8 := Yba.func14.trans (congrArg some (by kernel_rfl))
  f10 := ⟨Yba.f16.name, by decide, Yba.func16.trans (congrArg some (by kernel_rfl))⟩
  f11 := ⟨Yba.f17.name, by decide, Yba.func17.trans (congrArg some (by kernel_rfl))⟩
  f12 := ⟨Yba.f18.name, by decide, Yba.func18.trans (congrArg some (by kernel_rfl))⟩
  f13 := ⟨Yba.f19.name, by decide, Yba.func19.trans (congrArg some (by kernel_rfl))⟩
  f14 := ⟨Yba.f20.name, by decide, Yba.func20.trans (congrArg some (by kernel_rfl))⟩
  f15 := ⟨Yba.f21.name, by decide, Yba.func21.trans (congrArg some (by kernel_rfl))⟩
  f16 := ⟨Yba.f22.name, by decide, Yba.func22.trans (congrArg some (by kernel_rfl))⟩
  f17 := ⟨Yba.f23.name, by decide, Yba.func23.trans (congrArg some (by kernel_rfl))⟩
  f18 := ⟨Yba.f24.name, by decide, Yba.func24.trans (congrArg some (by kernel_rfl))⟩
  f19 := Yba.func25.trans (congrArg some (by kernel_rfl))
  f20 := Yba.func26.trans (congrArg some (by kernel_rfl))
  f30 := ⟨Yba.f29.name, by decide, Yba.func29.trans (congrArg some (by kernel_rfl))⟩
  f31 := Yba.func30.trans (congrArg some (by kernel_rfl))
  f32 := Yba.func31.trans (congrArg some (by kernel_rfl))
  f33 := ⟨Yba.f32.name, by decide, Yba.func32.trans (congrArg some (by kernel_rfl))⟩
  f34 := ⟨Yba.f33.name, by decide, Yba.func33.trans (congrArg some (by kernel_rfl))⟩
  f35 := ⟨Yba.f34.name, by decide, Yba.func34.trans (congrArg some (by kernel_rfl))⟩
  f40 := ⟨Yba.f35.name, by decide, Yba.func35.trans (congrArg some (by kernel_rfl))⟩
  t0 := Yba.underlying0
  a0 := Yba.isAgg0
  z0 := Yba.sizeOf0
  v0 := Yba.zeroValue0
  t3 := Yba.underlying3
  a3 := Yba.isAgg3
  z3 := Yba.sizeOf3
  v3 := Yba.zeroValue3
  t4 := Yba.underlying4
  a4 := Yba.isAgg4
  z4 := Yba.sizeOf4
  v4 := Yba.zeroValue4
  t5 := Yba.underlying5
  a5 := Yba.isAgg5
  z5 := Yba.sizeOf5
  v5 := Yba.zeroValue5
  t9 := Yba.underlying9
  a9 := Yba.isAgg9
  z9 := Yba.sizeOf9
  v9 := Yba.zeroValue9
  t22 := Yba.underlying41
  a22 := Yba.isAgg41
  z22 := Yba.sizeOf41
  v22 := Yba.zeroValue41
  t23 := Yba.underlying41
  a23 := Yba.isAgg41
  z23 := Yba.sizeOf41
  v23 := Yba.zeroValue41
  t25 := Yba.underlying2
  a25 := Yba.isAgg2
  z25 := Yba.sizeOf2
  v25 := Yba.zeroValue2
  t32 := Yba.underlying52
  a32 := Yba.isAgg52
  z32 := Yba.sizeOf52
  v32 := Yba.zeroValue52
  t35 := Yba.underlying55
  a35 := Yba.isAgg55
  z35 := Yba.sizeOf55
  v35 := Yba.zeroValue55
  t36 := Yba.underlying56
  a36 := Yba.isAgg56
  z36 := Yba.sizeOf56
  v36 := Yba.zeroValue56
  t41 := Yba.underlying61
  a41 := Yba.isAgg61
  z41 := Yba.sizeOf61
  v41 := Yba.zeroValue61
  t44 := Yba.underlying64
  a44 := Yba.isAgg64
  z44 := Yba.sizeOf64
  v44 := Yba.zeroValue64
  t46 := Yba.underlying66
  a46 := Yba.isAgg66
  z46 := Yba.sizeOf66
  v46 := Yba.zeroValue66
  t53 := Yba.underlying69
  a53 := Yba.isAgg69
  z53 := Yba.sizeOf69
  v53 := Yba.zeroValue69
  t57 := Yba.underlying73
  a57 := Yba.isAgg73
  z57 := Yba.sizeOf73
  v57 := Yba.zeroValue73
  t63 := Yba.underlying76
  a63 := Yba.isAgg76
  z63 := Yba.sizeOf76
  v63 := Yba.zeroValue76
  t64 := Yba.underlying77
  a64 := Yba.isAgg77
  z64 := Yba.sizeOf77
  v64 := Yba.zeroValue77 }
def Yba.laysSearch_ren : Go.Shelf.Ren := ⟨fun | 16 => 27 | n => n, fun | 3 => 3 | 35 => 68 | 4 => 4 | 38 => 52 | n => n, fun | n => n⟩
theorem Yba.laysSearch : Go.Proofs.SlLaysO.n16 Yba.prog Yba.laysSearch_ren := {
  mixed := by kernel_rfl
  f16 := Yba.func27.trans (congrArg some (by kernel_rfl))
  t3 := Yba.underlying3
  a3 := Yba.isAgg3
  z3 := Yba.sizeOf3
  v3 := Yba.zeroValue3
  t4 := Yba.underlying4
  a4 := Yba.isAgg4
  z4 := Yba.sizeOf4
  v4 := Yba.zeroValue4
  t35 := Yba.underlying68
  a35 := Yba.isAgg68
  z35 := Yba.sizeOf68
  v35 := Yba.zeroValue68
  t38 := Yba.underlying52
  a38 := Yba.isAgg52
  z38 := Yba.sizeOf52
  v38 := Yba.zeroValue52 }
def Yba.laysClone_ren : Go.Shelf.Ren := ⟨fun | 41 => 10 | n => n, fun | 22 => 41 | 23 => 2 | 4 => 4 | n => n, fun | n => n⟩
theorem Yba.laysClone : Go.Proofs.SlLaysN.n41 Yba.prog Yba.laysClone_ren := {
  mixed := by kernel_rfl
  f41 := ⟨Yba.f10.name, by decide, Yba.func10.trans (congrArg some (by kernel_rfl))⟩
  t4 := Yba.underlying4
  a4 := Yba.isAgg4
  z4 := Yba.sizeOf4
  v4 := Yba.zeroValue4
  t22 := Yba.underlying41
  a22 := Yba.isAgg41
  z22 := Yba.sizeOf41
  v22 := Yba.zeroValue41
  t23 := Yba.underlying2
  a23 := Yba.isAgg2
  z23 := Yba.sizeOf2
  v23 := Yba.zeroValue2
  i23 := by kernel_rfl }
end Go.Proofs
