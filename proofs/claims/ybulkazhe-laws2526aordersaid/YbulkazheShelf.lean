/-
  DERIVED: THE SHELF's CONTRACTS AT THIS DUMP, IN PLAIN WORDS (tools/lay-plain.mjs out of 'YbulkazheShelf.lean', which tools/lay-shelf.mjs wrote): THE SAME DECLARATIONS UNDER THE SAME NAMES: 'import', 'namespace', 'open', 'def', 'theorem' AND NOTHING ELSE: no command of the shelf's: FOR A HAND-IN. Each laying: the table of numbers ('.._ren') and one theorem, a field a fact of the dump's own or the kernel's comparison; each contract: ONE APPLICATION.
-/
import Derived.Shelf.SlLaysF0
import Derived.Shelf.SlGeneric
import Derived.Test.YbulkazheProg
namespace Go.Proofs
open Go.Shelf
def Yba.sortSh_ren : Go.Shelf.Ren := ⟨fun | 6 => 10 | 15 => 17 | 14 => 16 | 28 => 29 | 29 => 30 | 20 => 21 | 21 => 22 | 22 => 23 | 23 => 24 | 24 => 25 | 25 => 26 | 26 => 27 | 27 => 28 | 46 => 33 | 47 => 34 | 48 => 35 | 49 => 36 | 50 => 37 | 57 => 41 | n => n, fun | 22 => 25 | 24 => 29 | 25 => 44 | 3 => 3 | 39 => 41 | 0 => 0 | 53 => 71 | 55 => 24 | 4 => 4 | 46 => 64 | 45 => 63 | 50 => 68 | 5 => 5 | 9 => 9 | 66 => 81 | 70 => 85 | 76 => 95 | 77 => 96 | n => n, fun | n => n⟩
theorem Yba.sortSh : Go.Proofs.SlLaysF0.n6 Yba.prog Yba.sortSh_ren := {
  mixed := by kernel_rfl
  f6 := ⟨Yba.f10.name, by decide, Yba.func10.trans (congrArg some (by kernel_rfl))⟩
  f14 := ⟨Yba.f16.name, by decide, Yba.func16.trans (congrArg some (by kernel_rfl))⟩
  f15 := Yba.func17.trans (congrArg some (by kernel_rfl))
  f20 := ⟨Yba.f21.name, by decide, Yba.func21.trans (congrArg some (by kernel_rfl))⟩
  f21 := ⟨Yba.f22.name, by decide, Yba.func22.trans (congrArg some (by kernel_rfl))⟩
  f22 := ⟨Yba.f23.name, by decide, Yba.func23.trans (congrArg some (by kernel_rfl))⟩
  f23 := ⟨Yba.f24.name, by decide, Yba.func24.trans (congrArg some (by kernel_rfl))⟩
  f24 := ⟨Yba.f25.name, by decide, Yba.func25.trans (congrArg some (by kernel_rfl))⟩
  f25 := ⟨Yba.f26.name, by decide, Yba.func26.trans (congrArg some (by kernel_rfl))⟩
  f26 := ⟨Yba.f27.name, by decide, Yba.func27.trans (congrArg some (by kernel_rfl))⟩
  f27 := ⟨Yba.f28.name, by decide, Yba.func28.trans (congrArg some (by kernel_rfl))⟩
  f28 := Yba.func29.trans (congrArg some (by kernel_rfl))
  f29 := Yba.func30.trans (congrArg some (by kernel_rfl))
  f46 := ⟨Yba.f33.name, by decide, Yba.func33.trans (congrArg some (by kernel_rfl))⟩
  f47 := Yba.func34.trans (congrArg some (by kernel_rfl))
  f48 := Yba.func35.trans (congrArg some (by kernel_rfl))
  f49 := ⟨Yba.f36.name, by decide, Yba.func36.trans (congrArg some (by kernel_rfl))⟩
  f50 := ⟨Yba.f37.name, by decide, Yba.func37.trans (congrArg some (by kernel_rfl))⟩
  f57 := ⟨Yba.f41.name, by decide, Yba.func41.trans (congrArg some (by kernel_rfl))⟩
  t0 := Yba.underlying0
  a0 := Yba.isAgg0
  z0 := Yba.sizeOf0
  v0 := Yba.zeroValue0
  t3 := Yba.underlying3
  a3 := Yba.isAgg3
  z3 := Yba.sizeOf3
  v3 := Yba.zeroValue3
  t4 := Yba.underlying4
  a4 := Yba.isAgg4
  z4 := Yba.sizeOf4
  v4 := Yba.zeroValue4
  t5 := Yba.underlying5
  a5 := Yba.isAgg5
  z5 := Yba.sizeOf5
  v5 := Yba.zeroValue5
  t9 := Yba.underlying9
  a9 := Yba.isAgg9
  z9 := Yba.sizeOf9
  v9 := Yba.zeroValue9
  t22 := Yba.underlying25
  a22 := Yba.isAgg25
  z22 := Yba.sizeOf25
  v22 := Yba.zeroValue25
  t25 := Yba.underlying44
  a25 := Yba.isAgg44
  z25 := Yba.sizeOf44
  v25 := Yba.zeroValue44
  t39 := Yba.underlying41
  a39 := Yba.isAgg41
  z39 := Yba.sizeOf41
  v39 := Yba.zeroValue41
  t45 := Yba.underlying63
  a45 := Yba.isAgg63
  z45 := Yba.sizeOf63
  v45 := Yba.zeroValue63
  t46 := Yba.underlying64
  a46 := Yba.isAgg64
  z46 := Yba.sizeOf64
  v46 := Yba.zeroValue64
  t50 := Yba.underlying68
  a50 := Yba.isAgg68
  z50 := Yba.sizeOf68
  v50 := Yba.zeroValue68
  t53 := Yba.underlying71
  a53 := Yba.isAgg71
  z53 := Yba.sizeOf71
  v53 := Yba.zeroValue71
  t55 := Yba.underlying24
  a55 := Yba.isAgg24
  z55 := Yba.sizeOf24
  v55 := Yba.zeroValue24
  t66 := Yba.underlying81
  a66 := Yba.isAgg81
  z66 := Yba.sizeOf81
  v66 := Yba.zeroValue81
  t70 := Yba.underlying85
  a70 := Yba.isAgg85
  z70 := Yba.sizeOf85
  v70 := Yba.zeroValue85
  t76 := Yba.underlying95
  a76 := Yba.isAgg95
  z76 := Yba.sizeOf95
  v76 := Yba.zeroValue95
  t77 := Yba.underlying96
  a77 := Yba.isAgg96
  z77 := Yba.sizeOf96
  v77 := Yba.zeroValue96 }
end Go.Proofs
