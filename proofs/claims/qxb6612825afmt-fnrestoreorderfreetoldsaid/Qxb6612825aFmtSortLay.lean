/-
  DERIVED: THE SHELF's CONTRACTS AT THIS DUMP, IN PLAIN WORDS (tools/lay-plain.mjs out of 'TryfSort.lean', which tools/lay-shelf.mjs wrote): THE SAME DECLARATIONS UNDER THE SAME NAMES: 'import', 'namespace', 'open', 'def', 'theorem' AND NOTHING ELSE: no command of the shelf's: FOR A HAND-IN. Each laying: the table of numbers ('.._ren') and one theorem, a field a fact of the dump's own or the kernel's comparison; each contract: ONE APPLICATION.
-/
import Derived.Shelf.SlGeneric
import Derived.Shelf.SlSortCmp.WholeK
import Derived.Ground.SlsfProg
import Derived.Test.Qxb6612825aFmtProg
namespace Go.Proofs
open Go.Shelf
def Tryf.sortPl_ren : Go.Shelf.Ren := ⟨fun | 6 => 28 | 15 => 35 | 14 => 34 | 28 => 45 | 29 => 46 | 20 => 37 | 21 => 38 | 22 => 39 | 23 => 40 | 24 => 41 | 25 => 42 | 26 => 43 | 27 => 44 | 46 => 47 | 47 => 48 | 48 => 49 | 49 => 50 | 50 => 51 | 57 => 52 | n => n, fun | 22 => 49 | 24 => 51 | 25 => 54 | 3 => 3 | 39 => 37 | 0 => 0 | 53 => 68 | 55 => 70 | 4 => 4 | 46 => 61 | 45 => 60 | 50 => 65 | 5 => 5 | 9 => 9 | 66 => 71 | 70 => 75 | 76 => 77 | 77 => 78 | n => n, fun | n => n⟩
set_option maxRecDepth 1000000 in
theorem Tryf.sortPl : Go.Proofs.SlLaysF0.n6 Tryf.prog Tryf.sortPl_ren := {
  mixed := by kernel_rfl
  f6 := ⟨Tryf.f28.name, by decide, Tryf.func28.trans (congrArg some (by kernel_rfl))⟩
  f14 := ⟨Tryf.f34.name, by decide, Tryf.func34.trans (congrArg some (by kernel_rfl))⟩
  f15 := Tryf.func35.trans (congrArg some (by kernel_rfl))
  f20 := ⟨Tryf.f37.name, by decide, Tryf.func37.trans (congrArg some (by kernel_rfl))⟩
  f21 := ⟨Tryf.f38.name, by decide, Tryf.func38.trans (congrArg some (by kernel_rfl))⟩
  f22 := ⟨Tryf.f39.name, by decide, Tryf.func39.trans (congrArg some (by kernel_rfl))⟩
  f23 := ⟨Tryf.f40.name, by decide, Tryf.func40.trans (congrArg some (by kernel_rfl))⟩
  f24 := ⟨Tryf.f41.name, by decide, Tryf.func41.trans (congrArg some (by kernel_rfl))⟩
  f25 := ⟨Tryf.f42.name, by decide, Tryf.func42.trans (congrArg some (by kernel_rfl))⟩
  f26 := ⟨Tryf.f43.name, by decide, Tryf.func43.trans (congrArg some (by kernel_rfl))⟩
  f27 := ⟨Tryf.f44.name, by decide, Tryf.func44.trans (congrArg some (by kernel_rfl))⟩
  f28 := Tryf.func45.trans (congrArg some (by kernel_rfl))
  f29 := Tryf.func46.trans (congrArg some (by kernel_rfl))
  f46 := ⟨Tryf.f47.name, by decide, Tryf.func47.trans (congrArg some (by kernel_rfl))⟩
  f47 := Tryf.func48.trans (congrArg some (by kernel_rfl))
  f48 := Tryf.func49.trans (congrArg some (by kernel_rfl))
  f49 := ⟨Tryf.f50.name, by decide, Tryf.func50.trans (congrArg some (by kernel_rfl))⟩
  f50 := ⟨Tryf.f51.name, by decide, Tryf.func51.trans (congrArg some (by kernel_rfl))⟩
  f57 := ⟨Tryf.f52.name, by decide, Tryf.func52.trans (congrArg some (by kernel_rfl))⟩
  t0 := Tryf.underlying0
  a0 := Tryf.isAgg0
  z0 := Tryf.sizeOf0
  v0 := Tryf.zeroValue0
  t3 := Tryf.underlying3
  a3 := Tryf.isAgg3
  z3 := Tryf.sizeOf3
  v3 := Tryf.zeroValue3
  t4 := Tryf.underlying4
  a4 := Tryf.isAgg4
  z4 := Tryf.sizeOf4
  v4 := Tryf.zeroValue4
  t5 := Tryf.underlying5
  a5 := Tryf.isAgg5
  z5 := Tryf.sizeOf5
  v5 := Tryf.zeroValue5
  t9 := Tryf.underlying9
  a9 := Tryf.isAgg9
  z9 := Tryf.sizeOf9
  v9 := Tryf.zeroValue9
  t22 := Tryf.underlying49
  a22 := Tryf.isAgg49
  z22 := Tryf.sizeOf49
  v22 := Tryf.zeroValue49
  t25 := Tryf.underlying54
  a25 := Tryf.isAgg54
  z25 := Tryf.sizeOf54
  v25 := Tryf.zeroValue54
  t39 := Tryf.underlying37
  a39 := Tryf.isAgg37
  z39 := Tryf.sizeOf37
  v39 := Tryf.zeroValue37
  t45 := Tryf.underlying60
  a45 := Tryf.isAgg60
  z45 := Tryf.sizeOf60
  v45 := Tryf.zeroValue60
  t46 := Tryf.underlying61
  a46 := Tryf.isAgg61
  z46 := Tryf.sizeOf61
  v46 := Tryf.zeroValue61
  t50 := Tryf.underlying65
  a50 := Tryf.isAgg65
  z50 := Tryf.sizeOf65
  v50 := Tryf.zeroValue65
  t53 := Tryf.underlying68
  a53 := Tryf.isAgg68
  z53 := Tryf.sizeOf68
  v53 := Tryf.zeroValue68
  t55 := Tryf.underlying70
  a55 := Tryf.isAgg70
  z55 := Tryf.sizeOf70
  v55 := Tryf.zeroValue70
  t66 := Tryf.underlying71
  a66 := Tryf.isAgg71
  z66 := Tryf.sizeOf71
  v66 := Tryf.zeroValue71
  t70 := Tryf.underlying75
  a70 := Tryf.isAgg75
  z70 := Tryf.sizeOf75
  v70 := Tryf.zeroValue75
  t76 := Tryf.underlying77
  a76 := Tryf.isAgg77
  z76 := Tryf.sizeOf77
  v76 := Tryf.zeroValue77
  t77 := Tryf.underlying78
  a77 := Tryf.isAgg78
  z77 := Tryf.sizeOf78
  v77 := Tryf.zeroValue78 }
end Go.Proofs
