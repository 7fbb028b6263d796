/-
  DERIVED: THE SHELF's CONTRACTS AT THIS DUMP, IN PLAIN WORDS (tools/lay-plain.mjs out of 'Qxb6609544aDoorLayX.lean', which tools/lay-shelf.mjs wrote): THE SAME DECLARATIONS UNDER THE SAME NAMES: 'import', 'namespace', 'open', 'def', 'theorem' AND NOTHING ELSE: no command of the shelf's: FOR A HAND-IN. Each laying: the table of numbers ('.._ren') and one theorem, a field a fact of the dump's own or the kernel's comparison; each contract: ONE APPLICATION.
-/
import Derived.Shelf.SlSortCmp.NoneTotal
import Derived.Shelf.SlLaysF0
import Derived.Shelf.SlGeneric
import Derived.Ground.SlsfProg
import Derived.Test.Qxb6609544aDoorProg
namespace Go.Proofs
open Go.Shelf
def Tryd.sortE_ren : Go.Shelf.Ren := ⟨fun | 6 => 36 | 15 => 52 | 14 => 51 | 28 => 68 | 29 => 69 | 20 => 60 | 21 => 61 | 22 => 62 | 23 => 63 | 24 => 64 | 25 => 65 | 26 => 66 | 27 => 67 | 46 => 74 | 47 => 75 | 48 => 76 | 49 => 77 | 50 => 78 | 57 => 80 | n => n, fun | 22 => 27 | 24 => 49 | 25 => 74 | 3 => 3 | 39 => 87 | 0 => 0 | 53 => 107 | 55 => 40 | 4 => 4 | 46 => 100 | 45 => 99 | 50 => 104 | 5 => 5 | 9 => 9 | 66 => 115 | 70 => 119 | 76 => 121 | 77 => 122 | n => n, fun | n => n⟩
theorem Tryd.sortE : Go.Proofs.SlLaysF0.n6 Tryd.prog Tryd.sortE_ren := {
  mixed := by kernel_rfl
  f6 := ⟨Tryd.f36.name, by decide, Tryd.func36.trans (congrArg some (by kernel_rfl))⟩
  f14 := ⟨Tryd.f51.name, by decide, Tryd.func51.trans (congrArg some (by kernel_rfl))⟩
  f15 := Tryd.func52.trans (congrArg some (by kernel_rfl))
  f20 := ⟨Tryd.f60.name, by decide, Tryd.func60.trans (congrArg some (by kernel_rfl))⟩
  f21 := ⟨Tryd.f61.name, by decide, Tryd.func61.trans (congrArg some (by kernel_rfl))⟩
  f22 := ⟨Tryd.f62.name, by decide, Tryd.func62.trans (congrArg some (by kernel_rfl))⟩
  f23 := ⟨Tryd.f63.name, by decide, Tryd.func63.trans (congrArg some (by kernel_rfl))⟩
  f24 := ⟨Tryd.f64.name, by decide, Tryd.func64.trans (congrArg some (by kernel_rfl))⟩
  f25 := ⟨Tryd.f65.name, by decide, Tryd.func65.trans (congrArg some (by kernel_rfl))⟩
  f26 := ⟨Tryd.f66.name, by decide, Tryd.func66.trans (congrArg some (by kernel_rfl))⟩
  f27 := ⟨Tryd.f67.name, by decide, Tryd.func67.trans (congrArg some (by kernel_rfl))⟩
  f28 := Tryd.func68.trans (congrArg some (by kernel_rfl))
  f29 := Tryd.func69.trans (congrArg some (by kernel_rfl))
  f46 := ⟨Tryd.f74.name, by decide, Tryd.func74.trans (congrArg some (by kernel_rfl))⟩
  f47 := Tryd.func75.trans (congrArg some (by kernel_rfl))
  f48 := Tryd.func76.trans (congrArg some (by kernel_rfl))
  f49 := ⟨Tryd.f77.name, by decide, Tryd.func77.trans (congrArg some (by kernel_rfl))⟩
  f50 := ⟨Tryd.f78.name, by decide, Tryd.func78.trans (congrArg some (by kernel_rfl))⟩
  f57 := ⟨Tryd.f80.name, by decide, Tryd.func80.trans (congrArg some (by kernel_rfl))⟩
  t0 := Tryd.underlying0
  a0 := Tryd.isAgg0
  z0 := Tryd.sizeOf0
  v0 := Tryd.zeroValue0
  t3 := Tryd.underlying3
  a3 := Tryd.isAgg3
  z3 := Tryd.sizeOf3
  v3 := Tryd.zeroValue3
  t4 := Tryd.underlying4
  a4 := Tryd.isAgg4
  z4 := Tryd.sizeOf4
  v4 := Tryd.zeroValue4
  t5 := Tryd.underlying5
  a5 := Tryd.isAgg5
  z5 := Tryd.sizeOf5
  v5 := Tryd.zeroValue5
  t9 := Tryd.underlying9
  a9 := Tryd.isAgg9
  z9 := Tryd.sizeOf9
  v9 := Tryd.zeroValue9
  t22 := Tryd.underlying27
  a22 := Tryd.isAgg27
  z22 := Tryd.sizeOf27
  v22 := Tryd.zeroValue27
  t25 := Tryd.underlying74
  a25 := Tryd.isAgg74
  z25 := Tryd.sizeOf74
  v25 := Tryd.zeroValue74
  t39 := Tryd.underlying87
  a39 := Tryd.isAgg87
  z39 := Tryd.sizeOf87
  v39 := Tryd.zeroValue87
  t45 := Tryd.underlying99
  a45 := Tryd.isAgg99
  z45 := Tryd.sizeOf99
  v45 := Tryd.zeroValue99
  t46 := Tryd.underlying100
  a46 := Tryd.isAgg100
  z46 := Tryd.sizeOf100
  v46 := Tryd.zeroValue100
  t50 := Tryd.underlying104
  a50 := Tryd.isAgg104
  z50 := Tryd.sizeOf104
  v50 := Tryd.zeroValue104
  t53 := Tryd.underlying107
  a53 := Tryd.isAgg107
  z53 := Tryd.sizeOf107
  v53 := Tryd.zeroValue107
  t55 := Tryd.underlying40
  a55 := Tryd.isAgg40
  z55 := Tryd.sizeOf40
  v55 := Tryd.zeroValue40
  t66 := Tryd.underlying115
  a66 := Tryd.isAgg115
  z66 := Tryd.sizeOf115
  v66 := Tryd.zeroValue115
  t70 := Tryd.underlying119
  a70 := Tryd.isAgg119
  z70 := Tryd.sizeOf119
  v70 := Tryd.zeroValue119
  t76 := Tryd.underlying121
  a76 := Tryd.isAgg121
  z76 := Tryd.sizeOf121
  v76 := Tryd.zeroValue121
  t77 := Tryd.underlying122
  a77 := Tryd.isAgg122
  z77 := Tryd.sizeOf122
  v77 := Tryd.zeroValue122 }
end Go.Proofs
