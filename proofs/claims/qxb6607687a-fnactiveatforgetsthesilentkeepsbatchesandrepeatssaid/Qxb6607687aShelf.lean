/-
  DERIVED: THE SHELF's CONTRACTS AT THIS DUMP, IN PLAIN WORDS (tools/lay-plain.mjs out of 'Qxb6607687aShelf0.lean', which tools/lay-shelf.mjs wrote): THE SAME DECLARATIONS UNDER THE SAME NAMES: 'import', 'namespace', 'open', 'def', 'theorem' AND NOTHING ELSE: no command of the shelf's: FOR A HAND-IN. Each laying: the table of numbers ('.._ren') and one theorem, a field a fact of the dump's own or the kernel's comparison; each contract: ONE APPLICATION.
-/
import Derived.Shelf.SlSortCmp.NoneTotal
import Derived.Shelf.SlicesQ.IndexFunc
import Derived.Shelf.SlicesE.DeleteFunc
import Derived.Ground.SlsfProg
import Derived.Ground.SlgfProg
import Derived.Test.Qxb6607687aProg
set_option maxRecDepth 1000000
set_option maxHeartbeats 4000000
namespace Go.Proofs
open Go.Shelf
def Try.sortSg_ren : Go.Shelf.Ren := ⟨fun | 6 => 59 | 15 => 74 | 14 => 73 | 28 => 92 | 29 => 93 | 20 => 84 | 21 => 85 | 22 => 86 | 23 => 87 | 24 => 88 | 25 => 89 | 26 => 90 | 27 => 91 | 46 => 94 | 47 => 95 | 48 => 96 | 49 => 97 | 50 => 98 | 57 => 99 | n => n, fun | 22 => 72 | 24 => 57 | 25 => 55 | 3 => 3 | 39 => 58 | 0 => 0 | 53 => 77 | 55 => 25 | 4 => 4 | 46 => 131 | 45 => 130 | 50 => 135 | 5 => 5 | 9 => 9 | 66 => 139 | 70 => 143 | 76 => 145 | 77 => 146 | n => n, fun | n => n⟩
theorem Try.sortSg : Go.Proofs.SlLaysF0.n6 Try.prog Try.sortSg_ren := {
  mixed := by kernel_rfl
  f6 := ⟨Try.f59.name, by decide, Try.func59.trans (congrArg some (by kernel_rfl))⟩
  f14 := ⟨Try.f73.name, by decide, Try.func73.trans (congrArg some (by kernel_rfl))⟩
  f15 := Try.func74.trans (congrArg some (by kernel_rfl))
  f20 := ⟨Try.f84.name, by decide, Try.func84.trans (congrArg some (by kernel_rfl))⟩
  f21 := ⟨Try.f85.name, by decide, Try.func85.trans (congrArg some (by kernel_rfl))⟩
  f22 := ⟨Try.f86.name, by decide, Try.func86.trans (congrArg some (by kernel_rfl))⟩
  f23 := ⟨Try.f87.name, by decide, Try.func87.trans (congrArg some (by kernel_rfl))⟩
  f24 := ⟨Try.f88.name, by decide, Try.func88.trans (congrArg some (by kernel_rfl))⟩
  f25 := ⟨Try.f89.name, by decide, Try.func89.trans (congrArg some (by kernel_rfl))⟩
  f26 := ⟨Try.f90.name, by decide, Try.func90.trans (congrArg some (by kernel_rfl))⟩
  f27 := ⟨Try.f91.name, by decide, Try.func91.trans (congrArg some (by kernel_rfl))⟩
  f28 := Try.func92.trans (congrArg some (by kernel_rfl))
  f29 := Try.func93.trans (congrArg some (by kernel_rfl))
  f46 := ⟨Try.f94.name, by decide, Try.func94.trans (congrArg some (by kernel_rfl))⟩
  f47 := Try.func95.trans (congrArg some (by kernel_rfl))
  f48 := Try.func96.trans (congrArg some (by kernel_rfl))
  f49 := ⟨Try.f97.name, by decide, Try.func97.trans (congrArg some (by kernel_rfl))⟩
  f50 := ⟨Try.f98.name, by decide, Try.func98.trans (congrArg some (by kernel_rfl))⟩
  f57 := ⟨Try.f99.name, by decide, Try.func99.trans (congrArg some (by kernel_rfl))⟩
  t0 := Try.underlying0
  a0 := Try.isAgg0
  z0 := Try.sizeOf0
  v0 := Try.zeroValue0
  t3 := Try.underlying3
  a3 := Try.isAgg3
  z3 := Try.sizeOf3
  v3 := Try.zeroValue3
  t4 := Try.underlying4
  a4 := Try.isAgg4
  z4 := Try.sizeOf4
  v4 := Try.zeroValue4
  t5 := Try.underlying5
  a5 := Try.isAgg5
  z5 := Try.sizeOf5
  v5 := Try.zeroValue5
  t9 := Try.underlying9
  a9 := Try.isAgg9
  z9 := Try.sizeOf9
  v9 := Try.zeroValue9
  t22 := Try.underlying72
  a22 := Try.isAgg72
  z22 := Try.sizeOf72
  v22 := Try.zeroValue72
  t25 := Try.underlying55
  a25 := Try.isAgg55
  z25 := Try.sizeOf55
  v25 := Try.zeroValue55
  t39 := Try.underlying58
  a39 := Try.isAgg58
  z39 := Try.sizeOf58
  v39 := Try.zeroValue58
  t45 := Try.underlying130
  a45 := Try.isAgg130
  z45 := Try.sizeOf130
  v45 := Try.zeroValue130
  t46 := Try.underlying131
  a46 := Try.isAgg131
  z46 := Try.sizeOf131
  v46 := Try.zeroValue131
  t50 := Try.underlying135
  a50 := Try.isAgg135
  z50 := Try.sizeOf135
  v50 := Try.zeroValue135
  t53 := Try.underlying77
  a53 := Try.isAgg77
  z53 := Try.sizeOf77
  v53 := Try.zeroValue77
  t55 := Try.underlying25
  a55 := Try.isAgg25
  z55 := Try.sizeOf25
  v55 := Try.zeroValue25
  t66 := Try.underlying139
  a66 := Try.isAgg139
  z66 := Try.sizeOf139
  v66 := Try.zeroValue139
  t70 := Try.underlying143
  a70 := Try.isAgg143
  z70 := Try.sizeOf143
  v70 := Try.zeroValue143
  t76 := Try.underlying145
  a76 := Try.isAgg145
  z76 := Try.sizeOf145
  v76 := Try.zeroValue145
  t77 := Try.underlying146
  a77 := Try.isAgg146
  z77 := Try.sizeOf146
  v77 := Try.zeroValue146 }
def Try.indexSg_ren : Go.Shelf.Ren := ⟨fun | 6 => 82 | n => n, fun | 22 => 72 | 23 => 57 | 25 => 118 | 3 => 3 | 0 => 0 | 4 => 4 | n => n, fun | n => n⟩
theorem Try.indexSg : Go.Proofs.SlLaysH0.n6 Try.prog Try.indexSg_ren := {
  mixed := by kernel_rfl
  f6 := ⟨Try.f82.name, by decide, Try.func82.trans (congrArg some (by kernel_rfl))⟩
  t0 := Try.underlying0
  a0 := Try.isAgg0
  z0 := Try.sizeOf0
  v0 := Try.zeroValue0
  t3 := Try.underlying3
  a3 := Try.isAgg3
  z3 := Try.sizeOf3
  v3 := Try.zeroValue3
  t4 := Try.underlying4
  a4 := Try.isAgg4
  z4 := Try.sizeOf4
  v4 := Try.zeroValue4
  t22 := Try.underlying72
  a22 := Try.isAgg72
  z22 := Try.sizeOf72
  v22 := Try.zeroValue72
  t25 := Try.underlying118
  a25 := Try.isAgg118
  z25 := Try.sizeOf118
  v25 := Try.zeroValue118 }
def Try.deleteBt_ren : Go.Shelf.Ren := ⟨fun | 10 => 71 | 6 => 83 | n => n, fun | 22 => 83 | 23 => 88 | 25 => 120 | 3 => 3 | 4 => 4 | 0 => 0 | n => n, fun | n => n⟩
theorem Try.deleteBt : Go.Proofs.SlLaysH.n10 Try.prog Try.deleteBt_ren := {
  mixed := by kernel_rfl
  f6 := ⟨Try.f83.name, by decide, Try.func83.trans (congrArg some (by kernel_rfl))⟩
  f10 := ⟨Try.f71.name, by decide, Try.func71.trans (congrArg some (by kernel_rfl))⟩
  t0 := Try.underlying0
  a0 := Try.isAgg0
  z0 := Try.sizeOf0
  v0 := Try.zeroValue0
  t3 := Try.underlying3
  a3 := Try.isAgg3
  z3 := Try.sizeOf3
  v3 := Try.zeroValue3
  t4 := Try.underlying4
  a4 := Try.isAgg4
  z4 := Try.sizeOf4
  v4 := Try.zeroValue4
  t22 := Try.underlying83
  a22 := Try.isAgg83
  z22 := Try.sizeOf83
  v22 := Try.zeroValue83
  a23 := Try.isAgg88
  z23 := Try.sizeOf88
  t25 := Try.underlying120
  a25 := Try.isAgg120
  z25 := Try.sizeOf120
  v25 := Try.zeroValue120 }
end Go.Proofs
