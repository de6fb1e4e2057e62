/-
  DERIVED: THE SHELF's CONTRACTS AT THIS DUMP, IN PLAIN WORDS (tools/lay-plain.mjs out of 'YbulkdevoGreatShelf.lean', which tools/lay-shelf.mjs wrote): THE SAME DECLARATIONS UNDER THE SAME NAMES: 'import', 'namespace', 'open', 'def', 'theorem' AND NOTHING ELSE: no command of the shelf's: FOR A HAND-IN. Each laying: the table of numbers ('.._ren') and one theorem, a field a fact of the dump's own or the kernel's comparison; each contract: ONE APPLICATION.
-/
import Derived.Shelf.SlSortCmp.NoneTotal
import Derived.Shelf.SlGeneric
import Derived.Ground.SlsfProg
import Derived.Test.YbulkdevoGreatProg
namespace Go.Proofs
open Go.Shelf
def Ybaz.sortPeer_ren : Go.Shelf.Ren := ⟨fun | 6 => 29 | 15 => 44 | 14 => 43 | 28 => 61 | 29 => 62 | 20 => 53 | 21 => 54 | 22 => 55 | 23 => 56 | 24 => 57 | 25 => 58 | 26 => 59 | 27 => 60 | 46 => 63 | 47 => 64 | 48 => 65 | 49 => 66 | 50 => 67 | 57 => 68 | n => n, fun | 22 => 29 | 24 => 26 | 25 => 114 | 3 => 3 | 39 => 127 | 0 => 0 | 53 => 43 | 55 => 64 | 4 => 4 | 46 => 135 | 45 => 134 | 50 => 139 | 5 => 5 | 9 => 9 | 66 => 143 | 70 => 147 | 76 => 149 | 77 => 150 | n => n, fun | n => n⟩
theorem Ybaz.sortPeer : Go.Proofs.SlLaysF0.n6 Ybaz.prog Ybaz.sortPeer_ren := {
  mixed := by kernel_rfl
  f6 := ⟨Ybaz.f29.name, by decide, Ybaz.func29.trans (congrArg some (by kernel_rfl))⟩
  f14 := ⟨Ybaz.f43.name, by decide, Ybaz.func43.trans (congrArg some (by kernel_rfl))⟩
  f15 := Ybaz.func44.trans (congrArg some (by kernel_rfl))
  f20 := ⟨Ybaz.f53.name, by decide, Ybaz.func53.trans (congrArg some (by kernel_rfl))⟩
  f21 := ⟨Ybaz.f54.name, by decide, Ybaz.func54.trans (congrArg some (by kernel_rfl))⟩
  f22 := ⟨Ybaz.f55.name, by decide, Ybaz.func55.trans (congrArg some (by kernel_rfl))⟩
  f23 := ⟨Ybaz.f56.name, by decide, Ybaz.func56.trans (congrArg some (by kernel_rfl))⟩
  f24 := ⟨Ybaz.f57.name, by decide, Ybaz.func57.trans (congrArg some (by kernel_rfl))⟩
  f25 := ⟨Ybaz.f58.name, by decide, Ybaz.func58.trans (congrArg some (by kernel_rfl))⟩
  f26 := ⟨Ybaz.f59.name, by decide, Ybaz.func59.trans (congrArg some (by kernel_rfl))⟩
  f27 := ⟨Ybaz.f60.name, by decide, Ybaz.func60.trans (congrArg some (by kernel_rfl))⟩
  f28 := Ybaz.func61.trans (congrArg some (by kernel_rfl))
  f29 := Ybaz.func62.trans (congrArg some (by kernel_rfl))
  f46 := ⟨Ybaz.f63.name, by decide, Ybaz.func63.trans (congrArg some (by kernel_rfl))⟩
  f47 := Ybaz.func64.trans (congrArg some (by kernel_rfl))
  f48 := Ybaz.func65.trans (congrArg some (by kernel_rfl))
  f49 := ⟨Ybaz.f66.name, by decide, Ybaz.func66.trans (congrArg some (by kernel_rfl))⟩
  f50 := ⟨Ybaz.f67.name, by decide, Ybaz.func67.trans (congrArg some (by kernel_rfl))⟩
  f57 := ⟨Ybaz.f68.name, by decide, Ybaz.func68.trans (congrArg some (by kernel_rfl))⟩
  t0 := Ybaz.underlying0
  a0 := Ybaz.isAgg0
  z0 := Ybaz.sizeOf0
  v0 := Ybaz.zeroValue0
  t3 := Ybaz.underlying3
  a3 := Ybaz.isAgg3
  z3 := Ybaz.sizeOf3
  v3 := Ybaz.zeroValue3
  t4 := Ybaz.underlying4
  a4 := Ybaz.isAgg4
  z4 := Ybaz.sizeOf4
  v4 := Ybaz.zeroValue4
  t5 := Ybaz.underlying5
  a5 := Ybaz.isAgg5
  z5 := Ybaz.sizeOf5
  v5 := Ybaz.zeroValue5
  t9 := Ybaz.underlying9
  a9 := Ybaz.isAgg9
  z9 := Ybaz.sizeOf9
  v9 := Ybaz.zeroValue9
  t22 := Ybaz.underlying29
  a22 := Ybaz.isAgg29
  z22 := Ybaz.sizeOf29
  v22 := Ybaz.zeroValue29
  t25 := Ybaz.underlying114
  a25 := Ybaz.isAgg114
  z25 := Ybaz.sizeOf114
  v25 := Ybaz.zeroValue114
  t39 := Ybaz.underlying127
  a39 := Ybaz.isAgg127
  z39 := Ybaz.sizeOf127
  v39 := Ybaz.zeroValue127
  t45 := Ybaz.underlying134
  a45 := Ybaz.isAgg134
  z45 := Ybaz.sizeOf134
  v45 := Ybaz.zeroValue134
  t46 := Ybaz.underlying135
  a46 := Ybaz.isAgg135
  z46 := Ybaz.sizeOf135
  v46 := Ybaz.zeroValue135
  t50 := Ybaz.underlying139
  a50 := Ybaz.isAgg139
  z50 := Ybaz.sizeOf139
  v50 := Ybaz.zeroValue139
  t53 := Ybaz.underlying43
  a53 := Ybaz.isAgg43
  z53 := Ybaz.sizeOf43
  v53 := Ybaz.zeroValue43
  t55 := Ybaz.underlying64
  a55 := Ybaz.isAgg64
  z55 := Ybaz.sizeOf64
  v55 := Ybaz.zeroValue64
  t66 := Ybaz.underlying143
  a66 := Ybaz.isAgg143
  z66 := Ybaz.sizeOf143
  v66 := Ybaz.zeroValue143
  t70 := Ybaz.underlying147
  a70 := Ybaz.isAgg147
  z70 := Ybaz.sizeOf147
  v70 := Ybaz.zeroValue147
  t76 := Ybaz.underlying149
  a76 := Ybaz.isAgg149
  z76 := Ybaz.sizeOf149
  v76 := Ybaz.zeroValue149
  t77 := Ybaz.underlying150
  a77 := Ybaz.isAgg150
  z77 := Ybaz.sizeOf150
  v77 := Ybaz.zeroValue150 }
end Go.Proofs
