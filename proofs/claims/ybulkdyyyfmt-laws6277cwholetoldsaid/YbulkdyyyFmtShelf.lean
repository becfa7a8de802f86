/-
  DERIVED: THE SHELF's CONTRACTS AT THIS DUMP, IN PLAIN WORDS (tools/lay-plain.mjs out of 'YbulkdyyyFmtShelf.lean', which tools/lay-shelf.mjs wrote): THE SAME DECLARATIONS UNDER THE SAME NAMES: 'import', 'namespace', 'open', 'def', 'theorem' AND NOTHING ELSE: no command of the shelf's: FOR A HAND-IN. Each laying: the table of numbers ('.._ren') and one theorem, a field a fact of the dump's own or the kernel's comparison; each contract: ONE APPLICATION.
-/
import Derived.Shelf.SlSortCmp.WholeK
import Derived.Shelf.SlGeneric
import Derived.Ground.SlsfProg
import Derived.Test.YbulkdyyyFmtChecked
namespace Go.Proofs
open Go.Shelf
def Ybaf.sortSpans_ren : Go.Shelf.Ren := ⟨fun | 6 => 52 | 15 => 70 | 14 => 69 | 28 => 90 | 29 => 91 | 20 => 82 | 21 => 83 | 22 => 84 | 23 => 85 | 24 => 86 | 25 => 87 | 26 => 88 | 27 => 89 | 46 => 95 | 47 => 96 | 48 => 97 | 49 => 98 | 50 => 99 | 57 => 100 | n => n, fun | 22 => 35 | 24 => 81 | 25 => 121 | 3 => 3 | 39 => 166 | 0 => 0 | 53 => 40 | 55 => 39 | 4 => 4 | 46 => 179 | 45 => 178 | 50 => 157 | 5 => 5 | 9 => 9 | 66 => 193 | 70 => 196 | 76 => 198 | 77 => 154 | n => n, fun | n => n⟩
theorem Ybaf.sortSpans : Go.Proofs.SlLaysF0.n6 Ybaf.prog Ybaf.sortSpans_ren := {
  mixed := by kernel_rfl
  f6 := ⟨Ybaf.f52.name, by decide, Ybaf.func52.trans (congrArg some (by kernel_rfl))⟩
  f14 := ⟨Ybaf.f69.name, by decide, Ybaf.func69.trans (congrArg some (by kernel_rfl))⟩
  f15 := Ybaf.func70.trans (congrArg some (by kernel_rfl))
  f20 := ⟨Ybaf.f82.name, by decide, Ybaf.func82.trans (congrArg some (by kernel_rfl))⟩
  f21 := ⟨Ybaf.f83.name, by decide, Ybaf.func83.trans (congrArg some (by kernel_rfl))⟩
  f22 := ⟨Ybaf.f84.name, by decide, Ybaf.func84.trans (congrArg some (by kernel_rfl))⟩
  f23 := ⟨Ybaf.f85.name, by decide, Ybaf.func85.trans (congrArg some (by kernel_rfl))⟩
  f24 := ⟨Ybaf.f86.name, by decide, Ybaf.func86.trans (congrArg some (by kernel_rfl))⟩
  f25 := ⟨Ybaf.f87.name, by decide, Ybaf.func87.trans (congrArg some (by kernel_rfl))⟩
  f26 := ⟨Ybaf.f88.name, by decide, Ybaf.func88.trans (congrArg some (by kernel_rfl))⟩
  f27 := ⟨Ybaf.f89.name, by decide, Ybaf.func89.trans (congrArg some (by kernel_rfl))⟩
  f28 := Ybaf.func90.trans (congrArg some (by kernel_rfl))
  f29 := Ybaf.func91.trans (congrArg some (by kernel_rfl))
  f46 := ⟨Ybaf.f95.name, by decide, Ybaf.func95.trans (congrArg some (by kernel_rfl))⟩
  f47 := Ybaf.func96.trans (congrArg some (by kernel_rfl))
  f48 := Ybaf.func97.trans (congrArg some (by kernel_rfl))
  f49 := ⟨Ybaf.f98.name, by decide, Ybaf.func98.trans (congrArg some (by kernel_rfl))⟩
  f50 := ⟨Ybaf.f99.name, by decide, Ybaf.func99.trans (congrArg some (by kernel_rfl))⟩
  f57 := ⟨Ybaf.f100.name, by decide, Ybaf.func100.trans (congrArg some (by kernel_rfl))⟩
  t0 := Ybaf.underlying0
  a0 := Ybaf.isAgg0
  z0 := Ybaf.sizeOf0
  v0 := Ybaf.zeroValue0
  t3 := Ybaf.underlying3
  a3 := Ybaf.isAgg3
  z3 := Ybaf.sizeOf3
  v3 := Ybaf.zeroValue3
  t4 := Ybaf.underlying4
  a4 := Ybaf.isAgg4
  z4 := Ybaf.sizeOf4
  v4 := Ybaf.zeroValue4
  t5 := Ybaf.underlying5
  a5 := Ybaf.isAgg5
  z5 := Ybaf.sizeOf5
  v5 := Ybaf.zeroValue5
  t9 := Ybaf.underlying9
  a9 := Ybaf.isAgg9
  z9 := Ybaf.sizeOf9
  v9 := Ybaf.zeroValue9
  t22 := Ybaf.underlying35
  a22 := Ybaf.isAgg35
  z22 := Ybaf.sizeOf35
  v22 := Ybaf.zeroValue35
  t25 := Ybaf.underlying121
  a25 := Ybaf.isAgg121
  z25 := Ybaf.sizeOf121
  v25 := Ybaf.zeroValue121
  t39 := Ybaf.underlying166
  a39 := Ybaf.isAgg166
  z39 := Ybaf.sizeOf166
  v39 := Ybaf.zeroValue166
  t45 := Ybaf.underlying178
  a45 := Ybaf.isAgg178
  z45 := Ybaf.sizeOf178
  v45 := Ybaf.zeroValue178
  t46 := Ybaf.underlying179
  a46 := Ybaf.isAgg179
  z46 := Ybaf.sizeOf179
  v46 := Ybaf.zeroValue179
  t50 := Ybaf.underlying157
  a50 := Ybaf.isAgg157
  z50 := Ybaf.sizeOf157
  v50 := Ybaf.zeroValue157
  t53 := Ybaf.underlying40
  a53 := Ybaf.isAgg40
  z53 := Ybaf.sizeOf40
  v53 := Ybaf.zeroValue40
  t55 := Ybaf.underlying39
  a55 := Ybaf.isAgg39
  z55 := Ybaf.sizeOf39
  v55 := Ybaf.zeroValue39
  t66 := Ybaf.underlying193
  a66 := Ybaf.isAgg193
  z66 := Ybaf.sizeOf193
  v66 := Ybaf.zeroValue193
  t70 := Ybaf.underlying196
  a70 := Ybaf.isAgg196
  z70 := Ybaf.sizeOf196
  v70 := Ybaf.zeroValue196
  t76 := Ybaf.underlying198
  a76 := Ybaf.isAgg198
  z76 := Ybaf.sizeOf198
  v76 := Ybaf.zeroValue198
  t77 := Ybaf.underlying154
  a77 := Ybaf.isAgg154
  z77 := Ybaf.sizeOf154
  v77 := Ybaf.zeroValue154 }
end Go.Proofs
