/-
  DERIVED: THE SHELF's CONTRACTS AT THIS DUMP, IN PLAIN WORDS (tools/lay-plain.mjs out of 'Qxb6603969aShelf.lean', which tools/lay-shelf.mjs wrote): THE SAME DECLARATIONS UNDER THE SAME NAMES: 'import', 'namespace', 'open', 'def', 'theorem' AND NOTHING ELSE: no command of the shelf's: FOR A HAND-IN. Each laying: the table of numbers ('.._ren') and one theorem, a field a fact of the dump's own or the kernel's comparison; each contract: ONE APPLICATION.
-/
import Derived.Test.Qxb6603969aProg
import Derived.Shelf.Small.Bits
import Derived.Shelf.SlicesE.Clone
namespace Go.Proofs
open Go.Shelf
def Try.lays125_ren : Go.Shelf.Ren := ⟨fun | 125 => 38 | 128 => 48 | 129 => 49 | n => n, fun | 46 => 49 | 3 => 3 | 51 => 69 | 53 => 71 | 4 => 4 | 5 => 5 | 9 => 9 | n => n, fun | n => n⟩
theorem Try.lays125 : Go.Proofs.Lays.n125 Try.prog Try.lays125_ren := {
  mixed := by kernel_rfl
  f125 := Try.func38.trans (congrArg some (by kernel_rfl))
  f128 := Try.func48.trans (congrArg some (by kernel_rfl))
  f129 := Try.func49.trans (congrArg some (by kernel_rfl))
  t3 := Try.underlying3
  a3 := Try.isAgg3
  z3 := Try.sizeOf3
  v3 := Try.zeroValue3
  t4 := Try.underlying4
  a4 := Try.isAgg4
  z4 := Try.sizeOf4
  v4 := Try.zeroValue4
  t5 := Try.underlying5
  a5 := Try.isAgg5
  z5 := Try.sizeOf5
  v5 := Try.zeroValue5
  t9 := Try.underlying9
  a9 := Try.isAgg9
  z9 := Try.sizeOf9
  v9 := Try.zeroValue9
  t46 := Try.underlying49
  a46 := Try.isAgg49
  z46 := Try.sizeOf49
  v46 := Try.zeroValue49
  t51 := Try.underlying69
  a51 := Try.isAgg69
  z51 := Try.sizeOf69
  v51 := Try.zeroValue69
  t53 := Try.underlying71
  a53 := Try.isAgg71
  z53 := Try.sizeOf71
  v53 := Try.zeroValue71 }
def Try.lays41_ren : Go.Shelf.Ren := ⟨fun | 41 => 35 | n => n, fun | 22 => 44 | 23 => 53 | 4 => 4 | n => n, fun | n => n⟩
theorem Try.lays41 : Go.Proofs.SlLaysE0.n41 Try.prog Try.lays41_ren := {
  mixed := by kernel_rfl
  f41 := ⟨Try.f35.name, by decide, Try.func35.trans (congrArg some (by kernel_rfl))⟩
  t4 := Try.underlying4
  a4 := Try.isAgg4
  z4 := Try.sizeOf4
  v4 := Try.zeroValue4
  t22 := Try.underlying44
  a22 := Try.isAgg44
  z22 := Try.sizeOf44
  v22 := Try.zeroValue44 }
end Go.Proofs
