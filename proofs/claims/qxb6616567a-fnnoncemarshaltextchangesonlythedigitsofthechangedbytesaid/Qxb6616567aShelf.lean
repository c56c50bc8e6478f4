/-
  DERIVED: THE SHELF's CONTRACTS AT THIS DUMP, IN PLAIN WORDS (tools/lay-plain.mjs out of 'TryShelf.lean', which tools/lay-shelf.mjs wrote): THE SAME DECLARATIONS UNDER THE SAME NAMES: 'import', 'namespace', 'open', 'def', 'theorem' AND NOTHING ELSE: no command of the shelf's: FOR A HAND-IN. Each laying: the table of numbers ('.._ren') and one theorem, a field a fact of the dump's own or the kernel's comparison; each contract: ONE APPLICATION.
-/
import Derived.Shelf.Hex.More
import Derived.Test.Qxb6616567aProg
namespace Go.Proofs
open Go.Shelf
def Try.laysPah39_ren : Go.Shelf.Ren := ⟨fun | 39 => 14 | 41 => 15 | 40 => 16 | n => n, fun | 30 => 49 | 9 => 9 | 3 => 3 | 0 => 0 | 5 => 5 | 46 => 62 | n => n, fun | n => n⟩
theorem Try.laysPah39 : Go.Proofs.Lays.ph39 Try.prog Try.laysPah39_ren := {
  mixed := by kernel_rfl
  f39 := Try.func14.trans (congrArg some (by kernel_rfl))
  f40 := Try.func16.trans (congrArg some (by kernel_rfl))
  f41 := Try.func15.trans (congrArg some (by kernel_rfl))
  t0 := Try.underlying0
  a0 := Try.isAgg0
  z0 := Try.sizeOf0
  v0 := Try.zeroValue0
  t3 := Try.underlying3
  a3 := Try.isAgg3
  z3 := Try.sizeOf3
  v3 := Try.zeroValue3
  t5 := Try.underlying5
  a5 := Try.isAgg5
  z5 := Try.sizeOf5
  v5 := Try.zeroValue5
  t9 := Try.underlying9
  a9 := Try.isAgg9
  z9 := Try.sizeOf9
  v9 := Try.zeroValue9
  t30 := Try.underlying49
  a30 := Try.isAgg49
  z30 := Try.sizeOf49
  v30 := Try.zeroValue49
  t46 := Try.underlying62
  a46 := Try.isAgg62
  z46 := Try.sizeOf62
  v46 := Try.zeroValue62
  info5 := by kernel_rfl }
end Go.Proofs
