/-
  DERIVED: THE SHELF's CONTRACTS AT THIS DUMP, IN PLAIN WORDS (tools/lay-plain.mjs out of 'TryShelf.lean', which tools/lay-shelf.mjs wrote): THE SAME DECLARATIONS UNDER THE SAME NAMES: 'import', 'namespace', 'open', 'def', 'theorem' AND NOTHING ELSE: no command of the shelf's: FOR A HAND-IN. Each laying: the table of numbers ('.._ren') and one theorem, a field a fact of the dump's own or the kernel's comparison; each contract: ONE APPLICATION.
-/

import Derived.Shelf.Bin.Uvarint
import Derived.Test.Qxb6613201aProg
namespace Go.Proofs
open Go.Shelf
def Try.laysBin45_ren : Go.Shelf.Ren := ⟨fun | 45 => 51 | n => n, fun | 22 => 58 | 33 => 53 | 3 => 3 | 45 => 97 | 0 => 0 | 5 => 5 | 4 => 4 | n => n, fun | n => n⟩
theorem Try.laysBin45 : Go.Proofs.LaysBin.n45 Try.prog Try.laysBin45_ren := {
  mixed := by kernel_rfl
  f45 := Try.func51.trans (congrArg some (by kernel_rfl))
  t0 := Try.underlying0
  a0 := Try.isAgg0
  z0 := Try.sizeOf0
  v0 := Try.zeroValue0
  i0 := by kernel_rfl
  t3 := Try.underlying3
  a3 := Try.isAgg3
  z3 := Try.sizeOf3
  v3 := Try.zeroValue3
  i3 := by kernel_rfl
  t4 := Try.underlying4
  a4 := Try.isAgg4
  z4 := Try.sizeOf4
  v4 := Try.zeroValue4
  i4 := by kernel_rfl
  t5 := Try.underlying5
  a5 := Try.isAgg5
  z5 := Try.sizeOf5
  v5 := Try.zeroValue5
  i5 := by kernel_rfl
  t22 := Try.underlying58
  a22 := Try.isAgg58
  z22 := Try.sizeOf58
  v22 := Try.zeroValue58
  i22 := by kernel_rfl
  t33 := Try.underlying53
  a33 := Try.isAgg53
  z33 := Try.sizeOf53
  v33 := Try.zeroValue53
  i33 := by kernel_rfl
  t45 := Try.underlying97
  a45 := Try.isAgg97
  z45 := Try.sizeOf97
  v45 := Try.zeroValue97
  i45 := by kernel_rfl }
open Go.RowKit in
/-- binary.Uvarint: both results are those of Lib.uvarintDec over the bytes; the world is as it was. -/
theorem Try.binary_Uvarint (g o n c : Nat) (l : List UInt8) (w : World) (hl : l.length = n) (hcell : ∀ j (hj : j < l.length), w.cell? ⟨g, o + j, none⟩ = some (.int .u8 (l[j]).toNat)) :
    Calls Try.prog 51 #[.slice (some ⟨g, o, none⟩) n c] w fun e w' => e = .returned (.tuple #[.int .u64 (Lib.uvarintDec l).1, .int .i64 (Lib.uvarintDec l).2]) ∧ w' = w := Any.binary_Uvarint Try.laysBin45 g o n c l w hl hcell
end Go.Proofs
