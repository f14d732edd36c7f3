/-
  No cell of these rows narrows 'for every input' (looked for: loops, veiled, ifaces, maps, wideKeys, modest, calm, conditions, laid).
  DERIVED. THE GIVEN ROWS OF THIS SEAT. 3 by the template 'for every input the law returns true; each argument reads behind the call as it read before'; 0 by the template 'total and deterministic' (their statements: Qxb6613201aTotals.lean).
  GIVEN WITH THE SEED: the statements are not yours to turn. If you find one false, say at which input.
  Laid BY PROGRAM, IN A SANDBOX (cutbox-rows.mjs): the forced cells as the released guide's own fill.sh prints them over the translation fa9c99d031cd51df… (all of the seat's roots in one cut). By AI agents, Wed Nov 11 2026. No macro, syntax, notation, axiom, sorry.
-/
import Derived.Test.Qxb6613201aChecked
import GoSem.Claim
import GoSem.ClaimJoined
import GoSem.ClaimMapViews
import Derived.JoinedTies
import Derived.KernelRfl
namespace Go.Proofs.Qxb6613201a
/- THE CELL 'sum', in the pinned program and in every row, IS THE sha256 OF THE DUMP (.gsa) THAT Qxb6613201aProg.lean LOADS. Nothing in Lean hashes anything: it is a label: what it is worth is what the hold of that sum in a sandbox is worth. -/
noncomputable def Try.pinned : Pinned := { name := "qxb6613201a", sum := "fa9c99d031cd51dfa5ab6a8a97fc87b3cd80380a8b27db37d9c2bd4e562e21d2", checked := Try.checked }
namespace Rows
def none {H : Type} : Left H := { results := [], args := [] }

/-- 'zzlaws_internal_kv_b1.FnAddIndexWalksKeysInOrder': WHATEVER THE INPUT: true; the input reads as it did. -/
def fnAddIndexWalksKeysInOrderSpec : ChangeSpec := { name := "fnAddIndexWalksKeysInOrder", fn := fun _ => fun
  | [d] => { results := [.lit (.bool true)], args := [d] }
  | _ => none }
def fnAddIndexWalksKeysInOrderRow : OpenClaim := { program := "qxb6613201a", sum := "fa9c99d031cd51dfa5ab6a8a97fc87b3cd80380a8b27db37d9c2bd4e562e21d2", func := "example.com/concordat/concordat/zzlaws_internal_kv_b1.FnAddIndexWalksKeysInOrder", spec := "fnAddIndexWalksKeysInOrder", inPlace := ["sync/atomic.LoadUint64", "slices.overlaps[example.com/concordat/concordat/internal/kv.recordRef]", "slices.overlaps[*example.com/concordat/concordat/internal/kv.node]", "slices.overlaps[string]"], unfollowed := true, recurses := true, apart := false }
def FnAddIndexWalksKeysInOrderSaid : Prop := fnAddIndexWalksKeysInOrderRow.holds Try.pinned (OpenSpec.ofChange fnAddIndexWalksKeysInOrderSpec)

/-- ITS FALSE NEIGHBOUR: 'it returns false'. Refute it at one input. -/
def fnAddIndexWalksKeysInOrderWrong : ChangeSpec := { name := "fnAddIndexWalksKeysInOrder", fn := fun _ => fun
  | [d] => { results := [.lit (.bool false)], args := [d] }
  | _ => none }
def FnAddIndexWalksKeysInOrderWrongFalsely : Prop := fnAddIndexWalksKeysInOrderRow.holds Try.pinned (OpenSpec.ofChange fnAddIndexWalksKeysInOrderWrong)

/-- 'zzlaws_internal_kv_b1.FnAddThenEveryKeyIsFound': WHATEVER THE INPUT: true; the input reads as it did. -/
def fnAddThenEveryKeyIsFoundSpec : ChangeSpec := { name := "fnAddThenEveryKeyIsFound", fn := fun _ => fun
  | [d1, d2] => { results := [.lit (.bool true)], args := [d1, d2] }
  | _ => none }
def fnAddThenEveryKeyIsFoundRow : OpenClaim := { program := "qxb6613201a", sum := "fa9c99d031cd51dfa5ab6a8a97fc87b3cd80380a8b27db37d9c2bd4e562e21d2", func := "example.com/concordat/concordat/zzlaws_internal_kv_b1.FnAddThenEveryKeyIsFound", spec := "fnAddThenEveryKeyIsFound", inPlace := ["sync/atomic.LoadUint64", "slices.overlaps[example.com/concordat/concordat/internal/kv.recordRef]", "slices.overlaps[*example.com/concordat/concordat/internal/kv.node]", "slices.overlaps[string]"], unfollowed := true, recurses := true, apart := false }
def FnAddThenEveryKeyIsFoundSaid : Prop := fnAddThenEveryKeyIsFoundRow.holds Try.pinned (OpenSpec.ofChange fnAddThenEveryKeyIsFoundSpec)

/-- ITS FALSE NEIGHBOUR: 'it returns false'. Refute it at one input. -/
def fnAddThenEveryKeyIsFoundWrong : ChangeSpec := { name := "fnAddThenEveryKeyIsFound", fn := fun _ => fun
  | [d1, d2] => { results := [.lit (.bool false)], args := [d1, d2] }
  | _ => none }
def FnAddThenEveryKeyIsFoundWrongFalsely : Prop := fnAddThenEveryKeyIsFoundRow.holds Try.pinned (OpenSpec.ofChange fnAddThenEveryKeyIsFoundWrong)

/-- 'zzlaws_internal_kv_b1.FnViewReadsTheKeysWrittenBeforeIt': WHATEVER THE INPUT: true; the input reads as it did. -/
def fnViewReadsTheKeysWrittenBeforeItSpec : ChangeSpec := { name := "fnViewReadsTheKeysWrittenBeforeIt", fn := fun _ => fun
  | [d] => { results := [.lit (.bool true)], args := [d] }
  | _ => none }
def fnViewReadsTheKeysWrittenBeforeItRow : OpenClaim := { program := "qxb6613201a", sum := "fa9c99d031cd51dfa5ab6a8a97fc87b3cd80380a8b27db37d9c2bd4e562e21d2", func := "example.com/concordat/concordat/zzlaws_internal_kv_b1.FnViewReadsTheKeysWrittenBeforeIt", spec := "fnViewReadsTheKeysWrittenBeforeIt", inPlace := ["sync/atomic.LoadUint64", "slices.overlaps[example.com/concordat/concordat/internal/kv.recordRef]", "slices.overlaps[*example.com/concordat/concordat/internal/kv.node]", "slices.overlaps[string]", "sync/atomic.AddUint64"], unfollowed := true, recurses := true, apart := false }
def FnViewReadsTheKeysWrittenBeforeItSaid : Prop := fnViewReadsTheKeysWrittenBeforeItRow.holds Try.pinned (OpenSpec.ofChange fnViewReadsTheKeysWrittenBeforeItSpec)

/-- ITS FALSE NEIGHBOUR: 'it returns false'. Refute it at one input. -/
def fnViewReadsTheKeysWrittenBeforeItWrong : ChangeSpec := { name := "fnViewReadsTheKeysWrittenBeforeIt", fn := fun _ => fun
  | [d] => { results := [.lit (.bool false)], args := [d] }
  | _ => none }
def FnViewReadsTheKeysWrittenBeforeItWrongFalsely : Prop := fnViewReadsTheKeysWrittenBeforeItRow.holds Try.pinned (OpenSpec.ofChange fnViewReadsTheKeysWrittenBeforeItWrong)

end Rows
end Go.Proofs.Qxb6613201a
