/-
  No cell of these rows narrows 'for every input' (looked for: loops, veiled, ifaces, maps, wideKeys, modest, calm, conditions, laid).
  DERIVED. THE GIVEN ROWS OF THIS SEAT. 1 by the template 'for every input the law returns true; each argument reads behind the call as it read before'; 0 by the template 'total and deterministic' (their statements: Qxb6613387aTotals.lean).
  GIVEN WITH THE SEED: the statements are not yours to turn. If you find one false, say at which input.
  Laid BY PROGRAM, IN A SANDBOX (cutbox-rows.mjs): the forced cells as the released guide's own fill.sh prints them over the translation aef437b8d1bef1d9… (all of the seat's roots in one cut). By AI agents, Wed Nov 11 2026. No macro, syntax, notation, axiom, sorry.
-/
import Derived.Test.Qxb6613387aChecked
import GoSem.Claim
import GoSem.ClaimJoined
import GoSem.ClaimMapViews
import Derived.JoinedTies
import Derived.KernelRfl
namespace Go.Proofs.Qxb6613387a
/- THE CELL 'sum', in the pinned program and in every row, IS THE sha256 OF THE DUMP (.gsa) THAT Qxb6613387aProg.lean LOADS. Nothing in Lean hashes anything: it is a label: what it is worth is what the hold of that sum in a sandbox is worth. -/
noncomputable def Try.pinned : Pinned := { name := "qxb6613387a", sum := "aef437b8d1bef1d9dfaba90105de4552efe0b4a3f9a0fca3d054c67c96055188", checked := Try.checked }
namespace Rows
def none {H : Type} : Left H := { results := [], args := [] }

/-- 'zzlaws_root_b1.FnQuotableAbsorbsWhatFollowsItsQuote': WHATEVER THE INPUT: true; the input reads as it did. -/
def fnQuotableAbsorbsWhatFollowsItsQuoteSpec : ChangeSpec := { name := "fnQuotableAbsorbsWhatFollowsItsQuote", fn := fun _ => fun
  | [d1, d2] => { results := [.lit (.bool true)], args := [d1, d2] }
  | _ => none }
def fnQuotableAbsorbsWhatFollowsItsQuoteRow : OpenClaim := { program := "qxb6613387a", sum := "aef437b8d1bef1d9dfaba90105de4552efe0b4a3f9a0fca3d054c67c96055188", func := "example.com/objectwell/objectwell/zzlaws_root_b1.FnQuotableAbsorbsWhatFollowsItsQuote", spec := "fnQuotableAbsorbsWhatFollowsItsQuote", apart := false }
def FnQuotableAbsorbsWhatFollowsItsQuoteSaid : Prop := fnQuotableAbsorbsWhatFollowsItsQuoteRow.holds Try.pinned (OpenSpec.ofChange fnQuotableAbsorbsWhatFollowsItsQuoteSpec)

/-- ITS FALSE NEIGHBOUR: 'it returns false'. Refute it at one input. -/
def fnQuotableAbsorbsWhatFollowsItsQuoteWrong : ChangeSpec := { name := "fnQuotableAbsorbsWhatFollowsItsQuote", fn := fun _ => fun
  | [d1, d2] => { results := [.lit (.bool false)], args := [d1, d2] }
  | _ => none }
def FnQuotableAbsorbsWhatFollowsItsQuoteWrongFalsely : Prop := fnQuotableAbsorbsWhatFollowsItsQuoteRow.holds Try.pinned (OpenSpec.ofChange fnQuotableAbsorbsWhatFollowsItsQuoteWrong)

end Rows
end Go.Proofs.Qxb6613387a
