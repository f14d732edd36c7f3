/-
  DERIVED. GIVEN WITH THE SEED: THE CARDS: each row of Qxb6613332aDoorRows.lean that lists a variable, with what it lists TIED to the program's text (the seventh form; the later family's looks); each row that meets fmt, with fmt's text TOLD by the authors' own Lean function (tested against real Go, not proved from fmt's source: count such statements apart). THE CARD IS WHAT COUNTS. Prove the row's statement (the work); the ties are given (Qxb6613332aDoorTie.lean); close each card by the builder's one call (the guide's Derived/Test/ToyasCard.lean, 'card_holds'). Laid BY PROGRAM, IN A SANDBOX (cutbox-door.mjs). By AI agents, Wed Nov 11 2026. No macro, syntax, notation, axiom, sorry.
-/
import Derived.Test.Qxb6613332aDoorRows
import GoSem.ClaimSeven
namespace Go.Proofs.Qxb6613332aDoor
namespace Rows

/-- THE TIED CARD OF 'zzlaws_root_b1.FnLoadFailedByIdentityNotText'. -/
def fnLoadFailedByIdentityNotTextCard : Claim7 := { stood := { row := fnLoadFailedByIdentityNotTextRow, standIns := [], harness := (true, "755767c8ceae2aad88e6fcf6aa2c1560161c025ec79471fc3cadc6140d3302ef"), looks := true }, kinds := [], alts := [], laidByText := true, laidKinds := [.called], laidTests := true, laidLooks := .later }
def FnLoadFailedByIdentityNotTextCardSaid : Prop := Claim7.holds Tryd.pinned (.plain (OpenSpec.ofChange fnLoadFailedByIdentityNotTextSpec)) fnLoadFailedByIdentityNotTextCard

/-- THE TIED CARD OF 'zzlaws_root_b1.FnLoadFailedClosedAnywhereInJoin'. -/
def fnLoadFailedClosedAnywhereInJoinCard : Claim7 := { stood := { row := fnLoadFailedClosedAnywhereInJoinRow, standIns := [], harness := (true, "755767c8ceae2aad88e6fcf6aa2c1560161c025ec79471fc3cadc6140d3302ef"), looks := true }, kinds := [], alts := [], laidByText := true, laidKinds := [.called], laidTests := true, laidLooks := .later }
def FnLoadFailedClosedAnywhereInJoinCardSaid : Prop := Claim7.holds Tryd.pinned (.plain (OpenSpec.ofChange fnLoadFailedClosedAnywhereInJoinSpec)) fnLoadFailedClosedAnywhereInJoinCard
end Rows
end Go.Proofs.Qxb6613332aDoor
