/-
  DERIVED. GIVEN WITH THE SEED: THE CARDS: each row of Qxb6613262aDoorRows.lean that lists a variable, with what it lists TIED to the program's text (the seventh form; the later family's looks); each row that meets fmt, with fmt's text TOLD by the authors' own Lean function (tested against real Go, not proved from fmt's source: count such statements apart). THE CARD IS WHAT COUNTS. Prove the row's statement (the work); the ties are given (Qxb6613262aDoorTie.lean); close each card by the builder's one call (the guide's Derived/Test/ToyasCard.lean, 'card_holds'). Laid BY PROGRAM, IN A SANDBOX (cutbox-door.mjs). By AI agents, Wed Nov 11 2026. No macro, syntax, notation, axiom, sorry.
-/
import Derived.Test.Qxb6613262aDoorRows
import GoSem.ClaimSeven
namespace Go.Proofs.Qxb6613262aDoor
namespace Rows

/-- THE TIED CARD OF 'zzlaws_internal_election_b1.FnCarriesRoundExactlyOnVoteAndHeartbeatKindsAndTheirAnswers'. -/
def fnCarriesRoundExactlyOnVoteAndHeartbeatKindsAndTheirAnswersCard : Claim7 := { stood := { row := fnCarriesRoundExactlyOnVoteAndHeartbeatKindsAndTheirAnswersRow, standIns := [], harness := (true, "e6219c3feefe6719a208099885c503ca2333d0b4af20bde8f57c388b65b9078c"), looks := false }, kinds := [], alts := [], laidByText := true, laidKinds := [.data], laidTests := true, laidLooks := .later }
def FnCarriesRoundExactlyOnVoteAndHeartbeatKindsAndTheirAnswersCardSaid : Prop := Claim7.holds Tryd.pinned (.plain (OpenSpec.ofChange fnCarriesRoundExactlyOnVoteAndHeartbeatKindsAndTheirAnswersSpec)) fnCarriesRoundExactlyOnVoteAndHeartbeatKindsAndTheirAnswersCard
end Rows
end Go.Proofs.Qxb6613262aDoor
