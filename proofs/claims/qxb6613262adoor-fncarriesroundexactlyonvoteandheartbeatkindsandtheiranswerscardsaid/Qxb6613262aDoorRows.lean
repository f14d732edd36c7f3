/-
  NARROWER THAN 'FOR EVERY INPUT', by the rows' own cells (each row's printed sentence says how): FnCarriesRoundExactlyOnVoteAndHeartbeatKindsAndTheirAnswers: laid.
  DERIVED. THE GIVEN ROWS OF THIS SEAT. 1 by the template 'for every input the law returns true; each argument reads behind the call as it read before'; 0 by the template 'total and deterministic' (their statements: Qxb6613262aDoorTotals.lean).
  GIVEN WITH THE SEED: the statements are not yours to turn. If you find one false, say at which input.
  Laid BY PROGRAM, IN A SANDBOX (cutbox-rows.mjs): the forced cells as the released guide's own fill.sh prints them over the translation 90576d466127a311… (all of the seat's roots in one cut). By AI agents, Wed Nov 11 2026. No macro, syntax, notation, axiom, sorry.
-/
import Derived.Test.Qxb6613262aDoorChecked
import GoSem.Claim
import GoSem.ClaimJoined
import GoSem.ClaimMapViews
import Derived.JoinedTies
import Derived.KernelRfl
namespace Go.Proofs.Qxb6613262aDoor
/- THE CELL 'sum', in the pinned program and in every row, IS THE sha256 OF THE DUMP (.gsa) THAT Qxb6613262aDoorProg.lean LOADS. Nothing in Lean hashes anything: it is a label: what it is worth is what the hold of that sum in a sandbox is worth. -/
noncomputable def Tryd.pinned : Pinned := { name := "qxb6613262adoor", sum := "90576d466127a311e98ffcf7dda4813e963f356632160554eab07eb49dd15a52", checked := Tryd.checked }
namespace Rows
def none {H : Type} : Left H := { results := [], args := [] }

/- WHAT THE LISTED PACKAGE-LEVEL VARIABLES READ AS WHEN THE CALL BEGINS. Each datum BY PROGRAM (the guide's laid-datum.mjs) off the statement by which the dump's own 'gosem.cut.vars' lays the variable. In a bare row this is a premise. The card (Qxb6613262aDoorCards.lean) ties it to the program's text. -/
def laid_example_com_hustings_hustings_internal_election_kinds {H : Type} : DataW H := .agg [.agg [.lit (.string []), .lit (.bool false), .lit (.bool false), .lit (.bool false), .lit (.bool false), .lit (.bool false), .lit (.bool false)], .agg [.lit (.string [118, 111, 116, 101, 32, 114, 101, 113, 117, 101, 115, 116]), .lit (.bool false), .lit (.bool true), .lit (.bool true), .lit (.bool false), .lit (.bool true), .lit (.bool false)], .agg [.lit (.string [118, 111, 116, 101, 32, 114, 101, 115, 112, 111, 110, 115, 101]), .lit (.bool true), .lit (.bool true), .lit (.bool false), .lit (.bool false), .lit (.bool false), .lit (.bool false)], .agg [.lit (.string [104, 101, 97, 114, 116, 98, 101, 97, 116]), .lit (.bool false), .lit (.bool true), .lit (.bool false), .lit (.bool true), .lit (.bool true), .lit (.bool false)], .agg [.lit (.string [104, 101, 97, 114, 116, 98, 101, 97, 116, 32, 114, 101, 115, 112, 111, 110, 115, 101]), .lit (.bool false), .lit (.bool true), .lit (.bool false), .lit (.bool false), .lit (.bool false), .lit (.bool true)], .agg [.lit (.string [112, 114, 101, 45, 118, 111, 116, 101, 32, 114, 101, 113, 117, 101, 115, 116]), .lit (.bool false), .lit (.bool false), .lit (.bool false), .lit (.bool false), .lit (.bool false), .lit (.bool false)], .agg [.lit (.string [112, 114, 101, 45, 118, 111, 116, 101, 32, 114, 101, 115, 112, 111, 110, 115, 101]), .lit (.bool true), .lit (.bool false), .lit (.bool false), .lit (.bool false), .lit (.bool false), .lit (.bool false)], .agg [.lit (.string [116, 97, 107, 101, 45, 111, 118, 101, 114]), .lit (.bool false), .lit (.bool false), .lit (.bool false), .lit (.bool false), .lit (.bool false), .lit (.bool false)]]

/-- 'zzlaws_internal_election_b1.FnCarriesRoundExactlyOnVoteAndHeartbeatKindsAndTheirAnswers': WHATEVER THE INPUT: true; the input reads as it did. -/
def fnCarriesRoundExactlyOnVoteAndHeartbeatKindsAndTheirAnswersSpec : ChangeSpec := { name := "fnCarriesRoundExactlyOnVoteAndHeartbeatKindsAndTheirAnswers", vars := ["example.com/hustings/hustings/internal/election.kinds"], fn := fun _ => fun
  | [d, g1] => { results := [.lit (.bool true)], args := [d], vars := [g1] }
  | _ => none }
def fnCarriesRoundExactlyOnVoteAndHeartbeatKindsAndTheirAnswersRow : OpenClaim := { program := "qxb6613262adoor", sum := "90576d466127a311e98ffcf7dda4813e963f356632160554eab07eb49dd15a52", func := "example.com/hustings/hustings/zzlaws_internal_election_b1.FnCarriesRoundExactlyOnVoteAndHeartbeatKindsAndTheirAnswers", spec := "fnCarriesRoundExactlyOnVoteAndHeartbeatKindsAndTheirAnswers", named := ["example.com/hustings/hustings/internal/election.kinds"], apart := false, laid := [("example.com/hustings/hustings/internal/election.kinds", laid_example_com_hustings_hustings_internal_election_kinds)] }
def FnCarriesRoundExactlyOnVoteAndHeartbeatKindsAndTheirAnswersSaid : Prop := fnCarriesRoundExactlyOnVoteAndHeartbeatKindsAndTheirAnswersRow.holds Tryd.pinned (OpenSpec.ofChange fnCarriesRoundExactlyOnVoteAndHeartbeatKindsAndTheirAnswersSpec)

/-- ITS FALSE NEIGHBOUR: 'it returns false'. Refute it at one input. -/
def fnCarriesRoundExactlyOnVoteAndHeartbeatKindsAndTheirAnswersWrong : ChangeSpec := { name := "fnCarriesRoundExactlyOnVoteAndHeartbeatKindsAndTheirAnswers", vars := ["example.com/hustings/hustings/internal/election.kinds"], fn := fun _ => fun
  | [d, g1] => { results := [.lit (.bool false)], args := [d], vars := [g1] }
  | _ => none }
def FnCarriesRoundExactlyOnVoteAndHeartbeatKindsAndTheirAnswersWrongFalsely : Prop := fnCarriesRoundExactlyOnVoteAndHeartbeatKindsAndTheirAnswersRow.holds Tryd.pinned (OpenSpec.ofChange fnCarriesRoundExactlyOnVoteAndHeartbeatKindsAndTheirAnswersWrong)

end Rows
end Go.Proofs.Qxb6613262aDoor
