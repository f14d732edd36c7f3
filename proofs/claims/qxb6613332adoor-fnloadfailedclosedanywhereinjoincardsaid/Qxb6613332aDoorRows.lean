/-
  NARROWER THAN 'FOR EVERY INPUT', by the rows' own cells (each row's printed sentence says how): FnLoadFailedByIdentityNotText: ifaces, laid · FnLoadFailedClosedAnywhereInJoin: ifaces, laid.
  DERIVED. THE GIVEN ROWS OF THIS SEAT. 2 by the template 'for every input the law returns true; each argument reads behind the call as it read before'; 0 by the template 'total and deterministic' (their statements: Qxb6613332aDoorTotals.lean).
  GIVEN WITH THE SEED: the statements are not yours to turn. If you find one false, say at which input.
  Laid BY PROGRAM, IN A SANDBOX (cutbox-rows.mjs): the forced cells as the released guide's own fill.sh prints them over the translation 4830bf3048498790… (all of the seat's roots in one cut). By AI agents, Wed Nov 11 2026. No macro, syntax, notation, axiom, sorry.
-/
import Derived.Test.Qxb6613332aDoorChecked
import GoSem.Claim
import GoSem.ClaimJoined
import GoSem.ClaimMapViews
import Derived.JoinedTies
import Derived.KernelRfl
namespace Go.Proofs.Qxb6613332aDoor
/- THE CELL 'sum', in the pinned program and in every row, IS THE sha256 OF THE DUMP (.gsa) THAT Qxb6613332aDoorProg.lean LOADS. Nothing in Lean hashes anything: it is a label: what it is worth is what the hold of that sum in a sandbox is worth. -/
noncomputable def Tryd.pinned : Pinned := { name := "qxb6613332adoor", sum := "4830bf3048498790781f23dbbc7e1ecbeea41e7506348f089761ceec00b816b3", checked := Tryd.checked }
namespace Rows
def none {H : Type} : Left H := { results := [], args := [] }

/- WHAT THE LISTED PACKAGE-LEVEL VARIABLES READ AS WHEN THE CALL BEGINS. Each datum BY PROGRAM (the guide's laid-datum.mjs) off the statement by which the dump's own 'gosem.cut.vars' lays the variable. In a bare row this is a premise. The card (Qxb6613332aDoorCards.lean) ties it to the program's text. -/
def laid_example_com_calmcache_calmcache_errClosed {H : Type} : DataW H := .iface "*errors.errorString" (.ptr (.agg [.lit (.string [99, 97, 108, 109, 99, 97, 99, 104, 101, 58, 32, 99, 97, 99, 104, 101, 32, 105, 115, 32, 99, 108, 111, 115, 101, 100])]))

/-- 'zzlaws_root_b1.FnLoadFailedByIdentityNotText': WHATEVER THE INPUT: true; the input reads as it did. -/
def fnLoadFailedByIdentityNotTextSpec : ChangeSpec := { name := "fnLoadFailedByIdentityNotText", vars := ["example.com/calmcache/calmcache.errClosed"], fn := fun _ => fun
  | [d, g1] => { results := [.lit (.bool true)], args := [d], vars := [g1] }
  | _ => none }
def fnLoadFailedByIdentityNotTextRow : OpenClaim := { program := "qxb6613332adoor", sum := "4830bf3048498790781f23dbbc7e1ecbeea41e7506348f089761ceec00b816b3", func := "example.com/calmcache/calmcache/zzlaws_root_b1.FnLoadFailedByIdentityNotText", spec := "fnLoadFailedByIdentityNotText", inPlace := ["internal/reflectlite.TypeOf"], unfollowed := true, recurses := true, named := ["example.com/calmcache/calmcache.errClosed"], ifaces := true, apart := false, laid := [("example.com/calmcache/calmcache.errClosed", laid_example_com_calmcache_calmcache_errClosed)] }
def FnLoadFailedByIdentityNotTextSaid : Prop := fnLoadFailedByIdentityNotTextRow.holds Tryd.pinned (OpenSpec.ofChange fnLoadFailedByIdentityNotTextSpec)

/-- ITS FALSE NEIGHBOUR: 'it returns false'. Refute it at one input. -/
def fnLoadFailedByIdentityNotTextWrong : ChangeSpec := { name := "fnLoadFailedByIdentityNotText", vars := ["example.com/calmcache/calmcache.errClosed"], fn := fun _ => fun
  | [d, g1] => { results := [.lit (.bool false)], args := [d], vars := [g1] }
  | _ => none }
def FnLoadFailedByIdentityNotTextWrongFalsely : Prop := fnLoadFailedByIdentityNotTextRow.holds Tryd.pinned (OpenSpec.ofChange fnLoadFailedByIdentityNotTextWrong)

/-- 'zzlaws_root_b1.FnLoadFailedClosedAnywhereInJoin': WHATEVER THE INPUT: true; the input reads as it did. -/
def fnLoadFailedClosedAnywhereInJoinSpec : ChangeSpec := { name := "fnLoadFailedClosedAnywhereInJoin", vars := ["example.com/calmcache/calmcache.errClosed"], fn := fun _ => fun
  | [d, g1] => { results := [.lit (.bool true)], args := [d], vars := [g1] }
  | _ => none }
def fnLoadFailedClosedAnywhereInJoinRow : OpenClaim := { program := "qxb6613332adoor", sum := "4830bf3048498790781f23dbbc7e1ecbeea41e7506348f089761ceec00b816b3", func := "example.com/calmcache/calmcache/zzlaws_root_b1.FnLoadFailedClosedAnywhereInJoin", spec := "fnLoadFailedClosedAnywhereInJoin", inPlace := ["internal/reflectlite.TypeOf"], unfollowed := true, recurses := true, named := ["example.com/calmcache/calmcache.errClosed"], ifaces := true, apart := false, laid := [("example.com/calmcache/calmcache.errClosed", laid_example_com_calmcache_calmcache_errClosed)] }
def FnLoadFailedClosedAnywhereInJoinSaid : Prop := fnLoadFailedClosedAnywhereInJoinRow.holds Tryd.pinned (OpenSpec.ofChange fnLoadFailedClosedAnywhereInJoinSpec)

/-- ITS FALSE NEIGHBOUR: 'it returns false'. Refute it at one input. -/
def fnLoadFailedClosedAnywhereInJoinWrong : ChangeSpec := { name := "fnLoadFailedClosedAnywhereInJoin", vars := ["example.com/calmcache/calmcache.errClosed"], fn := fun _ => fun
  | [d, g1] => { results := [.lit (.bool false)], args := [d], vars := [g1] }
  | _ => none }
def FnLoadFailedClosedAnywhereInJoinWrongFalsely : Prop := fnLoadFailedClosedAnywhereInJoinRow.holds Tryd.pinned (OpenSpec.ofChange fnLoadFailedClosedAnywhereInJoinWrong)

end Rows
end Go.Proofs.Qxb6613332aDoor
