/- 'FnViewReadsTheKeysWrittenBeforeIt': the row. -/
import Derived.Test.Qxb6613201aLaw5
import Derived.ProofKit
import Derived.OpenShut
import Derived.SliceStrings
import Derived.Carry
set_option linter.unusedVariables false
namespace Go.Proofs.Qxb6613201a
namespace ViewLaw
open Go.ChangeShapes Go.WideShapes Go.ChangeAt Go.RowKit

theorem own : ownKnob Try.prog.godebug = none := by kernel_rfl
theorem laidOut : laidOutB Try.prog = true := by kernel_rfl
theorem readable : Try.prog.readableRec 22 = true := by kernel_rfl
theorem rowed : 22 < Try.prog.types.size := of_decide_eq_true (by kernel_rfl)
theorem cells9 : Try.prog.cellsOf 9 = 1 := by kernel_rfl

/-- The keys that the argument holds. -/
theorem keys_of {H : Type} {enc : TypeId × Value → H} {W : World} {oa : Option Addr} {n c0 : Nat} {d : DataW H} {ps : List MemPlace} (h : DataW.Trod enc Try.prog W 0 (fun _ => true) true 22 (.slice oa n c0) d ps) : ∃ K, KeysAt W oa n K := by
  obtain ⟨fuel, hf⟩ := h
  rcases open_strings Try.underlying22 Try.underlying9 cells9 hf with ⟨hcs, hx⟩ | ⟨a, len, cap, ss, hcs, _, hl, hm, hz, hx, hcell, hsz⟩
  · have hcs' : [Value.slice oa n c0] = [.slice none 0 0] := hcs
    simp only [List.cons.injEq, Value.slice.injEq, and_true] at hcs'
    exact ⟨fun _ => ByteArray.empty, fun j hj => by omega⟩
  · have hcs' : [Value.slice oa n c0] = [.slice (some a) len cap] := hcs
    simp only [List.cons.injEq, Value.slice.injEq, and_true] at hcs'
    obtain ⟨rfl, rfl, rfl⟩ := hcs'
    refine ⟨fun j => ss.getD j ByteArray.empty, fun j hj => ⟨a, rfl, hcell j ?_⟩⟩
    rw [hz]; simp; omega

set_option maxRecDepth 100000 in
theorem lifted (os : Os) (started : os.Started) (H : Type) (enc : TypeId × Value → H) :
    ReturnsInHanded {} Try.checked os 5 .any (Rows.fnViewReadsTheKeysWrittenBeforeItSpec.pre6 enc Try.prog Try.f5 Rows.fnViewReadsTheKeysWrittenBeforeItRow.domain false) (Rows.fnViewReadsTheKeysWrittenBeforeItSpec.post enc Try.prog Try.f5 false true false false) := by
  refine returnsInHanded_of_change (C := Try.checked) own started (by kernel_rfl) Try.func5
    (ChangeSpec.witness6 (enc := enc) (C := Try.checked) false ⟨#[], #[.slice none 0 0], []⟩ 8 (by kernel_rfl) (by kernel_rfl) (by kernel_rfl) (by kernel_rfl)) ?_
  intro W base args ds gs before hval0 hW hcnd _
  have hval : ∀ (j : Nat) t v, Try.f5.params[j]? = some t → args[j]? = some v → Value.okWide Try.prog W .any base t v := hval0
  have hW' := hW
  obtain ⟨p, q, hA0, hV, rfl, hfz, hnd⟩ := hW
  have hA : DataW.TrodAll enc Try.prog W 0 (fun _ => true) true Try.f5.params.toList args.toList ds p := hA0
  rw [Try.params5] at hA hval
  obtain ⟨v0, d0, rfl, rfl, h0⟩ := trodAll_one hA
  obtain ⟨rfl, rfl⟩ := trodVars_none hV
  obtain ⟨oa, n, c0, rfl⟩ := okWide_slice Try.underlying22 (hval 0 22 v0 rfl rfl)
  obtain ⟨K, hk⟩ := keys_of h0
  clear hA0 hval0
  refine (law5 oa n c0 K W hk).mono fun e W' ⟨he, hx⟩ => ?_
  subst he
  have hb : Below W.heap.size W W' := hx.below
  exact ⟨_, rfl, _, _, _, [], _, [], hW', trodAll_mk1 (shut_bool Try.underlying4 true), trodAll_mk1 (Below.trod laidOut readable rowed h0 hb (fun x hx => hW'.lt x (by simpa using hx))), rfl, hb.frame _, fun h => by cases h⟩

theorem over : Rows.fnViewReadsTheKeysWrittenBeforeItRow.holds Try.pinned (OpenSpec.ofChange Rows.fnViewReadsTheKeysWrittenBeforeItSpec) :=
  OpenClaim.holds_of_wide 5 Try.f5 rfl rfl rfl rfl rfl rfl rfl ⟨rfl, rfl, rfl, rfl, rfl⟩ rfl rfl rfl rfl rfl (by kernel_rfl) Try.func5 (by kernel_rfl)
    (of_decide_eq_true (by kernel_rfl)) (by unfold Func.isWrapper; first | (rw [if_pos (by decide +kernel)]; kernel_rfl) | (rw [if_neg (by decide +kernel)]; exact ⟨rfl, rfl⟩))
    (fun os started H enc _ => lifted os started H enc)

/-- THE STATEMENT. -/
theorem proved : Rows.FnViewReadsTheKeysWrittenBeforeItSaid :=
  over
#print axioms proved
end ViewLaw
end Go.Proofs.Qxb6613201a
