/- 'FnLoadFailedClosedAnywhereInJoin': the law's walk, the row, the tied card. -/
import Derived.Test.Qxb6613332aDoorLdWalks
import Derived.Test.Qxb6613332aDoorTie
import Derived.Test.Qxb6613332aDoorCards
import Derived.ProofKit
import Derived.OpenShut
import Derived.OpenVars
import Derived.LaidMore
import Derived.LaidHandle
import Derived.SevenTiedAt
import Derived.Stop.LaidErr
import Derived.Stop.Joined
namespace Go.Proofs.Qxb6613332aDoor
open Go.ChangeShapes Go.WideShapes Go.ChangeAt Go.RowKit
open Go.ChangeMaps (open_string shut_string)

namespace Ld
theorem bytes_any (s : ByteArray) (w0 : s.size ≤ maxLen) (w : World) :
    Calls Tryd.prog 10 #[.string s] w fun e w' => (∃ b, e = .returned (.bool b)) ∧ w' = w := by
  unfold maxLen at w0
  go_enter Tryd.func10, Tryd.ntmps10
  go_wp2
  all_goals
    go_ret
    exact ⟨⟨_, rfl⟩, rfl⟩

set_option maxHeartbeats 400000 in
theorem law_any (s : ByteArray) (w0 : s.size ≤ maxLen) (b : Addr) (cb : Array Value) (tb : TypeId) (w : World) (S : Sent w b cb tb) :
    Calls Tryd.prog 4 #[.string s] w fun e w' => e = .returned (.bool true) ∧ Below w.heap.size w w' := by
  have HS : Hid (Sent w b cb tb) := S
  clear S
  go_enter Tryd.func4, Tryd.ntmps4
  go_wp2_with (go_at_call 10; refine (bytes_any _ w0 _).mono ?_; rintro e w' ⟨⟨bb, rfl⟩, rfl⟩; cases bb)
  any_goals (go_ret; exact ⟨rfl, Below.refl _ _⟩)
  refine (text_any s b cb tb _ HS.out).mono ?_
  rintro e w1 ⟨rfl, hb1⟩
  have H1 : Hid (Below _ _ _) := hb1
  clear hb1
  go_wp2_with fail
  refine (jointext_any s b cb tb _ (HS.out.below H1.out)).mono ?_
  rintro e w2 ⟨rfl, hb2⟩
  have H2 : Hid (Below _ _ _) := H1.out.trans (hb2.mono H1.out.size)
  clear hb2
  go_wp2_with fail
  refine (textclosed_any s b cb tb _ (HS.out.below H2.out)).mono ?_
  rintro e w3 ⟨rfl, hb3⟩
  have H3 : Hid (Below _ _ _) := H2.out.trans (hb3.mono H2.out.size)
  clear hb3
  go_wp2_with fail
  refine (closedtext_any s b cb tb _ (HS.out.below H3.out)).mono ?_
  rintro e w4 ⟨rfl, hb4⟩
  have H4 : Hid (Below _ _ _) := H3.out.trans (hb4.mono H3.out.size)
  clear hb4
  go_wp2_with fail
  go_ret
  exact ⟨rfl, H4.out⟩

theorem own : ownKnob Tryd.prog.godebug = none := by kernel_rfl
theorem laidOut : laidOutB Tryd.prog = true := by kernel_rfl
def laid : List (String × DataW Unit) := Rows.fnLoadFailedClosedAnywhereInJoinRow.laid
def errName : String := Rows.fnLoadFailedClosedAnywhereInJoinSpec.vars.headD ""
theorem gErr : Tryd.prog.globalNamed errName = some 0 := by kernel_rfl
theorem tErr : (Tryd.prog.globals[0]?).map (·.type) = some 26 := by kernel_rfl
theorem cells33 : Tryd.prog.cellsOf 33 = 1 := by kernel_rfl
theorem cells9 : Tryd.prog.cellsOf 9 = 1 := by kernel_rfl
theorem rowed : varsRowed Tryd.prog [errName] = true := by kernel_rfl

/-- WHAT THE CONDITION GIVES THE WALK. -/
theorem of_laid {W : World} (h : laidMetH Tryd.prog laid W) : ∃ b cb tb, Sent W b cb tb := by
  rw [MakeChecks.laidMetH_plain _ _ _ (by kernel_rfl)] at h
  obtain ⟨ps, ⟨g0, t0, cs0, f0, p0, q0, hg0, ht0, hv0, hd0, _, e0⟩, _, hrows⟩ := h
  obtain rfl := Option.some.inj (gErr.symm.trans hg0)
  obtain rfl := Option.some.inj (tErr.symm.trans ht0)
  subst e0
  obtain ⟨l0⟩ := cs0
  have ok0 : ∀ u v, l0 = [.iface u v] → Value.okWide Tryd.prog W .any 0 u v := fun u v e => by
    subst e
    exact (hrows 0 0 (by simp [MemPlace.row])).2 u v (by simpa using World.var?_cell hg0 hv0 0)
  obtain ⟨a0, s0, rfl, hc0, hs0, hz0, rfl⟩ := errorString_of_trod (tp := 31) Tryd.underlying26 (fun u hu => typeName_ptr_named (nm := "errors.errorString") (by kernel_rfl) (by kernel_rfl) (by decide) u (hu.trans (congrArg some (by decide))))
    Tryd.underlying31 Tryd.underlying33 rfl rfl Tryd.underlying9 cells33 cells9 hd0 ok0
  obtain ⟨c0, t0, hb0⟩ := (hrows a0.block a0.off (by simp [MemPlace.row])).1
  exact ⟨a0, c0, t0, ⟨by simpa using World.var?_cell hg0 hv0 0, hb0⟩⟩

/-- The door's own heap meets the condition. -/
theorem door_met (os : Os) (args : Array Value) : laidMetH Tryd.prog laid ((World.doorLaid Tryd.prog 400 os).forCall (fun _ _ => 0) ⟨#[], args, []⟩).memory :=
  laidMetH_of_parts3 (fuel := 8) (laidMet_of_run' 8 (by kernel_rfl) (by kernel_rfl)) (by kernel_rfl) (by kernel_rfl)

set_option maxRecDepth 100000 in
theorem lifted (os : Os) (started : os.Started) (H : Type) (enc : TypeId × Value → H) :
    ReturnsInHanded {} Tryd.checked os 4 .any (fun w args => (Rows.fnLoadFailedClosedAnywhereInJoinSpec.pre enc Tryd.prog Tryd.f4 [] false w args ∧ laidMetH Tryd.prog laid w) ∧ sizedMet enc Tryd.prog Tryd.f4 (OpenSpec.ofChange Rows.fnLoadFailedClosedAnywhereInJoinSpec) false w args)
      (Rows.fnLoadFailedClosedAnywhereInJoinSpec.post enc Tryd.prog Tryd.f4 false true false false) := by
  refine returnsInHanded_of_change_and (C := Tryd.checked) (X := fun w _ => laidMetH Tryd.prog laid w) (fun _ _ _ hh h => h.of_heap hh) own started (by kernel_rfl) Tryd.func4
    (ChangeSpec.witness_shaped (enc := enc) (C := Tryd.checked) (os := os) (X := fun w _ => laidMetH Tryd.prog laid w) false (World.doorLaid Tryd.prog 400 os) #[.string ByteArray.empty] 8 rfl (World.shaped_of_RefB (by kernel_rfl) (by kernel_rfl)) (by kernel_rfl) (by kernel_rfl) (by kernel_rfl) (door_met os _)) ?_
  intro W base args ds gs before hval0 hW _ _ hL _
  have hval : ∀ (j : Nat) t v, Tryd.f4.params[j]? = some t → args[j]? = some v → Value.okWide Tryd.prog W .any base t v := hval0
  have hW' := hW
  obtain ⟨p, q, hA0, hV0, rfl, hfz, hnd⟩ := hW
  have hA : DataW.TrodAll enc Tryd.prog W 0 (fun _ => true) true Tryd.f4.params.toList args.toList ds p := hA0
  have hV : DataW.TrodVars enc Tryd.prog W (fun _ => true) [errName] gs q := hV0
  rw [Tryd.params4] at hA hval
  obtain ⟨v0, d0, rfl, rfl, h0⟩ := trodAll_one hA
  obtain ⟨s, rfl, rfl, rfl, hs⟩ := open_string Tryd.underlying9 (hval 0 9 v0 rfl rfl) h0
  obtain ⟨g, t, cs, fuel, d, p', rfl, hg, ht, hvar, hd, rfl⟩ := trodVars_one hV
  obtain ⟨b, cb, tb, hR⟩ := of_laid hL
  clear hA0 hV0 hval0
  refine (law_any s hs b cb tb W hR).mono fun e W' ⟨he, hb⟩ => ?_
  subst he
  exact ⟨_, rfl, _, _, _, [], [], _, hW', trodAll_mk1 (shut_bool Tryd.underlying4 true), trodAll_mk1 (shut_string Tryd.underlying9 hs), Below.trodVars laidOut hb rowed hV, hb.frame _, fun h => by cases h⟩

theorem row_holds : Rows.FnLoadFailedClosedAnywhereInJoinSaid :=
  OpenClaim.holds_of_wide 4 Tryd.f4 rfl rfl rfl rfl rfl rfl rfl ⟨rfl, rfl, rfl, rfl, rfl⟩ rfl rfl rfl rfl rfl (by kernel_rfl) Tryd.func4 (by kernel_rfl)
    (of_decide_eq_true (by kernel_rfl)) (by unfold Func.isWrapper; first | (rw [if_pos (by decide +kernel)]; kernel_rfl) | (rw [if_neg (by decide +kernel)]; exact ⟨rfl, rfl⟩))
    (fun os started H enc _ => lifted os started H enc)

/-- THE TIED CARD. -/
theorem proved : Rows.FnLoadFailedClosedAnywhereInJoinCardSaid :=
  Claim7.holds_tied_plain_at .later [] [.called] true (true, "755767c8ceae2aad88e6fcf6aa2c1560161c025ec79471fc3cadc6140d3302ef") true
    row_holds (fun _ h => by cases h) (by kernel_rfl) (fun _ h => by cases h) fnLoadFailedClosedAnywhereInJoin_row_tie rfl ⟨rfl, rfl⟩ (by kernel_rfl) rfl
    (fun f fn hf hfn => by
      obtain rfl : f = 4 := Option.some.inj ((show Tryd.prog.funcNamed Rows.fnLoadFailedClosedAnywhereInJoinRow.func = some 4 by kernel_rfl).symm.trans hf) |>.symm
      obtain rfl : fn = Tryd.f4 := (Option.some.inj (Tryd.func4.symm.trans hfn)).symm
      exact ⟨by kernel_rfl, fun j t ht => by
        rw [Tryd.params4] at ht
        have hm : t ∈ [9] := by simpa using Array.mem_of_getElem? ht
        have hall : ([9].all fun u => !Tryd.prog.wantsStandIn u) = true := by kernel_rfl
        exact (show Tryd.prog.wantsStandIn t = false by simpa using List.all_eq_true.1 hall t hm)⟩)
    (by kernel_rfl)
#print axioms proved
end Ld
end Go.Proofs.Qxb6613332aDoor
