/- 'FnCarriesRoundExactlyOnVoteAndHeartbeatKindsAndTheirAnswers': the row, then the tied card. -/
import Derived.Test.Qxb6613262aDoorCarWalks
import Derived.Test.Qxb6613262aDoorTie
import Derived.Test.Qxb6613262aDoorCards
import Derived.ProofKit
import Derived.OpenShut
import Derived.OpenVars
import Derived.LaidMore
import Derived.LaidHandle
import Derived.SevenTiedAt
import Derived.Stop.Joined
namespace Go.Proofs.Qxb6613262aDoor
open Go.ChangeShapes Go.WideShapes Go.ChangeAt Go.RowKit

namespace Car
theorem own : ownKnob Tryd.prog.godebug = none := by kernel_rfl
theorem laidOut : laidOutB Tryd.prog = true := by kernel_rfl
def laid : List (String × DataW Unit) := Rows.fnCarriesRoundExactlyOnVoteAndHeartbeatKindsAndTheirAnswersRow.laid
def kindsName : String := Rows.fnCarriesRoundExactlyOnVoteAndHeartbeatKindsAndTheirAnswersSpec.vars.headD ""
theorem gKinds : Tryd.prog.globalNamed kindsName = some 0 := by kernel_rfl
theorem tKinds : (Tryd.prog.globals[0]?).map (·.type) = some 26 := by kernel_rfl
theorem cells26 : Tryd.prog.cellsOf 26 = 56 := by kernel_rfl
theorem cells25 : Tryd.prog.cellsOf 25 = 7 := by kernel_rfl
theorem cells4 : Tryd.prog.cellsOf 4 = 1 := by kernel_rfl
theorem rowed : varsRowed Tryd.prog [kindsName] = true := by kernel_rfl

/-- The field 'round' of element i, read off the table's datum. -/
theorem round_cell {H : Type} {enc : TypeId × Value → H} {W : World} {sp : Nat → Bool} {held : Bool} {fuel : Nat} {cs : List Value} {ds : List (DataW H)} {q : List MemPlace}
    (h : DataW.trod enc Tryd.prog W 0 sp held fuel 26 cs = some (.agg ds, q)) (i : Nat) (hi : i < 8) (es : List (DataW H)) (he : ds[i]? = some (.agg es)) (b : Bool) (hb : es[2]? = some (.lit (.bool b))) :
    cs[i * 7 + 2]? = some (.bool b) := by
  obtain ⟨xs, m, rfl, hx, hlen, hn, hel⟩ := DataW.trod_array Tryd.underlying26 h
  have h0 := hel i hi
  simp only [Prod.mk.injEq, DataW.agg.injEq] at hx
  obtain ⟨hds, _⟩ := hx
  have hix : i < xs.length := by rw [hn]; exact hi
  rw [List.getElem?_eq_getElem hix] at h0
  have hy : xs[i].1 = .agg es := by
    rw [hds, List.getElem?_map, List.getElem?_eq_getElem hix] at he
    simpa using he
  obtain ⟨ys, n, rfl, hz, hl2, hn2, hfl⟩ := DataW.trod_struct Tryd.underlying25 h0
  have h2 : DataW.trod enc Tryd.prog W 0 sp held n 4 (((List.take (Tryd.prog.cellsOf 25) (List.drop (i * Tryd.prog.cellsOf 25) cs)).drop 2).take (Tryd.prog.cellsOf 4)) = ys[2]? := hfl 2 _ rfl
  rw [hz] at hy
  simp only [DataW.agg.injEq] at hy
  have h2x : 2 < ys.length := by rw [hn2]; decide
  rw [List.getElem?_eq_getElem h2x] at h2
  obtain ⟨b', e1, e2⟩ := DataW.trod_bool Tryd.underlying4 h2
  have hbb : b' = b := by
    rw [← hy, List.getElem?_map, List.getElem?_eq_getElem h2x] at hb
    rw [e2] at hb
    simpa using hb
  subst hbb
  simp only [cells25, cells4, List.drop_take, List.drop_drop] at e1
  have e3 : ((List.take 1 (List.take (7 - 2) (List.drop (i * 7 + 2) cs)))[0]? : Option Value) = some (.bool b') := by rw [e1]; rfl
  simpa using e3

/-- WHAT THE CONDITION GIVES THE WALK. -/
theorem of_laid {W : World} (h : laidMetH Tryd.prog laid W) : Rounds W := by
  rw [MakeChecks.laidMetH_plain _ _ _ (by kernel_rfl)] at h
  obtain ⟨ps, ⟨g0, t0, cs0, f0, p0, q0, hg0, ht0, hv0, hd0, _, _⟩, _⟩ := h
  obtain rfl := Option.some.inj (gKinds.symm.trans hg0)
  obtain rfl := Option.some.inj (tKinds.symm.trans ht0)
  have key : ∀ (i : Nat) (b : Bool), cs0.toList[i]? = some (.bool b) → W.cell? ⟨0, i, none⟩ = some (.bool b) := fun i b hc => by
    have := World.var?_cell hg0 hv0 i
    rw [this]; simpa using hc
  have hd1 : DataW.trod _ Tryd.prog W 0 _ false f0 26 cs0.toList = some (.agg _, _) := hd0
  exact ⟨key 9 true (round_cell hd1 1 (by decide) _ rfl true rfl), key 16 true (round_cell hd1 2 (by decide) _ rfl true rfl), key 23 true (round_cell hd1 3 (by decide) _ rfl true rfl),
    key 30 true (round_cell hd1 4 (by decide) _ rfl true rfl), key 37 false (round_cell hd1 5 (by decide) _ rfl false rfl), key 44 false (round_cell hd1 6 (by decide) _ rfl false rfl), key 51 false (round_cell hd1 7 (by decide) _ rfl false rfl)⟩

/-- The door's own heap meets the condition. -/
theorem door_met (os : Os) (args : Array Value) : laidMetH Tryd.prog laid ((World.doorLaid Tryd.prog 400 os).forCall (fun _ _ => 0) ⟨#[], args, []⟩).memory :=
  laidMetH_of_parts3 (fuel := 8) (laidMet_of_run' 8 (by kernel_rfl) (by kernel_rfl)) (by kernel_rfl) (by kernel_rfl)

set_option maxRecDepth 100000 in
theorem lifted (os : Os) (started : os.Started) (H : Type) (enc : TypeId × Value → H) :
    ReturnsInHanded {} Tryd.checked os 3 .any (fun w args => (Rows.fnCarriesRoundExactlyOnVoteAndHeartbeatKindsAndTheirAnswersSpec.pre enc Tryd.prog Tryd.f3 [] false w args ∧ laidMetH Tryd.prog laid w) ∧ sizedMet enc Tryd.prog Tryd.f3 (OpenSpec.ofChange Rows.fnCarriesRoundExactlyOnVoteAndHeartbeatKindsAndTheirAnswersSpec) false w args)
      (Rows.fnCarriesRoundExactlyOnVoteAndHeartbeatKindsAndTheirAnswersSpec.post enc Tryd.prog Tryd.f3 false true false false) := by
  refine returnsInHanded_of_change_and (C := Tryd.checked) (X := fun w _ => laidMetH Tryd.prog laid w) (fun _ _ _ hh h => h.of_heap hh) own started (by kernel_rfl) Tryd.func3
    (ChangeSpec.witness_shaped (enc := enc) (C := Tryd.checked) (os := os) (X := fun w _ => laidMetH Tryd.prog laid w) false (World.doorLaid Tryd.prog 400 os) #[.int .i64 0] 8 rfl (World.shaped_of_RefB (by kernel_rfl) (by kernel_rfl)) (by kernel_rfl) (by kernel_rfl) (by kernel_rfl) (door_met os _)) ?_
  intro W base args ds gs before hval0 hW _ _ hL _
  have hval : ∀ (j : Nat) t v, Tryd.f3.params[j]? = some t → args[j]? = some v → Value.okWide Tryd.prog W .any base t v := hval0
  have hW' := hW
  obtain ⟨p, q, hA0, hV0, rfl, hfz, hnd⟩ := hW
  have hA : DataW.TrodAll enc Tryd.prog W 0 (fun _ => true) true Tryd.f3.params.toList args.toList ds p := hA0
  have hV : DataW.TrodVars enc Tryd.prog W (fun _ => true) [kindsName] gs q := hV0
  rw [Tryd.params3] at hA hval
  obtain ⟨v0, d0, rfl, rfl, h0⟩ := trodAll_one hA
  obtain ⟨n, rfl, rfl, rfl, hwn⟩ := open_int Tryd.underlying3 (hval 0 3 v0 rfl rfl) h0
  obtain ⟨g, t, cs, fuel, d, p', rfl, hg, ht, hvar, hd, rfl⟩ := trodVars_one hV
  have hR := of_laid hL
  clear hA0 hV0 hval0
  refine (law_any n W hR).mono fun e W' ⟨he, hw⟩ => ?_
  subst he; subst hw
  exact ⟨_, rfl, _, _, _, [], [], _, hW', trodAll_mk1 (shut_bool Tryd.underlying4 true), trodAll_mk1 (shut_int Tryd.underlying3 hwn), Below.trodVars laidOut (Below.refl _ _) rowed hV, World.keptBut_refl _ _, fun h => by cases h⟩

theorem row_holds : Rows.FnCarriesRoundExactlyOnVoteAndHeartbeatKindsAndTheirAnswersSaid :=
  OpenClaim.holds_of_wide 3 Tryd.f3 rfl rfl rfl rfl rfl rfl rfl ⟨rfl, rfl, rfl, rfl, rfl⟩ rfl rfl rfl rfl rfl (by kernel_rfl) Tryd.func3 (by kernel_rfl)
    (of_decide_eq_true (by kernel_rfl)) (by unfold Func.isWrapper; first | (rw [if_pos (by decide +kernel)]; kernel_rfl) | (rw [if_neg (by decide +kernel)]; exact ⟨rfl, rfl⟩))
    (fun os started H enc _ => lifted os started H enc)

/-- THE TIED CARD. -/
theorem proved : Rows.FnCarriesRoundExactlyOnVoteAndHeartbeatKindsAndTheirAnswersCardSaid :=
  Claim7.holds_tied_plain_at .later [] [.data] true (true, "e6219c3feefe6719a208099885c503ca2333d0b4af20bde8f57c388b65b9078c") false
    row_holds (fun _ h => by cases h) (by kernel_rfl) (fun _ h => by cases h) fnCarriesRoundExactlyOnVoteAndHeartbeatKindsAndTheirAnswers_row_tie rfl ⟨rfl, rfl⟩ (by kernel_rfl) rfl
    (fun f fn hf hfn => by
      obtain rfl : f = 3 := Option.some.inj ((show Tryd.prog.funcNamed Rows.fnCarriesRoundExactlyOnVoteAndHeartbeatKindsAndTheirAnswersRow.func = some 3 by kernel_rfl).symm.trans hf) |>.symm
      obtain rfl : fn = Tryd.f3 := (Option.some.inj (Tryd.func3.symm.trans hfn)).symm
      exact ⟨by kernel_rfl, fun j t ht => by
        rw [Tryd.params3] at ht
        have hm : t ∈ [3] := by simpa using Array.mem_of_getElem? ht
        have hall : ([3].all fun u => !Tryd.prog.wantsStandIn u) = true := by kernel_rfl
        exact (show Tryd.prog.wantsStandIn t = false by simpa using List.all_eq_true.1 hall t hm)⟩)
    (by kernel_rfl)
#print axioms proved
end Car
end Go.Proofs.Qxb6613262aDoor
