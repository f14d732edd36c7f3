/- 'FnQuotableAbsorbsWhatFollowsItsQuote': the walk and the row (the frame: the guide's shell, written by its program). -/
import Derived.Test.Qxb6613387aRows
import Derived.WalkKit
import Derived.ProofKit
import Derived.OpenShut
import Derived.ShutString
namespace Go.Proofs.Qxb6613387a.fnQuotableAbsorbsWhatFollowsItsQuote
open Go.ChangeShapes Go.WideShapes Go.ChangeAt Go.RowKit
open Go.ChangeMaps (open_string shut_string)
set_option linter.unusedVariables false      -- a walk need not use every 'w<i>' (that an integer argument fits its kind)

theorem own : ownKnob Try.prog.godebug = none := by kernel_rfl

/-! ### STEP 1: THE WALK: the Go text returns true. 'Grown w w'': the world has at most new blocks (Derived/RowKit3.lean). Part the cases AHEAD of 'go_enter' where a test parts the walk; take each callee by a contract of your own. -/
/-- What 'quotable' computes: the first 80 bytes. -/
def cut80 (s : ByteArray) : ByteArray := s.extract 0 80
theorem data_cut80 (s : ByteArray) : (cut80 s).data.toList = s.data.toList.take 80 := by
  simp [cut80, ByteArray.data_extract]
theorem eq_of_list {s t : ByteArray} (h : s.data.toList = t.data.toList) : s = t := by
  cases s; cases t; simp at h; simp [h]
theorem cut80_short (s : ByteArray) (h : (s.size : Int) ≤ 80) : cut80 s = s := by
  apply eq_of_list
  rw [data_cut80, List.take_of_length_le]
  simp; omega
theorem size_cut80_long (s : ByteArray) (h : 80 < (s.size : Int)) : (cut80 s).size = 80 := by
  simp [cut80, ByteArray.size_extract]; omega
theorem cut80_cut80 (s : ByteArray) : cut80 (cut80 s) = cut80 s := by
  apply eq_of_list
  rw [data_cut80, data_cut80, List.take_take, Nat.min_self]
theorem cut80_app (s t : ByteArray) : cut80 (cut80 s ++ t) = cut80 (s ++ t) := by
  apply eq_of_list
  rw [data_cut80, data_cut80]
  simp only [ByteArray.data_append, Array.toList_append, data_cut80, List.take_append, List.take_take, Nat.min_self, List.length_take]
  congr 2
  omega

theorem quot_any (s : ByteArray) (w : World) :
    Calls Try.prog 5 #[.string s] w fun e w' => e = .returned (.string (cut80 s)) ∧ w' = w := by
  by_cases h : (s.size : Int) ≤ 80
  · rw [cut80_short s h]
    go_enter Try.func5, Try.ntmps5
    go_wp2
    go_ret
    exact ⟨rfl, rfl⟩
  · have h' : 80 < (s.size : Int) := by omega
    clear h
    go_enter Try.func5, Try.ntmps5
    go_wp2
    go_ret
    exact ⟨rfl, rfl⟩
theorem bytes_any (s t : ByteArray) (w0 : s.size ≤ maxLen) (w1 : t.size ≤ maxLen) (w : World) :
    Calls Try.prog 4 #[.string s, .string t] w fun e w' => (∃ b, e = .returned (.bool b)) ∧ w' = w := by
  unfold maxLen at w0 w1
  go_enter Try.func4, Try.ntmps4
  go_wp2
  all_goals
    go_ret
    exact ⟨⟨_, rfl⟩, rfl⟩

set_option maxHeartbeats 800000 in
theorem walk (a0 : ByteArray) (a1 : ByteArray) (w0 : a0.size ≤ maxLen) (w1 : a1.size ≤ maxLen) (w : World) :
    Calls Try.prog 3 #[.string a0, .string a1] w fun e w' => e = .returned (.bool true) ∧ Grown w w' := by
  have g1 : ((cut80 (cut80 a0)).toList == (cut80 a0).toList) = true := by rw [cut80_cut80]; exact beq_self_eq_true _
  have g2 : ((cut80 (cut80 a0 ++ a1)).toList == (cut80 (a0 ++ a1)).toList) = true := by rw [cut80_app]; exact beq_self_eq_true _
  by_cases h : (a0.size : Int) ≤ 80
  · have g3 : (((cut80 a0).size : Int) == (a0.size : Int)) = true := by rw [cut80_short a0 h]; simp
    have g4 : ((cut80 a0).size : Int) ≤ 80 := by rw [cut80_short a0 h]; exact h
    have w0' := w0
    have w1' := w1
    unfold maxLen at w0' w1'
    go_enter Try.func3, Try.ntmps3
    go_wp2_with (first | (go_at_call 4; refine (bytes_any _ _ w0 w1 _).mono ?_; rintro e w' ⟨⟨b, rfl⟩, rfl⟩; cases b))
    any_goals (go_ret; exact ⟨rfl, Grown.refl _⟩)
    refine (quot_any _ _).mono ?_
    rintro e w' ⟨rfl, rfl⟩
    go_wp2_with fail
    refine (quot_any _ _).mono ?_
    rintro e w' ⟨rfl, rfl⟩
    go_wp2_with fail
    refine (quot_any _ _).mono ?_
    rintro e w' ⟨rfl, rfl⟩
    go_wp2_with fail
    refine (quot_any _ _).mono ?_
    rintro e w' ⟨rfl, rfl⟩
    go_wp2_with fail
    go_ret
    exact ⟨rfl, Grown.refl _⟩
  · have g3 : (((cut80 a0).size : Int) == 80) = true := by rw [size_cut80_long a0 (by omega)]; rfl
    have g4 : ((cut80 a0).size : Int) ≤ 80 := by rw [size_cut80_long a0 (by omega)]; decide
    have w0' := w0
    have w1' := w1
    unfold maxLen at w0' w1'
    go_enter Try.func3, Try.ntmps3
    go_wp2_with (first | (go_at_call 4; refine (bytes_any _ _ w0 w1 _).mono ?_; rintro e w' ⟨⟨b, rfl⟩, rfl⟩; cases b))
    any_goals (go_ret; exact ⟨rfl, Grown.refl _⟩)
    refine (quot_any _ _).mono ?_
    rintro e w' ⟨rfl, rfl⟩
    go_wp2_with fail
    refine (quot_any _ _).mono ?_
    rintro e w' ⟨rfl, rfl⟩
    go_wp2_with fail
    refine (quot_any _ _).mono ?_
    rintro e w' ⟨rfl, rfl⟩
    go_wp2_with fail
    refine (quot_any _ _).mono ?_
    rintro e w' ⟨rfl, rfl⟩
    go_wp2_with fail
    go_ret
    exact ⟨rfl, Grown.refl _⟩

/-! ### THE ROW's STEP: WRITTEN OUT: LEAVE IT -/
set_option maxRecDepth 100000 in
theorem lifted (os : Os) (started : os.Started) (H : Type) (enc : TypeId × Value → H) :
    ReturnsInHanded {} Try.checked os 3 .any (Rows.fnQuotableAbsorbsWhatFollowsItsQuoteSpec.pre6 enc Try.prog Try.f3 Rows.fnQuotableAbsorbsWhatFollowsItsQuoteRow.domain false) (Rows.fnQuotableAbsorbsWhatFollowsItsQuoteSpec.post enc Try.prog Try.f3 false true false false) := by
  refine returnsInHanded_of_change (C := Try.checked) own started (by kernel_rfl) Try.func3
    (ChangeSpec.witness6 (enc := enc) (C := Try.checked) false ⟨#[], #[.string ByteArray.empty, .string ByteArray.empty], []⟩ 8 (by kernel_rfl) (by kernel_rfl) (by kernel_rfl) (by kernel_rfl)) ?_
  intro W base args ds gs before hval0 hW hcnd _
  have hval : ∀ (j : Nat) t v, Try.f3.params[j]? = some t → args[j]? = some v → Value.okWide Try.prog W .any base t v := hval0
  have hW' := hW
  obtain ⟨p, q, hA0, hV, rfl, hfz, hnd⟩ := hW
  have hA : DataW.TrodAll enc Try.prog W 0 (fun _ => true) true Try.f3.params.toList args.toList ds p := hA0
  rw [Try.params3] at hA hval
  obtain ⟨v0, vs0, d0, ds0, p0, q0, hargs, rfl, rfl, h0, r0⟩ := trodAll_cons hA
  obtain ⟨v1, vs1, d1, ds1, p1, q1, rfl, rfl, rfl, h1, r1⟩ := trodAll_cons r0
  obtain ⟨rfl, rfl, rfl⟩ := trodAll_nil r1
  obtain rfl : args = #[v0, v1] := by cases args; simp_all
  obtain ⟨rfl, rfl⟩ := trodVars_none hV
  obtain ⟨a0, rfl, rfl, rfl, w0⟩ := open_string Try.underlying9 (hval 0 9 v0 rfl rfl) h0
  obtain ⟨a1, rfl, rfl, rfl, w1⟩ := open_string Try.underlying9 (hval 1 9 v1 rfl rfl) h1
  clear hA0 hval0
  simp only [List.append_nil] at hW'
  refine (walk a0 a1 w0 w1 W).mono fun e W' ⟨he, hg⟩ => ?_
  subst he
  exact ⟨_, rfl, post_of_same (pa := []) (pv := []) hW' (fun _ _ _ => (trodAll_cons_mk (shut_bool Try.underlying4 _) trodAll_mk0)) (fun sp _ => (trodAll_cons_mk (shut_string Try.underlying9 w0) (trodAll_cons_mk (shut_string Try.underlying9 w1) trodAll_mk0))) (fun _ _ => rfl) rfl
    (hg.frame _) hg.2.1 (ok_one (by kernel_rfl) rfl (okWide_bool_mk Try.underlying4 _))⟩

theorem over : Rows.fnQuotableAbsorbsWhatFollowsItsQuoteRow.holds Try.pinned (OpenSpec.ofChange Rows.fnQuotableAbsorbsWhatFollowsItsQuoteSpec) :=
  OpenClaim.holds_of_wide 3 Try.f3 rfl rfl rfl rfl rfl rfl rfl ⟨rfl, rfl, rfl, rfl, rfl⟩ rfl rfl rfl rfl rfl (by kernel_rfl) Try.func3 (by kernel_rfl)
    (of_decide_eq_true (by kernel_rfl)) (by unfold Func.isWrapper; first | (rw [if_pos (by decide +kernel)]; kernel_rfl) | (rw [if_neg (by decide +kernel)]; exact ⟨rfl, rfl⟩))
    (fun os started H enc _ => lifted os started H enc)

/-- ████ THE STATEMENT ████ -/
theorem proved : Rows.FnQuotableAbsorbsWhatFollowsItsQuoteSaid :=
  over
#print axioms proved
end Go.Proofs.Qxb6613387a.fnQuotableAbsorbsWhatFollowsItsQuote
