/- The walks of 'FnCarriesRoundExactlyOnVoteAndHeartbeatKindsAndTheirAnswers' and what she calls. -/
import Derived.Test.Qxb6613262aDoorRows
import Derived.WalkKit
import Derived.WalkSpells
namespace Go.Proofs.Qxb6613262aDoor
open Go.RowKit

/-- A kind beyond the table carries no round. -/
theorem carries_lo (k : Int) (w : World) (h : k ≤ 0) :
    Calls Tryd.prog 4 #[.int .i64 k] w fun e w' => e = .returned (.bool false) ∧ w' = w := by
  have h' : ¬ 0 < k := by omega
  go_enter Tryd.func4, Tryd.ntmps4
  go_wp2
  go_ret
  exact ⟨rfl, rfl⟩
theorem carries_hi (k : Int) (w : World) (h : 8 ≤ k) :
    Calls Tryd.prog 4 #[.int .i64 k] w fun e w' => e = .returned (.bool false) ∧ w' = w := by
  have h1 : 0 < k := by omega
  have h2 : ¬ k < 8 := by omega
  go_enter Tryd.func4, Tryd.ntmps4
  go_wp2
  go_ret
  exact ⟨rfl, rfl⟩
theorem carries_in (k : Nat) (b : Bool) (w : World) (h1 : 0 < (k : Int)) (h2 : (k : Int) < 8) (hc : w.cell? ⟨0, k * 7 + 2, none⟩ = some (.bool b)) :
    Calls Tryd.prog 4 #[.int .i64 k] w fun e w' => e = .returned (.bool b) ∧ w' = w := by
  go_enter Tryd.func4, Tryd.ntmps4
  go_wp2
  go_ret
  exact ⟨rfl, rfl⟩

/-- The cells that the law reads: the field 'round' of the kinds 1 to 7. -/
structure Rounds (w : World) : Prop where
  c1 : w.cell? ⟨0, 9, none⟩ = some (.bool true)
  c2 : w.cell? ⟨0, 16, none⟩ = some (.bool true)
  c3 : w.cell? ⟨0, 23, none⟩ = some (.bool true)
  c4 : w.cell? ⟨0, 30, none⟩ = some (.bool true)
  c5 : w.cell? ⟨0, 37, none⟩ = some (.bool false)
  c6 : w.cell? ⟨0, 44, none⟩ = some (.bool false)
  c7 : w.cell? ⟨0, 51, none⟩ = some (.bool false)

theorem law_1 (w : World) (h : Rounds w) : Calls Tryd.prog 3 #[.int .i64 1] w fun e w' => e = .returned (.bool true) ∧ w' = w := by
  obtain ⟨c1, c2, c3, c4, c5, c6, c7⟩ := h
  go_enter Tryd.func3, Tryd.ntmps3
  go_wp2
  go_ret
  exact ⟨rfl, rfl⟩
theorem law_2 (w : World) (h : Rounds w) : Calls Tryd.prog 3 #[.int .i64 2] w fun e w' => e = .returned (.bool true) ∧ w' = w := by
  obtain ⟨c1, c2, c3, c4, c5, c6, c7⟩ := h
  go_enter Tryd.func3, Tryd.ntmps3
  go_wp2
  go_ret
  exact ⟨rfl, rfl⟩
theorem law_3 (w : World) (h : Rounds w) : Calls Tryd.prog 3 #[.int .i64 3] w fun e w' => e = .returned (.bool true) ∧ w' = w := by
  obtain ⟨c1, c2, c3, c4, c5, c6, c7⟩ := h
  go_enter Tryd.func3, Tryd.ntmps3
  go_wp2
  go_ret
  exact ⟨rfl, rfl⟩
theorem law_4 (w : World) (h : Rounds w) : Calls Tryd.prog 3 #[.int .i64 4] w fun e w' => e = .returned (.bool true) ∧ w' = w := by
  obtain ⟨c1, c2, c3, c4, c5, c6, c7⟩ := h
  go_enter Tryd.func3, Tryd.ntmps3
  go_wp2
  go_ret
  exact ⟨rfl, rfl⟩
theorem law_5 (w : World) (h : Rounds w) : Calls Tryd.prog 3 #[.int .i64 5] w fun e w' => e = .returned (.bool true) ∧ w' = w := by
  obtain ⟨c1, c2, c3, c4, c5, c6, c7⟩ := h
  go_enter Tryd.func3, Tryd.ntmps3
  go_wp2
  go_ret
  exact ⟨rfl, rfl⟩
theorem law_6 (w : World) (h : Rounds w) : Calls Tryd.prog 3 #[.int .i64 6] w fun e w' => e = .returned (.bool true) ∧ w' = w := by
  obtain ⟨c1, c2, c3, c4, c5, c6, c7⟩ := h
  go_enter Tryd.func3, Tryd.ntmps3
  go_wp2
  go_ret
  exact ⟨rfl, rfl⟩
theorem law_7 (w : World) (h : Rounds w) : Calls Tryd.prog 3 #[.int .i64 7] w fun e w' => e = .returned (.bool true) ∧ w' = w := by
  obtain ⟨c1, c2, c3, c4, c5, c6, c7⟩ := h
  go_enter Tryd.func3, Tryd.ntmps3
  go_wp2
  go_ret
  exact ⟨rfl, rfl⟩
theorem law_lo (k : Int) (w : World) (h : k ≤ 0) : Calls Tryd.prog 3 #[.int .i64 k] w fun e w' => e = .returned (.bool true) ∧ w' = w := by
  have e1 : (k == 1) = false := beq_eq_false_iff_ne.2 (by omega)
  have e2 : (k == 2) = false := beq_eq_false_iff_ne.2 (by omega)
  have e3 : (k == 3) = false := beq_eq_false_iff_ne.2 (by omega)
  have e4 : (k == 4) = false := beq_eq_false_iff_ne.2 (by omega)
  have e5 : (k == 5) = false := beq_eq_false_iff_ne.2 (by omega)
  go_enter Tryd.func3, Tryd.ntmps3
  go_wp2_with (first | (go_at_call 4; refine (carries_lo _ _ (by omega)).mono ?_; rintro e w' ⟨rfl, rfl⟩))
  go_ret
  exact ⟨rfl, rfl⟩
theorem law_hi (k : Int) (w : World) (h : 8 ≤ k) : Calls Tryd.prog 3 #[.int .i64 k] w fun e w' => e = .returned (.bool true) ∧ w' = w := by
  have e1 : (k == 1) = false := beq_eq_false_iff_ne.2 (by omega)
  have e2 : (k == 2) = false := beq_eq_false_iff_ne.2 (by omega)
  have e3 : (k == 3) = false := beq_eq_false_iff_ne.2 (by omega)
  have e4 : (k == 4) = false := beq_eq_false_iff_ne.2 (by omega)
  have e5 : (k == 5) = false := beq_eq_false_iff_ne.2 (by omega)
  go_enter Tryd.func3, Tryd.ntmps3
  go_wp2_with (first | (go_at_call 4; refine (carries_hi _ _ (by omega)).mono ?_; rintro e w' ⟨rfl, rfl⟩))
  go_ret
  exact ⟨rfl, rfl⟩
theorem law_any (k : Int) (w : World) (h : Rounds w) : Calls Tryd.prog 3 #[.int .i64 k] w fun e w' => e = .returned (.bool true) ∧ w' = w := by
  by_cases h0 : k ≤ 0
  · exact law_lo k w h0
  by_cases h8 : 8 ≤ k
  · exact law_hi k w h8
  have hk : k = 1 ∨ k = 2 ∨ k = 3 ∨ k = 4 ∨ k = 5 ∨ k = 6 ∨ k = 7 := by omega
  rcases hk with rfl | rfl | rfl | rfl | rfl | rfl | rfl
  · exact law_1 w h
  · exact law_2 w h
  · exact law_3 w h
  · exact law_4 w h
  · exact law_5 w h
  · exact law_6 w h
  · exact law_7 w h
end Go.Proofs.Qxb6613262aDoor
