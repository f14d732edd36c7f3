/- The bounds on the input; 'zzDistinct'. -/
import Derived.Test.Qxb6613201aBuild
set_option linter.unusedVariables false
set_option linter.unusedSimpArgs false
namespace Go.Proofs.Qxb6613201a
open Go.RowKit

def intCells (od : List Nat) : List Value := od.map fun (i : Nat) => .int .i64 (i : Int)
def BoolOut (P : Bool → Prop) (e : Ending) : Prop := ∃ r : Bool, e = .returned (.bool r) ∧ P r

set_option maxHeartbeats 2000000 in
set_option maxRecDepth 100000 in
theorem bytes6 (oa : Option Addr) (n c0 : Nat) (K : Nat → ByteArray) (w : World) (hk : KeysAt w oa n K) :
    Calls Try.prog 6 #[.slice oa n c0] w fun e w' => BoolOut (fun r => r = true → n ≤ 1048576 ∧ ∀ i, i < n → (K i).size ≤ 1048576) e ∧ w' = w := by
  have HK := hid hk
  clear hk
  by_cases hn : n ≤ 1048576
  · have hn' : (n : Int) ≤ 1048576 := by omega
    go_enter Try.func6, Try.ntmps6
    go_wp2_with fail
    go_loop [3, 4] (fun s3 s4 => ∃ i z : Nat, s3 = .int .i64 z ∧ s4 = .int .i64 i ∧ i ≤ n ∧ z ≤ 1048576 ∧ Hid (∀ j, j < i → (K j).size ≤ 1048576)) (fun s3 s4 => n - (intOf s4).toNat)
    case atStart => exact ⟨0, n, rfl, rfl, Nat.zero_le _, hn, fun j hj => by omega⟩
    case round =>
      obtain ⟨i, z, rfl, rfl, hin, hz, hR⟩ := hrel
      by_cases hlt : i < n
      · obtain ⟨ka, rfl, hc⟩ := HK.out i hlt
        have hlt' : (i : Int) < (n : Int) := by omega
        obtain ⟨s, hs⟩ : ∃ s, (K i).size = s := ⟨_, rfl⟩
        by_cases hs1 : s ≤ 1048576
        · have hs' : (s : Int) ≤ 1048576 := by omega
          by_cases hs2 : z + s ≤ 1048576
          · have hs2' : (z : Int) + (s : Int) ≤ 1048576 := by omega
            have HS := hid (And.intro hs (And.intro hs1 (And.intro hs2 hlt)))
            clear hs1 hs2 hin hlt hz hn
            go_wp2_with fail
            go_round
            case measure => simp [intOf]; have := HS.out.2.2.2; omega
            case rel => exact ⟨i + 1, z + s, by simp, by simp, HS.out.2.2.2, HS.out.2.2.1, fun j hj => by
              by_cases e : j = i
              · subst e; rw [HS.out.1]; exact HS.out.2.1
              · exact hR.out j (by omega)⟩
          · have hs2' : (1048576 : Int) < (z : Int) + (s : Int) := by omega
            clear hs2 hin hlt hn
            go_wp2_with fail
            go_ret
            exact ⟨⟨false, rfl, by simp⟩, rfl⟩
        · have hs' : (1048576 : Int) < (s : Int) := by omega
          clear hs1 hin hlt hn
          go_wp2_with fail
          go_ret
          exact ⟨⟨false, rfl, by simp⟩, rfl⟩
      · obtain rfl : n = i := by omega
        have HN := hid hn
        clear hin hlt hn hz
        go_wp2_with fail
        go_ret
        exact ⟨⟨true, rfl, fun _ => ⟨HN.out, hR.out⟩⟩, rfl⟩
  · have hn' : (1048576 : Int) < (n : Int) := by omega
    clear hn
    go_enter Try.func6, Try.ntmps6
    go_wp2_with fail
    go_ret
    exact ⟨⟨false, rfl, by simp⟩, rfl⟩

set_option maxHeartbeats 2000000 in
set_option maxRecDepth 100000 in
theorem bytes17 (oa : Option Addr) (n c0 : Nat) (K : Nat → ByteArray) (w : World) (hk : KeysAt w oa n K) :
    Calls Try.prog 17 #[.slice oa n c0] w fun e w' => BoolOut (fun r => r = true → n ≤ 1048576 ∧ ∀ i, i < n → (K i).size ≤ 1048576) e ∧ w' = w := by
  have HK := hid hk
  clear hk
  by_cases hn : n ≤ 1048576
  · have hn' : (n : Int) ≤ 1048576 := by omega
    go_enter Try.func17, Try.ntmps17
    go_wp2_with fail
    go_loop [3, 4] (fun s3 s4 => ∃ i z : Nat, s3 = .int .i64 z ∧ s4 = .int .i64 i ∧ i ≤ n ∧ z ≤ 1048576 ∧ Hid (∀ j, j < i → (K j).size ≤ 1048576)) (fun s3 s4 => n - (intOf s4).toNat)
    case atStart => exact ⟨0, n, rfl, rfl, Nat.zero_le _, hn, fun j hj => by omega⟩
    case round =>
      obtain ⟨i, z, rfl, rfl, hin, hz, hR⟩ := hrel
      by_cases hlt : i < n
      · obtain ⟨ka, rfl, hc⟩ := HK.out i hlt
        have hlt' : (i : Int) < (n : Int) := by omega
        obtain ⟨s, hs⟩ : ∃ s, (K i).size = s := ⟨_, rfl⟩
        by_cases hs1 : s ≤ 1048576
        · have hs' : (s : Int) ≤ 1048576 := by omega
          by_cases hs2 : z + s ≤ 1048576
          · have hs2' : (z : Int) + (s : Int) ≤ 1048576 := by omega
            have HS := hid (And.intro hs (And.intro hs1 (And.intro hs2 hlt)))
            clear hs1 hs2 hin hlt hz hn
            go_wp2_with fail
            go_round
            case measure => simp [intOf]; have := HS.out.2.2.2; omega
            case rel => exact ⟨i + 1, z + s, by simp, by simp, HS.out.2.2.2, HS.out.2.2.1, fun j hj => by
              by_cases e : j = i
              · subst e; rw [HS.out.1]; exact HS.out.2.1
              · exact hR.out j (by omega)⟩
          · have hs2' : (1048576 : Int) < (z : Int) + (s : Int) := by omega
            clear hs2 hin hlt hn
            go_wp2_with fail
            go_ret
            exact ⟨⟨false, rfl, by simp⟩, rfl⟩
        · have hs' : (1048576 : Int) < (s : Int) := by omega
          clear hs1 hin hlt hn
          go_wp2_with fail
          go_ret
          exact ⟨⟨false, rfl, by simp⟩, rfl⟩
      · obtain rfl : n = i := by omega
        have HN := hid hn
        clear hin hlt hn hz
        go_wp2_with fail
        go_ret
        exact ⟨⟨true, rfl, fun _ => ⟨HN.out, hR.out⟩⟩, rfl⟩
  · have hn' : (1048576 : Int) < (n : Int) := by omega
    clear hn
    go_enter Try.func17, Try.ntmps17
    go_wp2_with fail
    go_ret
    exact ⟨⟨false, rfl, by simp⟩, rfl⟩

set_option maxHeartbeats 2000000 in
set_option maxRecDepth 100000 in
theorem stringBytes7 (oa : Option Addr) (n c0 : Nat) (K : Nat → ByteArray) (w : World) (hk : KeysAt w oa n K) (hn : n ≤ 1048576) (hs : ∀ i, i < n → (K i).size ≤ 1048576) :
    Calls Try.prog 7 #[.slice oa n c0] w fun e w' => ∃ r : Nat, e = .returned (.int .i64 r) ∧ r ≤ 4194304 ∧ (r ≤ 1048576 → tot 16 K n ≤ 1048576) ∧ w' = w := by
  have HK := hid hk
  have HSZ := hid hs
  have hni : (n : Int) ≤ 1048576 := by omega
  clear hk hs
  go_enter Try.func7, Try.ntmps7
  go_wp2_with fail
  go_loop [3, 4] (fun s3 s4 => ∃ i z : Nat, s3 = .int .i64 z ∧ s4 = .int .i64 i ∧ i ≤ n ∧ z ≤ 1048576 ∧ Hid (z = tot 16 K i)) (fun s3 s4 => n - (intOf s4).toNat)
  case atStart => exact ⟨0, 0, rfl, rfl, Nat.zero_le _, by omega, rfl⟩
  case round =>
    obtain ⟨i, z, rfl, rfl, hin, hz, hR⟩ := hrel
    by_cases hlt : i < n
    · obtain ⟨ka, rfl, hc⟩ := HK.out i hlt
      have hlt' : (i : Int) < (n : Int) := by omega
      obtain ⟨s, hs⟩ : ∃ s, (K i).size = s := ⟨_, rfl⟩
      have hs1 := HSZ.out i hlt
      rw [hs] at hs1
      by_cases hs2 : z + (16 + s) ≤ 1048576
      · have hs2' : (z : Int) + (16 + (s : Int)) ≤ 1048576 := by omega
        have HS := hid (And.intro hs (And.intro hs1 (And.intro hs2 hlt)))
        clear hs1 hs2 hin hlt hz hn
        go_wp2_with fail
        go_round
        case measure => simp [intOf]; have := HS.out.2.2.2; omega
        case rel => exact ⟨i + 1, z + (16 + s), by simp, by simp, HS.out.2.2.2, HS.out.2.2.1, by show z + (16 + s) = tot 16 K i + (16 + (K i).size); rw [← hR.out, HS.out.1]⟩
      · have hs2' : (1048576 : Int) < (z : Int) + (16 + (s : Int)) := by omega
        have hs3 : (s : Int) ≤ 1048576 := by omega
        have hz' : (z : Int) ≤ 1048576 := by omega
        have HZ : Hid (z + (16 + s) ≤ 4194304 ∧ ¬ z + (16 + s) ≤ 1048576) := ⟨by omega, hs2⟩
        clear hs2 hin hlt hn hs1 hz
        go_wp2_with fail
        go_ret
        exact ⟨z + (16 + s), by simp, HZ.out.1, fun h => absurd h HZ.out.2, rfl⟩
    · obtain rfl : n = i := by omega
      have HN := hid hz
      clear hin hlt hn hz
      go_wp2_with fail
      go_ret
      exact ⟨z, rfl, by have := HN.out; omega, fun h => by rw [← hR.out]; exact h, rfl⟩

set_option maxHeartbeats 4000000 in
set_option maxRecDepth 100000 in
theorem distinct9 (oa : Option Addr) (n c0 g : Nat) (K : Nat → ByteArray) (od : List Nat) (w : World) (hk : KeysAt w oa n K) (hn : n ≤ 1048576) (hl : od.length = n) (ho : w.ownsRow 0 3 1 (.slice (some ⟨g, 0, none⟩) n n) n (intCells od)) (hb : ∀ x ∈ od, x < n) :
    Calls Try.prog 9 #[.slice oa n c0, .slice (some ⟨g, 0, none⟩) n n] w fun e w' => BoolOut (fun r => r = true → ∀ (j a b : Nat), od[j]? = some a → od[j + 1]? = some b → K a ≠ K b) e ∧ Ext [] w w' := by
  have HK := hid hk
  have HO := hid ho
  have HB := hid (And.intro hl hb)
  have hni : (n : Int) ≤ 1048576 := by omega
  clear hk ho hb hl
  go_enter Try.func9, Try.ntmps9
  go_wp2_with fail
  go_loopw [5] (fun s5 wr => ∃ i : Nat, s5 = .int .i64 i ∧ 1 ≤ i ∧ (i ≤ n ∨ i = 1) ∧ Hid ((∀ (j a b : Nat), j + 1 < i → od[j]? = some a → od[j + 1]? = some b → K a ≠ K b) ∧ Ext [] w wr)) (fun s5 _ => n - (intOf s5).toNat)
  case atStart => exact ⟨1, rfl, by omega, Or.inr rfl, fun j a b hj => by omega, Ext.refl _ _⟩
  case round =>
    obtain ⟨i, rfl, hi1, hin, hR⟩ := hrel
    rename World => w1
    by_cases hlt : i < n
    · have hl := HB.out.1
      obtain ⟨x, hx⟩ : ∃ x, od[i - 1]? = some x := ⟨od[i - 1]'(by omega), List.getElem?_eq_getElem _⟩
      obtain ⟨y, hy⟩ : ∃ y, od[i]? = some y := ⟨od[i]'(by omega), List.getElem?_eq_getElem _⟩
      have hxn := HB.out.2 x (List.mem_of_getElem? hx)
      have hyn := HB.out.2 y (List.mem_of_getElem? hy)
      obtain ⟨ka, rfl, hc1⟩ := (HK.out.ext hR.out.2) x hxn
      obtain ⟨ka', e, hc2⟩ := (HK.out.ext hR.out.2) y hyn
      obtain rfl := Option.some.inj e
      have ho1 := owns_same HO.out (hR.out.2.block g (owns_lt HO.out) (by simp))
      have d1 : w1.cell? ⟨g, i - 1, none⟩ = some (.int .i64 x) := owns_cell ho1 (by simp [intCells, hx])
      have d2 : w1.cell? ⟨g, i, none⟩ = some (.int .i64 y) := owns_cell ho1 (by simp [intCells, hy])
      have hlt' : (i : Int) < (n : Int) := by omega
      have hi1' : (1 : Int) ≤ (i : Int) := by omega
      have hxn' : (x : Int) < (n : Int) := by omega
      have hyn' : (y : Int) < (n : Int) := by omega
      have hsub : IntKind.wrap .i64 ((i : Int) - 1) = (i : Int) - 1 := by rw [IntKind.wrap_i64] <;> omega
      have htn : ((i : Int) - 1).toNat = i - 1 := by omega
      have hnn : (0 : Int) ≤ (i : Int) - 1 := by omega
      have hnl : (i : Int) - 1 < (n : Int) := by omega
      have HX := hid (And.intro hx (And.intro hy hlt))
      clear hl hx hy hxn hyn ho1 e
      by_cases hq : K x = K y
      · have hbq : ((K x).toList == (K y).toList) = true := by rw [hq]; simp
        have HQ := hid hq
        clear hq hin hlt hi1
        go_wp2_with fail
        go_quiet (fail)
        all_goals go_wp2_with fail
        all_goals go_ret
        all_goals exact ⟨⟨false, rfl, by simp⟩, hR.out.2.drewN _⟩
      · have hbq : ((K x).toList == (K y).toList) = false := by rw [toList_beq]; simp [hq]
        have HQ := hid hq
        clear hq hin hlt hi1
        go_wp2_with fail
        go_quiet (fail)
        all_goals go_wp2_with fail
        all_goals go_roundw
        case measure => simp [intOf]; have := HX.out.2.2; omega
        case rel => exact ⟨i + 1, by simp, by omega, Or.inl (by have := HX.out.2.2; omega), fun j a b hj ha hb => by
          by_cases e : j + 1 = i
          · obtain rfl : j = i - 1 := by omega
            rw [HX.out.1] at ha
            rw [e, HX.out.2.1] at hb
            obtain rfl := Option.some.inj ha
            obtain rfl := Option.some.inj hb
            exact HQ.out
          · exact hR.out.1 j a b (by omega) ha hb, hR.out.2.drewN _⟩
    · have hlt' : (n : Int) ≤ (i : Int) := by omega
      have HN := hid hlt
      have HL := HB.out.1
      have HL' := hid HL
      clear hlt hin HL
      go_wp2_with fail
      go_ret
      exact ⟨⟨true, rfl, fun _ j a b ha hb => hR.out.1 j a b (by have := (List.getElem?_eq_some_iff.1 hb).1; have := HN.out; have := HL'.out; omega) ha hb⟩, hR.out.2⟩
end Go.Proofs.Qxb6613201a
