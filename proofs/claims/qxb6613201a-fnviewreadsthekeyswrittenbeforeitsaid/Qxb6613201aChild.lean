/- The order of keys; slices.BinarySearch over bounds; '(*node).child', '(*node).leaf'. -/
import Derived.Test.Qxb6613201aBase
import Derived.Deep.LoopGhost
import Derived.Lib.Strings
set_option linter.unusedVariables false
namespace Go.Proofs.Qxb6613201a
open Go.RowKit

/-- The order of keys: by bytes. -/
def klt (a b : ByteArray) : Bool := Op.bytesLess a.toList b.toList

theorem bytesLess_lt : ∀ (x y : List UInt8), Op.bytesLess x y = decide (x < y)
  | [], [] => by simp [Op.bytesLess]
  | _ :: _, [] => by simp [Op.bytesLess]
  | [], _ :: _ => by simp [Op.bytesLess]
  | a :: x, b :: y => by
    rw [Op.bytesLess, bytesLess_lt x y]
    simp only [List.cons_lt_cons_iff]
    by_cases h1 : a < b <;> by_cases h2 : a = b <;> by_cases h3 : x < y <;> simp [h1, h2, h3]
theorem bytesLess_tot : ∀ (x y : List UInt8), x ≠ y → Op.bytesLess x y = true ∨ Op.bytesLess y x = true
  | [], [], h => absurd rfl h
  | _ :: _, [], _ => by simp [Op.bytesLess]
  | [], _ :: _, _ => by simp [Op.bytesLess]
  | a :: x, b :: y, h => by
    rcases Nat.lt_trichotomy a.toNat b.toNat with h1 | h1 | h1
    · left; rw [bytesLess_lt]; simp [List.cons_lt_cons_iff, UInt8.lt_iff_toNat_lt, h1]
    · have e : a = b := UInt8.toNat_inj.1 h1
      subst e
      have hne : x ≠ y := fun e => h (by rw [e])
      rcases bytesLess_tot x y hne with h2 | h2
      · left; rw [bytesLess_lt] at h2 ⊢; simp only [decide_eq_true_eq] at h2 ⊢; rw [List.cons_lt_cons_iff]; exact Or.inr ⟨rfl, h2⟩
      · right; rw [bytesLess_lt] at h2 ⊢; simp only [decide_eq_true_eq] at h2 ⊢; rw [List.cons_lt_cons_iff]; exact Or.inr ⟨rfl, h2⟩
    · right; rw [bytesLess_lt]; simp [List.cons_lt_cons_iff, UInt8.lt_iff_toNat_lt, h1]
theorem toList_inj {a b : ByteArray} (h : a.toList = b.toList) : a = b := by
  rw [Lib.toList_data, Lib.toList_data] at h
  cases a with
  | mk ad => cases b with
    | mk bd => exact congrArg ByteArray.mk (Array.toList_inj.1 h)
theorem kOrd : Bt.Ord klt where
  irr a := by simp [klt, bytesLess_lt, List.lt_irrefl]
  tr a b c h1 h2 := by
    simp only [klt, bytesLess_lt, decide_eq_true_eq] at *
    exact List.lt_trans h1 h2
  tot a b h := bytesLess_tot _ _ (fun e => h (toList_inj e))
theorem toList_beq (a b : ByteArray) : (a.toList == b.toList) = decide (a = b) := by
  by_cases h : a = b
  · subst h; simp
  · rw [decide_eq_false h, beq_eq_false_iff_ne]; exact fun e => h (toList_inj e)

theorem isNaN58 (x : ByteArray) (w : World) : Calls Try.prog 58 #[.string x] w fun e w' => e = .returned (.bool false) ∧ w' = w := by
  go_enter Try.func58, Try.ntmps58
  go_wp2
  go_ret
  exact ⟨by simp, rfl⟩
theorem isNaN65 (x : ByteArray) (w : World) : Calls Try.prog 65 #[.string x] w fun e w' => e = .returned (.bool false) ∧ w' = w := by
  go_enter Try.func65, Try.ntmps65
  go_wp2
  go_ret
  exact ⟨by simp, rfl⟩
theorem less57 (x y : ByteArray) (w : World) : Calls Try.prog 57 #[.string x, .string y] w fun e w' => e = .returned (.bool (Op.bytesLess x.toList y.toList)) ∧ w' = w := by
  go_enter Try.func57, Try.ntmps57
  go_wp2_with (go_at_call 65; refine (isNaN65 _ _).mono ?_; rintro e w' ⟨rfl, rfl⟩)
  go_ret
  exact ⟨rfl, rfl⟩

/-- What the binary search finds: everything ahead of 'i' is below x, nothing from 'i' on is. -/
def Found (bs : List ByteArray) (x : ByteArray) (i : Nat) : Prop :=
  i ≤ bs.length ∧ (∀ (j : Nat) (b : ByteArray), j < i → bs[j]? = some b → klt b x = true) ∧ (∀ (j : Nat) (b : ByteArray), i ≤ j → bs[j]? = some b → klt b x = false)

set_option maxHeartbeats 4000000 in
set_option maxRecDepth 1000000 in
theorem bsearch (bb n c : Nat) (bs : List ByteArray) (x : ByteArray) (w : World) (hn : bs.length = n) (hbig : n < 4611686018427387904) (hc : ∀ (j : Nat) (b : ByteArray), bs[j]? = some b → w.cell? ⟨bb, j, none⟩ = some (.string b))
    (hs : bs.Pairwise fun a b => klt a b = true) :
    Calls Try.prog 49 #[.slice (some ⟨bb, 0, none⟩) n c, .string x] w fun e w' =>
      ∃ i, e = .returned (.tuple #[.int .i64 (i : Nat), .bool (decide (bs[i]? = some x))]) ∧ Found bs x i ∧ w' = w := by
  have hs' : ∀ (i j : Nat) (a b : ByteArray), bs[i]? = some a → bs[j]? = some b → i < j → klt a b = true := by
    intro i j a b ha hb hij
    obtain ⟨hi, rfl⟩ := List.getElem?_eq_some_iff.1 ha
    obtain ⟨hj, rfl⟩ := List.getElem?_eq_some_iff.1 hb
    exact List.pairwise_iff_getElem.1 hs i j hi hj hij
  have HS : Hid (∀ (i j : Nat) (a b : ByteArray), bs[i]? = some a → bs[j]? = some b → i < j → klt a b = true) := hs'
  have HC : Hid (∀ (j : Nat) (b : ByteArray), bs[j]? = some b → w.cell? ⟨bb, j, none⟩ = some (.string b)) := hc
  have HN : Hid (bs.length = n) := hn
  clear hs hs' hc hn
  go_enter Try.func49, Try.ntmps49
  go_wp2
  go_loop [7, 8] (fun s7 s8 => ∃ lo hi : Nat, s7 = .int .i64 lo ∧ s8 = .int .i64 hi ∧ lo ≤ hi ∧ hi ≤ n ∧ Hid ((∀ (j : Nat) (b : ByteArray), j < lo → bs[j]? = some b → klt b x = true) ∧ (∀ (j : Nat) (b : ByteArray), hi ≤ j → bs[j]? = some b → klt b x = false)))
    (fun s7 s8 => (intOf s8).toNat - (intOf s7).toNat)
  case atStart => exact ⟨0, n, rfl, rfl, Nat.zero_le _, Nat.le_refl _, fun j b hj => by omega, fun j b hj hb => by have := (List.getElem?_eq_some_iff.1 hb).1; have := HN.out; omega⟩
  case round =>
    obtain ⟨lo, hi, rfl, rfl, hlh, hin, hlo⟩ := hrel
    by_cases hlt : lo < hi
    · obtain ⟨y, hy⟩ : ∃ y, bs[(lo + hi) / 2]? = some y := ⟨bs[(lo + hi) / 2]'(by have := HN.out; omega), List.getElem?_eq_getElem _⟩
      have cm : w.cell? ⟨bb, (lo + hi) / 2, none⟩ = some (.string y) := HC.out _ _ hy
      have HY : Hid (bs[(lo + hi) / 2]? = some y) := hy
      clear hy
      cases hyx : Op.bytesLess y.toList x.toList
      · go_wp2_with (first | (go_at_call 57; refine (less57 _ _ _).mono ?_; rintro e w' ⟨rfl, rfl⟩) | (go_at_call 58; refine (isNaN58 _ _).mono ?_; rintro e w' ⟨rfl, rfl⟩))
        go_round
        case measure => simp [intOf]; omega
        case rel => exact ⟨lo, (lo + hi) / 2, rfl, by rw [show ((lo : Int) + (hi : Int)) / 2 = (((lo + hi) / 2 : Nat) : Int) by omega], by omega, by omega, hlo.out.1, fun j b hj hb => by
            by_cases e : j = (lo + hi) / 2
            · subst e; rw [HY.out] at hb; obtain rfl := Option.some.inj hb; exact hyx
            · have h1 := HS.out _ _ _ _ HY.out hb (by omega)
              cases h2 : klt b x with
              | false => rfl
              | true => have h3 := kOrd.tr _ _ _ h1 h2; rw [show klt y x = false from hyx] at h3; cases h3⟩
      · go_wp2_with (first | (go_at_call 57; refine (less57 _ _ _).mono ?_; rintro e w' ⟨rfl, rfl⟩) | (go_at_call 58; refine (isNaN58 _ _).mono ?_; rintro e w' ⟨rfl, rfl⟩))
        go_round
        case measure => simp [intOf]; omega
        case rel => exact ⟨(lo + hi) / 2 + 1, hi, by rw [show ((lo : Int) + (hi : Int)) / 2 + 1 = (((lo + hi) / 2 + 1 : Nat) : Int) by omega], rfl, by omega, hin, fun j b hj hb => by
            by_cases e : j = (lo + hi) / 2
            · subst e; rw [HY.out] at hb; obtain rfl := Option.some.inj hb; exact hyx
            · have h1 := HS.out _ _ _ _ hb HY.out (by omega)
              exact kOrd.tr _ _ _ h1 hyx, hlo.out.2⟩
    · have : hi = lo := by omega
      subst this
      have hF : Hid (Found bs x hi) := ⟨by have := HN.out; omega, hlo.out.1, hlo.out.2⟩
      by_cases hn : hi < n
      · obtain ⟨y, hy⟩ : ∃ y, bs[hi]? = some y := ⟨bs[hi]'(by have := HN.out; omega), List.getElem?_eq_getElem _⟩
        have cl : w.cell? ⟨bb, hi, none⟩ = some (.string y) := HC.out _ _ hy
        have HY : Hid (bs[hi]? = some y) := hy
        clear hy hlo
        by_cases hyx : y = x
        · have hbq : (y.toList == x.toList) = true := by rw [hyx]; simp
          have HX : Hid (y = x) := hyx
          clear hyx
          go_wp2_with (first | (go_at_call 57; refine (less57 _ _ _).mono ?_; rintro e w' ⟨rfl, rfl⟩) | (go_at_call 58; refine (isNaN58 _ _).mono ?_; rintro e w' ⟨rfl, rfl⟩))
          go_ret2
          refine ⟨hi, ?_, hF.out, rfl⟩
          rw [HY.out, HX.out]; simp
        · have hne : (y.toList == x.toList) = false := by rw [toList_beq]; simp [hyx]
          have HX : Hid (¬ y = x) := hyx
          clear hyx
          go_wp2_with (first | (go_at_call 57; refine (less57 _ _ _).mono ?_; rintro e w' ⟨rfl, rfl⟩) | (go_at_call 58; refine (isNaN58 _ _).mono ?_; rintro e w' ⟨rfl, rfl⟩))
          all_goals
            go_ret2
            refine ⟨hi, ?_, hF.out, rfl⟩
            rw [HY.out]; have := HX.out; simp [this]
      · go_wp2_with (first | (go_at_call 57; refine (less57 _ _ _).mono ?_; rintro e w' ⟨rfl, rfl⟩) | (go_at_call 58; refine (isNaN58 _ _).mono ?_; rintro e w' ⟨rfl, rfl⟩))
        go_ret2
        refine ⟨hi, ?_, hF.out, rfl⟩
        rw [List.getElem?_eq_none (by have := HN.out; omega)]; simp

/-- The node at block p: its four fields. -/
def NodeAt (w : World) (p : Nat) (refs children bounds : Value) : Prop := w.heap[p]? = some (.cells #[.int .u64 0, refs, children, bounds] 87 (0, 0))
theorem NodeAt.c0 {w : World} {p : Nat} {r c b : Value} (h : NodeAt w p r c b) : w.cell? ⟨p, 0, none⟩ = some (.int .u64 0) := by simp [World.cell?, show w.heap[p]? = _ from h]
theorem NodeAt.c1 {w : World} {p : Nat} {r c b : Value} (h : NodeAt w p r c b) : w.cell? ⟨p, 1, none⟩ = some r := by simp [World.cell?, show w.heap[p]? = _ from h]
theorem NodeAt.c2 {w : World} {p : Nat} {r c b : Value} (h : NodeAt w p r c b) : w.cell? ⟨p, 2, none⟩ = some c := by simp [World.cell?, show w.heap[p]? = _ from h]
theorem NodeAt.c3 {w : World} {p : Nat} {r c b : Value} (h : NodeAt w p r c b) : w.cell? ⟨p, 3, none⟩ = some b := by simp [World.cell?, show w.heap[p]? = _ from h]
theorem NodeAt.free {w : World} {p : Nat} {r c b : Value} (h : NodeAt w p r c b) (j : Nat) : w.frozen? ⟨p, j, none⟩ = false := by simp [World.frozen?, show w.heap[p]? = _ from h]

theorem leaf_yes (p : Nat) (w : World) (h : w.cell? ⟨p, 2, none⟩ = some (.slice none 0 0)) : Calls Try.prog 52 #[.pointer (some ⟨p, 0, none⟩)] w fun e w' => e = .returned (.bool true) ∧ w' = w := by
  have hq := fun a n c => Lib.run_eql_slice_nil (P := Try.prog) w 64 36 a n c 0 0 Try.underlying64
  go_enter Try.func52, Try.ntmps52
  go_wp2
  go_ret
  exact ⟨by simp, rfl⟩
theorem leaf_no (p b n c : Nat) (w : World) (h : w.cell? ⟨p, 2, none⟩ = some (.slice (some ⟨b, 0, none⟩) n c)) : Calls Try.prog 52 #[.pointer (some ⟨p, 0, none⟩)] w fun e w' => e = .returned (.bool false) ∧ w' = w := by
  have hq := fun a n c => Lib.run_eql_slice_nil (P := Try.prog) w 64 36 a n c 0 0 Try.underlying64
  go_enter Try.func52, Try.ntmps52
  go_wp2
  go_ret
  exact ⟨by simp, rfl⟩

theorem found_child {bs : List ByteArray} {x : ByteArray} {i : Nat} (hs : bs.Pairwise fun a b => klt a b = true) (h : Found bs x i) : Bt.childOf klt bs x = if bs[i]? = some x then i + 1 else i := by
  obtain ⟨h1, h2, h3⟩ := h
  split
  · rename_i e
    have hi : i < bs.length := (List.getElem?_eq_some_iff.1 e).1
    refine Bt.childOf_spec (by omega) (fun j b hj hb => ?_) (fun b hb => ?_)
    · by_cases ej : j = i
      · subst ej; rw [e] at hb; obtain rfl := Option.some.inj hb; exact kOrd.irr _
      · exact kOrd.asymm (h2 j b (by omega) hb)
    · obtain ⟨hi1, rfl⟩ := List.getElem?_eq_some_iff.1 e
      obtain ⟨hj, rfl⟩ := List.getElem?_eq_some_iff.1 hb
      exact List.pairwise_iff_getElem.1 hs i (i + 1) hi1 hj (by omega)
  · rename_i e
    refine Bt.childOf_spec h1 (fun j b hj hb => kOrd.asymm (h2 j b hj hb)) (fun b hb => ?_)
    have h4 := h3 i b (Nat.le_refl _) hb
    have hne : b ≠ x := fun e' => e (by rw [hb, e'])
    rcases kOrd.tot _ _ hne with h5 | h5
    · rw [h5] at h4; cases h4
    · exact h5

set_option maxHeartbeats 1000000 in
theorem child_any (p bb n c : Nat) (bs : List ByteArray) (x : ByteArray) (w : World) (h3 : w.cell? ⟨p, 3, none⟩ = some (.slice (some ⟨bb, 0, none⟩) n c)) (hn : bs.length = n) (hbig : n < 4611686018427387904)
    (hc : ∀ (j : Nat) (b : ByteArray), bs[j]? = some b → w.cell? ⟨bb, j, none⟩ = some (.string b)) (hs : bs.Pairwise fun a b => klt a b = true) :
    Calls Try.prog 40 #[.pointer (some ⟨p, 0, none⟩), .string x] w fun e w' => e = .returned (.int .i64 (Bt.childOf klt bs x : Nat)) ∧ w' = w := by
  have H := hid (bsearch bb n c bs x w hn hbig hc hs)
  have HS : Hid (bs.Pairwise fun a b => klt a b = true) := hs
  have HN : Hid (bs.length = n) := hn
  clear hc hs hn
  go_enter Try.func40, Try.ntmps40
  go_wp2_with fail
  refine (Hid.out H).mono ?_
  rintro e w' ⟨i, rfl, hF, rfl⟩
  have hch := found_child HS.out hF
  have hil : i ≤ n := by have := hF.1; have := HN.out; omega
  have HF : Hid (Found bs x i) := hF
  clear hF
  by_cases e : bs[i]? = some x
  · rw [if_pos e] at hch
    have HCH : Hid (Bt.childOf klt bs x = i + 1) := hch
    rw [show decide (bs[i]? = some x) = true by simp [e]]
    clear e hch
    go_wp2
    go_ret
    exact ⟨by rw [HCH.out]; simp, rfl⟩
  · rw [if_neg e] at hch
    have HCH : Hid (Bt.childOf klt bs x = i) := hch
    rw [show decide (bs[i]? = some x) = false by simp [e]]
    clear e hch
    go_wp2
    go_ret
    exact ⟨by rw [HCH.out]; rfl, rfl⟩
end Go.Proofs.Qxb6613201a
