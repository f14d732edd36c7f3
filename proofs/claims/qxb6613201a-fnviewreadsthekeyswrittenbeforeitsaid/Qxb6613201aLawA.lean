/- What both laws lean on. -/
import Derived.Test.Qxb6613201aVisit3
import Derived.Test.Qxb6613201aSort
set_option linter.unusedVariables false
set_option linter.unusedSimpArgs false
namespace Go.Proofs.Qxb6613201a
open Go.RowKit

theorem order_strict {K : Nat → ByteArray} {n : Nat} {od : List Nat} (hp : od.Perm (List.range n)) (hs : od.Pairwise fun a b => leK K a b = true) (hd : ∀ (j a b : Nat), od[j]? = some a → od[j + 1]? = some b → K a ≠ K b) :
    (od.Pairwise fun a b => klt (K a) (K b) = true) ∧ (∀ i j, i < n → j < n → K i = K j → i = j) := by
  have hstr : od.Pairwise fun a b => klt (K a) (K b) = true := by
    rw [List.pairwise_iff_getElem] at hs ⊢
    intro i j hi hj hij
    have h1 : i + 1 < od.length := by omega
    have a1 := hs i (i + 1) hi h1 (by omega)
    have a2 := hd i _ _ (List.getElem?_eq_getElem hi) (List.getElem?_eq_getElem h1)
    have a3 : klt (K od[i]) (K od[i + 1]) = true := by
      simp only [leK, Bool.not_eq_true'] at a1
      rcases kOrd.tot _ _ a2 with h | h
      · exact h
      · rw [h] at a1; cases a1
    by_cases e : j = i + 1
    · subst e; exact a3
    · have a4 := hs (i + 1) j h1 hj (by omega)
      simp only [leK, Bool.not_eq_true'] at a4
      exact kOrd.lt_of_lt_ge a3 a4
  refine ⟨hstr, fun i j hi hj he => ?_⟩
  obtain ⟨a, ha⟩ := List.getElem?_of_mem (hp.mem_iff.2 (List.mem_range.2 hi))
  obtain ⟨b, hb⟩ := List.getElem?_of_mem (hp.mem_iff.2 (List.mem_range.2 hj))
  obtain ⟨ha1, rfl⟩ := List.getElem?_eq_some_iff.1 ha
  obtain ⟨hb1, rfl⟩ := List.getElem?_eq_some_iff.1 hb
  rw [List.pairwise_iff_getElem] at hstr
  rcases Nat.lt_trichotomy a b with h | h | h
  · have := hstr a b ha1 hb1 h; rw [he, kOrd.irr] at this; cases this
  · subst h; rfl
  · have := hstr b a hb1 ha1 h; rw [he, kOrd.irr] at this; cases this

/-- The tree's keys are the order. -/
theorem keys_order {K : Nat → ByteArray} {n d : Nat} {t : Bt.T ByteArray d} {od : List Nat} (hw : Bt.Wf klt K d true true t) (hp : (Bt.keysT d t).Perm (List.range n)) (ho : od.Perm (List.range n)) (hs : od.Pairwise fun a b => klt (K a) (K b) = true) : Bt.keysT d t = od :=
  Bt.sorted_unique (R := fun a b => klt (K a) (K b) = true) (fun a h => by rw [kOrd.irr] at h; cases h) (fun a b h h' => by rw [kOrd.asymm h] at h'; cases h') _ _ (Bt.keys_sorted kOrd d true true t hw) hs (hp.trans ho.symm)
theorem depth_small {K : Nat → ByteArray} {n d : Nat} {t : Bt.T ByteArray d} (hw : Bt.Wf klt K d true true t) (hp : (Bt.keysT d t).Perm (List.range n)) (hn : n ≤ 65536) : d ≤ 16 := by
  by_cases h0 : d = 0
  · omega
  · have h1 := Bt.keys_many d true true t hw (Or.inr (by omega))
    rw [hp.length_eq, List.length_range] at h1
    have h2 : 2 ^ d ≤ 2 ^ 16 := Nat.le_trans h1 hn
    exact (Nat.pow_le_pow_iff_right (by decide)).1 h2

/-- All that stands when the tree has been walked. -/
structure Walked (K : Nat → ByteArray) (n : Nat) (od : List Nat) (w w' : World) (oa : Option Addr) (g ob zb gr rc : Nat) (ca ba : Option Addr) (cc bc : Nat) (ms : List (Nat × ByteArray)) : Prop where
  keys : KeysAt w' oa n K
  ord : w'.ownsRow 0 3 1 (.slice (some ⟨g, 0, none⟩) n n) n (intCells od)
  offs : w'.ownsRow 0 39 1 (.slice (some ⟨ob, 0, none⟩) n n) n (offCells K n n)
  ext : Ext [] w w'
end Go.Proofs.Qxb6613201a
