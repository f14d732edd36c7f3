/- A region that draws its order, with guarded operations that are not wanted: taken first, by hand. -/
import Derived.Test.Qxb6613201aInsLeaf
namespace Go.Proofs.Qxb6613201a
open Go.RowKit
section
variable {P : Program} {ops : Array Oper} {Q : Exit → Act → World → Prop} {md : Region.Mode} {S : World → Prop}

theorem take_skip (i : Nat) (d : Option Nat) {fuel : Nat} {listed : Array Bool} {a : Act} {w : World} (hw : (ops[i]?).map (fun o => (o.dst, Region.wanted o (yielded ops a.tmps))) = some (d, false))
    (hs : Region.noSelect ops = true) (hf : Region.free md ops listed i = true) (hr : (Region.ready md ops listed).contains i = true)
    (hQ : ∀ (d : Option Nat) (v : Value) c a w, Q (.panic c) (a.put d v) w → Q (.panic c) a w) (hS : S w)
    (h : wpAnyH P md ops Q S fuel (listed.setIfInBounds i true) (a.put d undef) w) : wpAnyH P md ops Q S (fuel + 1) listed a w := by
  cases ho : ops[i]? with
  | none => rw [ho] at hw; cases hw
  | some oi =>
    rw [ho] at hw
    simp only [Option.map_some, Option.some.injEq, Prod.mk.injEq] at hw
    obtain ⟨rfl, hw⟩ := hw
    exact wpAnyH_take ho hs hf hr (fun c a w => hQ _ _ c a w) (Or.inr ⟨hw, rfl⟩) hS h
theorem take_one (i : Nat) (d : Option Nat) (v : Value) {fuel : Nat} {listed : Array Bool} {a : Act} {w : World} (hw : (ops[i]?).map (fun o => (o.dst, Region.wanted o (yielded ops a.tmps))) = some (d, true))
    (hs : Region.noSelect ops = true) (hf : Region.free md ops listed i = true) (hr : (Region.ready md ops listed).contains i = true)
    (hQ : ∀ (d : Option Nat) (v : Value) c a w, Q (.panic c) (a.put d v) w → Q (.panic c) a w) (hS : S w)
    (hy : ∀ w, S w → (ops[i]?).map (fun o => (execOp a.eval o).run P w) = some (.ok (.value v) w))
    (h : wpAnyH P md ops Q S fuel (listed.setIfInBounds i true) (a.put d v) w) : wpAnyH P md ops Q S (fuel + 1) listed a w := by
  cases ho : ops[i]? with
  | none => rw [ho] at hw; cases hw
  | some oi =>
    rw [ho] at hw hy
    simp only [Option.map_some, Option.some.injEq, Prod.mk.injEq] at hw hy
    obtain ⟨rfl, hw⟩ := hw
    exact wpAnyH_take ho hs hf hr (fun c a w => hQ _ _ c a w) (Or.inl ⟨hw, hy⟩) hS h
end
end Go.Proofs.Qxb6613201a
