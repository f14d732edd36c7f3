/- Closed facts of this program; what a call leaves of the old memory ('Ext'); copy over elements of several cells. -/
import Derived.Test.Qxb6613201aRows
import Derived.Test.Qxb6613201aPlain
import Derived.WalkKit
import Derived.WalkSpells
import Derived.WalkLawsBesides
import Derived.Lib.SliceRun
import Derived.Lib.JoinLaws
import Derived.Lib.AppendZerosOnto
import Derived.Lib.Overlaps
import Derived.Laws.Externs
import Derived.Laws.CopyOwn
import Derived.Laws.IdiomCopy
import Derived.Deep.RegionLaw
import Derived.Deep.RegionWith
import Derived.Deep.RegionHeld
import Derived.Deep.RegionHeld3
import Derived.Deep.QuietTactic
import Derived.BigQuiet
import Derived.BigRegion
namespace Go.Proofs.Qxb6613201a
open Go.RowKit

/-! ### types -/
theorem info42 : (Try.prog.info? 42).map (fun i => (i.zero, i.size, i.bytes)) = some (some (.agg #[.int .u32 0, .int .u32 0]), 2, 8) := by kernel_rfl
theorem info36 : (Try.prog.info? 36).map (fun i => (i.zero, i.size, i.bytes)) = some (some (.pointer none), 1, 8) := by kernel_rfl
theorem info9 : (Try.prog.info? 9).map (fun i => (i.zero, i.size, i.bytes)) = some (some (.string ⟨#[]⟩), 1, 16) := by kernel_rfl
theorem info3 : (Try.prog.info? 3).map (fun i => (i.zero, i.size, i.bytes)) = some (some (.int .i64 0), 1, 8) := by kernel_rfl
theorem info5 : (Try.prog.info? 5).map (fun i => (i.zero, i.size, i.bytes)) = some (some (.int .u8 0), 1, 1) := by kernel_rfl
theorem info39 : (Try.prog.info? 39).map (fun i => (i.zero, i.size, i.bytes)) = some (some (.int .u32 0), 1, 4) := by kernel_rfl
theorem size42 (w : World) : (Go.sizeOf 42).run Try.prog w = .ok 2 w := by kernel_rfl
theorem size36 (w : World) : (Go.sizeOf 36).run Try.prog w = .ok 1 w := by kernel_rfl
theorem size9 (w : World) : (Go.sizeOf 9).run Try.prog w = .ok 1 w := by kernel_rfl

/-! ### what a call leaves: below the heap's old size only the blocks of S have turned -/
structure Ext (S : List Nat) (w w' : World) : Prop where
  os : w'.os = w.os
  tape : w'.tape = w.tape
  output : w'.output = w.output
  size : w.heap.size ≤ w'.heap.size
  block : ∀ k, k < w.heap.size → k ∉ S → w'.heap[k]? = w.heap[k]?

theorem Ext.refl (S : List Nat) (w : World) : Ext S w w := ⟨rfl, rfl, rfl, Nat.le_refl _, fun _ _ _ => rfl⟩
theorem Ext.trans {S : List Nat} {a b c : World} (h : Ext S a b) (k : Ext S b c) : Ext S a c :=
  ⟨k.os.trans h.os, k.tape.trans h.tape, k.output.trans h.output, Nat.le_trans h.size k.size, fun i hi hS => (k.block i (Nat.lt_of_lt_of_le hi h.size) hS).trans (h.block i hi hS)⟩
/-- The second call may turn what the first has made. -/
theorem Ext.trans' {S S' : List Nat} {a b c : World} (h : Ext S a b) (k : Ext S' b c) (hS : ∀ x ∈ S', x ∈ S ∨ a.heap.size ≤ x) : Ext S a c :=
  ⟨k.os.trans h.os, k.tape.trans h.tape, k.output.trans h.output, Nat.le_trans h.size k.size, fun i hi hn => (k.block i (Nat.lt_of_lt_of_le hi h.size) (fun h' => by rcases hS i h' with h1 | h1; exact hn h1; omega)).trans (h.block i hi hn)⟩
theorem Ext.mono {S S' : List Nat} {a b : World} (h : Ext S a b) (hS : ∀ x ∈ S, x ∈ S') : Ext S' a b :=
  ⟨h.os, h.tape, h.output, h.size, fun i hi hn => h.block i hi (fun h' => hn (hS i h'))⟩
theorem Ext.of_below {w w' : World} (h : Below w.heap.size w w') : Ext [] w w' := ⟨h.os, h.tape, h.output, h.size, fun k hk _ => h.block k hk⟩
theorem Ext.below {w w' : World} (h : Ext [] w w') : Below w.heap.size w w' := ⟨h.os, h.tape, h.output, h.size, fun k hk => h.block k hk (by simp)⟩
/-- All that turned lies above B. -/
theorem Ext.belowB {S : List Nat} {w w' : World} (h : Ext S w w') {B : Nat} (hB : B ≤ w.heap.size) (hS : ∀ x ∈ S, B ≤ x) : Below B w w' :=
  ⟨h.os, h.tape, h.output, h.size, fun k hk => h.block k (by omega) (fun h' => by have := hS k h'; omega)⟩
theorem Ext.alloc {S : List Nat} {a w : World} (h : Ext S a w) (o : Obj) : Ext S a (w.alloc o) :=
  ⟨h.os, h.tape, h.output, Nat.le_trans h.size (by simp), fun k hk hS => (Below.heap_alloc w o k (Nat.lt_of_lt_of_le hk h.size)).trans (h.block k hk hS)⟩
theorem Ext.drew {S : List Nat} {a w : World} (h : Ext S a w) : Ext S a w.drew := ⟨h.os, h.tape, h.output, h.size, h.block⟩
theorem Ext.setCell {S : List Nat} {a w : World} (h : Ext S a w) {p : Addr} (hp : p.block ∈ S ∨ a.heap.size ≤ p.block) (u : Value) : Ext S a (w.setCell p u) :=
  ⟨h.os, h.tape, h.output, Nat.le_trans h.size (by simp), fun k hk hS => (Below.heap_setCell w p u k (fun e => by subst e; rcases hp with h1 | h1; exact hS h1; omega)).trans (h.block k hk hS)⟩
theorem Ext.setRow {S : List Nat} {a w : World} (h : Ext S a w) {g : Nat} (hp : g ∈ S ∨ a.heap.size ≤ g) (cs : Array Value) : Ext S a (w.setRow g cs) :=
  ⟨h.os, h.tape, h.output, Nat.le_trans h.size (by simp [World.setRow]), fun k hk hS => (setRow_other w g k cs (fun e => by subst e; rcases hp with h1 | h1; exact hS h1; omega)).trans (h.block k hk hS)⟩
theorem Ext.cell {S : List Nat} {w w' : World} (h : Ext S w w') {p : Addr} (hp : p.block < w.heap.size) (hS : p.block ∉ S) : w'.cell? p = w.cell? p := World.cell?_of_block (w := w) (h.block p.block hp hS)
theorem Ext.grown {S : List Nat} {a w w' : World} {row : Option Nat} (h : Ext S a w) (hg : w.grownBy w' row) (hr : ∀ k, row = some k → k ∈ S ∨ a.heap.size ≤ k) : Ext S a w' :=
  ⟨hg.os.trans h.os, hg.tape.trans h.tape, hg.output.trans h.output, Nat.le_trans h.size hg.size, fun k hk hS =>
    (hg.block k (Nat.lt_of_lt_of_le hk h.size) (fun e => by rcases hr k e.symm with h1 | h1; exact hS h1; omega)).trans (h.block k hk hS)⟩
theorem Ext.drewN {S : List Nat} {a w : World} (h : Ext S a w) (n : Nat) : Ext S a (w.drewN n) := by
  induction n with
  | zero => exact h
  | succ n ih => exact ih.drew

/-! ### copy, elements of 'size' cells -/
theorem run_copy_rowz {P : Program} (w : World) (dT sT ty elem : TypeId) (size g o dLen dCap : Nat) (a : Addr) (sLen sCap : Nat) (cur : Array Value) (t : TypeId) (cs : List Value)
    (hu : P.underlying dT = some (.slice elem)) (hs : (P.info? elem).map (·.size) = some size)
    (hg : w.heap[g]? = some (.cells cur t (0, 0))) (hn : cs.length = Nat.min sLen dLen * size)
    (hsrc : ∀ j v, cs[j]? = some v → w.cell? (a.add j) = some v) (hfit : o + cs.length ≤ cur.size) (h1 : ∀ v ∈ cs, v.oneCell' = true) :
    (Builtin.copy_ #[dT, sT] ty #[.slice (some ⟨g, o, none⟩) dLen dCap, .slice (some a) sLen sCap]).run P w =
      .ok (goInt (Nat.min sLen dLen)) (w.setRow g (cur.toList.take o ++ cs ++ cur.toList.drop (o + cs.length)).toArray) := by
  have hl := run_firstCells_some (P := P) w size (Nat.min sLen dLen) a sLen sCap cs hn hsrc
  have hst := run_storeCells_at P g o t cs 0 cur w hg (by simpa using hfit) h1
  cases hq : P.info? elem with
  | none => simp [hq] at hs
  | some i =>
    have hi : i.size = size := by simpa [hq] using hs
    simp [Builtin.copy_, run_underlying hu, Builtin.lenOf, sizeOf, typeInfo, hq, hi, hl, hst]

theorem wpList_copy_run {P : Program} (w : World) {ops : Array Oper} {rest : List Oper} {o : Oper} {a : Act} {Q : Exit → Act → World → Prop} (hgd : o.guard = none) (d s : Operand) (t t' : TypeId)
    (ho : o.op = .call { callee := .builtin .copy, args := #[d, s], argTypes := #[t, t'] }) (v u : Value) (hd : a.eval d = v) (hs : a.eval s = u) {v' : Value} {w' : World}
    (hr : (Builtin.copy_ #[t, t'] o.type #[v, u]).run P w = .ok v' w') (h : wpList P ops Q rest (a.put o.dst v') w') : wpList P ops Q (o :: rest) a w := by
  refine wpList_plain hgd fun K hK => ?_
  unfold Oper.wp execOp
  simp only [ho, resolve, invoke, builtin, Sem.run_bind, Sem.run_pure, Result.andThen_ok, List.map_toArray, List.map_cons, List.map_nil, hd, hs, hr]
  exact hK _ _ h
theorem step_copy_run {P : Program} {ops : Array Oper} {o : Oper} {a : Act} {w : World} {K : Act → World → Prop} {Q : Exit → Act → World → Prop} {E : Prop}
    (hg : o.guard = none) (d x : Operand) (dT sT : TypeId) (hop : o.op = Op.call { callee := Callee.builtin Builtin.copy, args := #[d, x], argTypes := #[dT, sT] })
    (v u : Value) (hd : a.eval d = v) (hx : a.eval x = u) {v' : Value} {w' : World} (hr : (Builtin.copy_ #[dT, sT] o.type #[v, u]).run P w = .ok v' w') (hK : K (a.put o.dst v') w') :
    if Region.wanted o (yielded ops a.tmps) = true then Oper.wp P o a w K Q else E := by
  have hw : Region.wanted o (yielded ops a.tmps) = true := by simp [Region.wanted, hg]
  rw [if_pos hw]
  unfold Oper.wp
  simp [execOp, hop, resolve, invoke, builtin, hd, hx, hr, Result.andThen]
  exact hK

/-- A row behind the two copies of slices.Insert. -/
theorem shift_row {α : Type} (cur vs : List α) (p q z : Nat) (hv : vs.length = z) (h : p + z + q ≤ cur.length) :
    (cur.take (p + z) ++ (cur.drop p).take q ++ cur.drop (p + z + q)).take p ++ vs ++ (cur.take (p + z) ++ (cur.drop p).take q ++ cur.drop (p + z + q)).drop (p + vs.length) =
      cur.take p ++ vs ++ (cur.drop p).take q ++ cur.drop (p + z + q) := by
  have e1 : (cur.take (p + z)).length = p + z := by rw [List.length_take]; omega
  have e2 : (cur.take (p + z) ++ (cur.drop p).take q ++ cur.drop (p + z + q)).take p = cur.take p := by
    rw [List.append_assoc, List.take_append_of_le_length (by omega), List.take_take]; congr 1; omega
  have e3 : (cur.take (p + z) ++ (cur.drop p).take q ++ cur.drop (p + z + q)).drop (p + vs.length) = (cur.drop p).take q ++ cur.drop (p + z + q) := by
    rw [hv, List.append_assoc, List.drop_append_of_le_length (by omega), List.drop_of_length_le (by omega)]; rfl
  rw [e2, e3]; simp

theorem cell_row {w : World} {b j : Nat} {cur : List Value} {t : TypeId} {fr : Nat × Nat} {v : Value} (hb : w.heap[b]? = some (.cells cur.toArray t fr)) (hj : cur[j]? = some v) : w.cell? ⟨b, j, none⟩ = some v := by
  simp [World.cell?, hb, hj]

theorem hid {p : Prop} (h : p) : Hid p := h

/-- append within the capacity, from whatever source, onto a row that is known whole. -/
theorem run_append_src_row {P : Program} (w : World) (t tx ty e : TypeId) (i : TypeInfo) (ht : P.underlying t = some (.slice e)) (hi : P.info? e = some i)
    (g sLen sCap : Nat) (cur : Array Value) (hg : w.heap[g]? = some (.cells cur e (0, 0))) (x : Value) (n : Nat) (news : List Value) (hs : Src P i.size tx x n news w) (hroom : sLen + n ≤ sCap) (hfit : sLen * i.size + news.length ≤ cur.size) :
    (Builtin.append_ #[t, tx] ty #[.slice (some ⟨g, 0, none⟩) sLen sCap, x]).run P w =
      .ok (.slice (some ⟨g, 0, none⟩) (sLen + n) sCap) (w.setRow g (cur.toList.take (sLen * i.size) ++ news ++ cur.toList.drop (sLen * i.size + news.length)).toArray) := by
  have hst := run_storeCells_at P g (sLen * i.size) e news 0 cur w hg (by simpa using hfit) hs.one
  simp only [Nat.add_zero] at hst
  have hc := hs.cells
  have hl := hs.len
  rcases hs.kind with ⟨e', hk⟩ | hk
  · simp [Builtin.append_, run_underlying ht, run_underlying hk, sizeOf, typeInfo, hi, hl, hroom, hc, Addr.add_lit, hst]
  · simp [Builtin.append_, run_underlying ht, run_underlying hk, sizeOf, typeInfo, hi, hl, hroom, hc, Addr.add_lit, hst]
theorem step_append_run {P : Program} {ops : Array Oper} {o : Oper} {a : Act} {w : World} {K : Act → World → Prop} {Q : Exit → Act → World → Prop} {E : Prop}
    (hg : o.guard = none) (d x : Operand) (dT sT : TypeId) (hop : o.op = Op.call { callee := Callee.builtin Builtin.append, args := #[d, x], argTypes := #[dT, sT] })
    (v u : Value) (hd : a.eval d = v) (hx : a.eval x = u) {v' : Value} {w' : World} (hr : (Builtin.append_ #[dT, sT] o.type #[v, u]).run P w = .ok v' w') (hK : K (a.put o.dst v') w') :
    if Region.wanted o (yielded ops a.tmps) = true then Oper.wp P o a w K Q else E := by
  have hw : Region.wanted o (yielded ops a.tmps) = true := by simp [Region.wanted, hg]
  rw [if_pos hw]
  unfold Oper.wp
  simp [execOp, hop, resolve, invoke, builtin, hd, hx, hr, Result.andThen]
  exact hK

end Go.Proofs.Qxb6613201a
