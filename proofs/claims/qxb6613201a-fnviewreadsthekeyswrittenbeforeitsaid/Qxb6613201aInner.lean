/- '(*table).insert' at an inner node. -/
import Derived.Test.Qxb6613201aSplit
import Derived.Test.Qxb6613201aIns55
import Derived.Test.Qxb6613201aIns56
import Derived.Deep.Cut
set_option linter.unusedVariables false
set_option linter.unusedSimpArgs false
namespace Go.Proofs.Qxb6613201a
open Go.RowKit

def ptrO : Option Nat → Value
  | none => .pointer none
  | some q => .pointer (some ⟨q, 0, none⟩)

theorem ptr_get {ps : List Nat} {j q : Nat} (h : ps[j]? = some q) : (ptrCells ps)[j]? = some (.pointer (some ⟨q, 0, none⟩)) := by simp [ptrCells, h]
theorem str_get {bs : List ByteArray} {j : Nat} {q : ByteArray} (h : bs[j]? = some q) : (strCells bs)[j]? = some (.string q) := by simp [strCells, h]


theorem nin {a b : Nat} (h : a ≠ b) : a ∉ [b] := by simpa using h
theorem g2a (w : World) (A B : Obj) : w.heap.size < ((w.alloc A).alloc B).drew.heap.size := by show _ < ((w.alloc A).alloc B).heap.size; simp; omega
theorem g3a (w : World) (A B : Obj) : w.heap.size + 1 < ((w.alloc A).alloc B).drew.heap.size := by show _ < ((w.alloc A).alloc B).heap.size; simp

def insC (ps : List Nat) (i qn : Nat) : List Nat := ps.take (i + 1) ++ qn :: ps.drop (i + 1)
def insB (bs : List ByteArray) (i : Nat) (bd : ByteArray) : List ByteArray := bs.take i ++ bd :: bs.drop i
/-- The node with one child and one bound more. -/
def RoomOut (p cb bb m n qn i : Nat) (ps : List Nat) (bd : ByteArray) (bs : List ByteArray) (w2 w' : World) : Prop :=
  NodeAt w' p (.slice none 0 0) (.slice (some ⟨cb, 0, none⟩) (m + 1) 64) (.slice (some ⟨bb, 0, none⟩) (n + 1) 63) ∧ w'.ownsRow 0 36 1 (.slice (some ⟨cb, 0, none⟩) (m + 1) 64) (m + 1) (ptrCells (insC ps i qn)) ∧
    w'.ownsRow 0 9 1 (.slice (some ⟨bb, 0, none⟩) (n + 1) 63) (n + 1) (strCells (insB bs i bd)) ∧ Ext [p, cb, bb] w2 w'
/-- The node parted in two. -/
def SplitOut (p cb bb qn i : Nat) (ps : List Nat) (bd : ByteArray) (bs : List ByteArray) (w2 w' : World) (q : Nat) : Prop :=
  NodeAt w' p (.slice none 0 0) (.slice (some ⟨cb, 0, none⟩) 32 64) (.slice (some ⟨bb, 0, none⟩) 31 63) ∧ w'.ownsRow 0 36 1 (.slice (some ⟨cb, 0, none⟩) 32 64) 32 (ptrCells ((insC ps i qn).take 32)) ∧
    w'.ownsRow 0 9 1 (.slice (some ⟨bb, 0, none⟩) 31 63) 31 (strCells ((insB bs i bd).take 31)) ∧ (∃ ga gb, NodeAt w' q (.slice none 0 0) (.slice (some ⟨ga, 0, none⟩) 33 64) (.slice (some ⟨gb, 0, none⟩) 32 63) ∧
    w'.ownsRow 0 36 1 (.slice (some ⟨ga, 0, none⟩) 33 64) 33 (ptrCells ((insC ps i qn).drop 32)) ∧ w'.ownsRow 0 9 1 (.slice (some ⟨gb, 0, none⟩) 32 63) 32 (strCells ((insB bs i bd).drop 32)) ∧
    w2.heap.size ≤ q ∧ w2.heap.size ≤ ga ∧ w2.heap.size ≤ gb ∧ q ≠ ga ∧ q ≠ gb ∧ ga ≠ gb) ∧ Ext [p, cb, bb] w2 w'
/-- slices.Insert into the children, as the region of 'insert' calls it. -/
def Out55 (cb m qn i : Nat) (ps : List Nat) (W w' : World) (g c : Nat) : Prop := w'.ownsRow 0 36 1 (.slice (some ⟨g, 0, none⟩) (m + 1) c) (m + 1) (ptrCells (insC ps i qn)) ∧
  ((m < 64 ∧ g = cb ∧ c = 64 ∧ Ext [cb] W w') ∨ (m = 64 ∧ g = W.heap.size ∧ Ext [] W w'))
def Out56 (bb n i : Nat) (bd : ByteArray) (bs : List ByteArray) (W w' : World) (g c : Nat) : Prop := w'.ownsRow 0 9 1 (.slice (some ⟨g, 0, none⟩) (n + 1) c) (n + 1) (strCells (insB bs i bd)) ∧
  ((n < 63 ∧ g = bb ∧ c = 63 ∧ Ext [bb] W w') ∨ (n = 63 ∧ g = W.heap.size ∧ Ext [] W w'))
theorem call55 {wc : World} {p cb bb m n i qn : Nat} {ps : List Nat} (hN : NodeAt wc p (.slice none 0 0) (.slice (some ⟨cb, 0, none⟩) m 64) (.slice (some ⟨bb, 0, none⟩) n 63)) (ho : wc.ownsRow 0 36 1 (.slice (some ⟨cb, 0, none⟩) m 64) m (ptrCells ps)) (hi : i + 1 ≤ m) (hpc : p ≠ cb) :
    ∀ (S0 : List Nat) (W : World) (vb : Nat), Ext S0 wc W → cb ∉ S0 → p ∉ S0 → wc.heap.size ≤ vb → W.heap[vb]? = some (.cells #[.pointer (some ⟨qn, 0, none⟩)] 36 (0, 0)) →
      Calls Try.prog 55 #[.slice (some ⟨cb, 0, none⟩) m 64, .int .i64 ((i : Int) + 1), .slice (some ⟨vb, 0, none⟩) 1 1] W fun e w' =>
        ∃ g c, e = .returned (.slice (some ⟨g, 0, none⟩) (m + 1) c) ∧ Hid (Out55 cb m qn i ps W w' g c) ∧ Ext (cb :: S0) wc w' ∧ Ext [cb] W w' ∧ (w'.cell? ⟨p, 2, none⟩ = some (.slice (some ⟨cb, 0, none⟩) m 64) ∧ w'.cell? ⟨p, 3, none⟩ = some (.slice (some ⟨bb, 0, none⟩) n 63)) := by
  intro S0 W vb hx hc hp hv hb
  have hcl := owns_lt ho
  refine (ins55_any cb m 64 (i + 1) vb (ptrCells ps) [.pointer (some ⟨qn, 0, none⟩)] 36 W hi (by omega) (by omega) (owns_same ho (hx.block cb hcl hc)) hb rfl (ptr_one _) (by intro v hv; simp at hv; rw [hv]; rfl)).mono ?_
  rintro e w' ⟨g, c, rfl, ho', hr⟩
  have hr' : Ext [cb] W w' := by
    rcases hr with ⟨_, _, _, h⟩ | ⟨_, _, h⟩
    · exact h
    · exact h.mono (by simp)
  have hx' : Ext (cb :: S0) wc w' := (hx.mono (by intro x hx; exact List.mem_cons_of_mem _ hx)).trans (hr'.mono (by simp))
  have hp' : p ∉ cb :: S0 := by simp [hpc, hp]
  refine ⟨g, c, rfl, ⟨?_, hr⟩, hx', hr', (hx'.cell (p := ⟨p, 2, none⟩) (lt_of_block hN) hp').trans hN.c2, (hx'.cell (p := ⟨p, 3, none⟩) (lt_of_block hN) hp').trans hN.c3⟩
  have e1 : (ptrCells ps).take ((i + 1) * 1) ++ [.pointer (some ⟨qn, 0, none⟩)] ++ (ptrCells ps).drop ((i + 1) * 1) = ptrCells (insC ps i qn) := by simp [ptrCells, insC]
  rw [← e1]; exact ho'
theorem call56 {wc : World} {p cb bb m n i : Nat} {bd : ByteArray} {bs : List ByteArray} (hN : NodeAt wc p (.slice none 0 0) (.slice (some ⟨cb, 0, none⟩) m 64) (.slice (some ⟨bb, 0, none⟩) n 63)) (ho : wc.ownsRow 0 9 1 (.slice (some ⟨bb, 0, none⟩) n 63) n (strCells bs)) (hi : i ≤ n) (hpc : p ≠ bb) :
    ∀ (S0 : List Nat) (W : World) (vb : Nat), Ext S0 wc W → bb ∉ S0 → p ∉ S0 → wc.heap.size ≤ vb → W.heap[vb]? = some (.cells #[.string bd] 9 (0, 0)) →
      Calls Try.prog 56 #[.slice (some ⟨bb, 0, none⟩) n 63, .int .i64 (i : Int), .slice (some ⟨vb, 0, none⟩) 1 1] W fun e w' =>
        ∃ g c, e = .returned (.slice (some ⟨g, 0, none⟩) (n + 1) c) ∧ Hid (Out56 bb n i bd bs W w' g c) ∧ Ext (bb :: S0) wc w' ∧ Ext [bb] W w' ∧ (w'.cell? ⟨p, 2, none⟩ = some (.slice (some ⟨cb, 0, none⟩) m 64) ∧ w'.cell? ⟨p, 3, none⟩ = some (.slice (some ⟨bb, 0, none⟩) n 63)) := by
  intro S0 W vb hx hc hp hv hb
  have hcl := owns_lt ho
  refine (ins56_any bb n 63 i vb (strCells bs) [.string bd] 9 W hi (by omega) (by omega) (owns_same ho (hx.block bb hcl hc)) hb rfl (str_one _) (by intro v hv; simp at hv; rw [hv]; rfl)).mono ?_
  rintro e w' ⟨g, c, rfl, ho', hr⟩
  have hr' : Ext [bb] W w' := by
    rcases hr with ⟨_, _, _, h⟩ | ⟨_, _, h⟩
    · exact h
    · exact h.mono (by simp)
  have hx' : Ext (bb :: S0) wc w' := (hx.mono (by intro x hx; exact List.mem_cons_of_mem _ hx)).trans (hr'.mono (by simp))
  have hp' : p ∉ bb :: S0 := by simp [hpc, hp]
  refine ⟨g, c, rfl, ⟨?_, hr⟩, hx', hr', (hx'.cell (p := ⟨p, 2, none⟩) (lt_of_block hN) hp').trans hN.c2, (hx'.cell (p := ⟨p, 3, none⟩) (lt_of_block hN) hp').trans hN.c3⟩
  have e1 : (strCells bs).take (i * 1) ++ [.string bd] ++ (strCells bs).drop (i * 1) = strCells (insB bs i bd) := by simp [strCells, insB]
  rw [← e1]; exact ho'
/-- What the two insertions leave. -/
def Both (cb bb m n qn i : Nat) (ps : List Nat) (bd : ByteArray) (bs : List ByteArray) (wc wx : World) (g1 c1 g2 c2 : Nat) : Prop :=
  wx.ownsRow 0 36 1 (.slice (some ⟨g1, 0, none⟩) (m + 1) c1) (m + 1) (ptrCells (insC ps i qn)) ∧ wx.ownsRow 0 9 1 (.slice (some ⟨g2, 0, none⟩) (n + 1) c2) (n + 1) (strCells (insB bs i bd)) ∧
  ((m < 64 ∧ g1 = cb ∧ c1 = 64 ∧ g2 = bb ∧ c2 = 63 ∧ Ext [cb, bb] wc wx) ∨ (m = 64 ∧ wc.heap.size ≤ g1 ∧ wc.heap.size ≤ g2 ∧ Ext [] wc wx))
theorem fin12 {cb bb m n qn i : Nat} {ps : List Nat} {bd : ByteArray} {bs : List ByteArray} {wc W1 w1 W2 w2 : World} {g1 c1 g2 c2 : Nat} (hmn : m = n + 1) (hcb : cb ≠ bb) (hbl : bb < wc.heap.size) (hcl : cb < wc.heap.size) (hE0 : Ext [] wc W1) (h1 : Hid (Out55 cb m qn i ps W1 w1 g1 c1)) (hE1 : Ext [] w1 W2) (h2 : Hid (Out56 bb n i bd bs W2 w2 g2 c2)) :
    Both cb bb m n qn i ps bd bs wc w2 g1 c1 g2 c2 := by
  obtain ⟨o1, r1⟩ := h1.out
  obtain ⟨o2, r2⟩ := h2.out
  have hl := owns_lt o1
  have z0 := hE0.size
  have z1 := hE1.size
  rcases r1 with ⟨a1, rfl, rfl, x1⟩ | ⟨a1, rfl, x1⟩ <;> rcases r2 with ⟨a2, rfl, rfl, x2⟩ | ⟨a2, rfl, x2⟩
  · exact ⟨owns_same (owns_same o1 (hE1.block _ hl (by simp))) (x2.block _ (by omega) (by simpa using hcb)), o2, Or.inl ⟨a1, rfl, rfl, rfl, rfl, ((hE0.mono (by simp)).trans (x1.mono (by simp))).trans ((hE1.mono (by simp)).trans (x2.mono (by simp)))⟩⟩
  · omega
  · omega
  · have z2 := x1.size
    exact ⟨owns_same (owns_same o1 (hE1.block _ hl (by simp))) (x2.block _ (by omega) (by simp)), o2, Or.inr ⟨a1, by omega, by omega, (hE0.trans x1).trans (hE1.trans x2)⟩⟩

set_option maxHeartbeats 8000000 in
set_option maxRecDepth 100000 in
theorem insert_inner (tb : Nat) (off : Nat → Nat) (K : Nat → ByteArray) (p cb bb m n k q0 i : Nat) (ps : List Nat) (bs : List ByteArray) (last : Bool) (F : List Nat) (Q : Option Nat → ByteArray → World → Prop) (w : World)
    (hN : NodeAt w p (.slice none 0 0) (.slice (some ⟨cb, 0, none⟩) m 64) (.slice (some ⟨bb, 0, none⟩) n 63)) (ho1 : w.ownsRow 0 36 1 (.slice (some ⟨cb, 0, none⟩) m 64) m (ptrCells ps)) (ho2 : w.ownsRow 0 9 1 (.slice (some ⟨bb, 0, none⟩) n 63) n (strCells bs))
    (hps : ps.length = m) (hbs : bs.length = n) (hmn : m = n + 1) (hm : m ≤ 64) (hi : Bt.childOf klt bs (K k) = i) (hs : bs.Pairwise fun a b => klt a b = true) (hq0 : ps[i]? = some q0)
    (hv : w.cell? ⟨tb, 3, none⟩ = some (.int .u64 0)) (htF : tb ∉ F) (hpc : p ≠ cb) (hpb : p ≠ bb) (hcb : cb ≠ bb) (hFl : ∀ x ∈ F, x < w.heap.size) (hpF : p ∉ F) (hcF : cb ∉ F) (hbF : bb ∉ F)
    (H : ∀ W, Below w.heap.size w W → Calls Try.prog 45 #[.pointer (some ⟨tb, 0, none⟩), .pointer (some ⟨q0, 0, none⟩), .string (K k), .agg #[.int .u32 1, .int .u32 (off k)], .bool (last && (i + 1 == m))] W fun e w' =>
      ∃ op bd, e = .returned (.tuple #[ptrO op, .string bd]) ∧ Ext F W w' ∧ Q op bd w') :
    Calls Try.prog 45 #[.pointer (some ⟨tb, 0, none⟩), .pointer (some ⟨p, 0, none⟩), .string (K k), .agg #[.int .u32 1, .int .u32 (off k)], .bool last] w fun e w' =>
      (e = .returned (.tuple #[.pointer none, .string ⟨#[]⟩]) ∧ ∃ bd, Q none bd w' ∧ Ext F w w') ∨
      (∃ qn bd w2, Q (some qn) bd w2 ∧ Ext F w w2 ∧ ((m < 64 ∧ e = .returned (.tuple #[.pointer none, .string ⟨#[]⟩]) ∧ RoomOut p cb bb m n qn i ps bd bs w2 w') ∨
        (m = 64 ∧ ∃ q b31, (insB bs i bd)[31]? = some b31 ∧ e = .returned (.tuple #[.pointer (some ⟨q, 0, none⟩), .string b31]) ∧ SplitOut p cb bb qn i ps bd bs w2 w' q))) := by
  have hplt : p < w.heap.size := lt_of_block hN
  have hclt : cb < w.heap.size := owns_lt ho1
  have hblt : bb < w.heap.size := owns_lt ho2
  have hil : i ≤ n := by rw [← hi, ← hbs]; exact Bt.childOf_le _ _
  -- behind the box
  obtain ⟨W1, hW1⟩ : ∃ W1, w.alloc (.cells #[.int .u32 1, .int .u32 (off k : Int)] 42) = W1 := ⟨_, rfl⟩
  have hb1 : Below w.heap.size w W1 := by rw [← hW1]; exact (Below.refl _ _).alloc (Nat.le_refl _) _
  have hs1 : W1.heap.size = w.heap.size + 1 := by rw [← hW1]; simp
  have x0 : W1.cell? ⟨w.heap.size, 0, none⟩ = some (.int .u32 1) := by rw [← hW1]; simp
  have x1 : W1.cell? ⟨w.heap.size, 1, none⟩ = some (.int .u32 (off k : Int)) := by rw [← hW1]; simp
  have c2 := ((hb1.cell (p := ⟨p, 2, none⟩) hplt).trans hN.c2)
  have c3 := ((hb1.cell (p := ⟨p, 3, none⟩) hplt).trans hN.c3)
  have ci : W1.cell? ⟨cb, i, none⟩ = some (.pointer (some ⟨q0, 0, none⟩)) := (hb1.cell (p := ⟨cb, i, none⟩) hclt).trans (owns_cell ho1 (ptr_get hq0))
  have H40 := hid (child_any p bb n 63 bs (K k) W1 c3 hbs (by omega) (fun j b hj => (hb1.cell (p := ⟨bb, j, none⟩) hblt).trans (owns_cell ho2 (str_get hj))) hs)
  rw [hi] at H40
  have hg : (last && (i + 1 == m)) = (last && ((i : Int) == (m : Int) - 1)) := by
    congr 1
    by_cases e : i + 1 = m
    · have e' : (i : Int) = (m : Int) - 1 := by omega
      simp [e, e']
    · have e' : ¬ (i : Int) = (m : Int) - 1 := by omega
      rw [beq_eq_false_iff_ne.2 e, beq_eq_false_iff_ne.2 e']
  have d0 : W1.drew.cell? ⟨p, 2, none⟩ = some (.slice (some ⟨cb, 0, none⟩) m 64) := c2
  have d1 : W1.drew.cell? ⟨cb, i, none⟩ = some (.pointer (some ⟨q0, 0, none⟩)) := ci
  have d2 : W1.drew.cell? ⟨w.heap.size, 0, none⟩ = some (.int .u32 1) := x0
  have d3 : W1.drew.cell? ⟨w.heap.size, 1, none⟩ = some (.int .u32 (off k : Int)) := x1
  have hwF : w.heap.size ∉ F := fun h => Nat.lt_irrefl _ (hFl _ h)
  have H15 : Hid (Calls Try.prog 45 #[.pointer (some ⟨tb, 0, none⟩), .pointer (some ⟨q0, 0, none⟩), .string (K k), .agg #[.int .u32 1, .int .u32 (off k)], .bool (last && ((i : Int) == (m : Int) - 1))] W1.drew fun e w' =>
      ∃ op bd, e = .returned (.tuple #[ptrO op, .string bd]) ∧ Hid (Ext F w w' ∧ Q op bd w') ∧ (w'.cell? ⟨p, 2, none⟩ = some (.slice (some ⟨cb, 0, none⟩) m 64) ∧ w'.cell? ⟨cb, i, none⟩ = some (.pointer (some ⟨q0, 0, none⟩)) ∧ w'.cell? ⟨w.heap.size, 0, none⟩ = some (.int .u32 1) ∧ w'.cell? ⟨w.heap.size, 1, none⟩ = some (.int .u32 (off k : Int)))) := by
    rw [← hg]
    refine (H W1.drew hb1.drew).mono ?_
    rintro e w' ⟨op, bd, he, hx, hq⟩
    exact ⟨op, bd, he, ⟨((below_ext F hb1).drew).trans hx, hq⟩, (hx.cell (p := ⟨p, 2, none⟩) (World.block_lt_of_cell? _ _ d0) hpF).trans d0, (hx.cell (p := ⟨cb, i, none⟩) (World.block_lt_of_cell? _ _ d1) hcF).trans d1,
      (hx.cell (p := ⟨w.heap.size, 0, none⟩) (World.block_lt_of_cell? _ _ d2) hwF).trans d2, (hx.cell (p := ⟨w.heap.size, 1, none⟩) (World.block_lt_of_cell? _ _ d3) hwF).trans d3⟩
  have hlt : (i : Int) < (m : Int) := by omega
  have hm64 : (m : Int) ≤ 64 := by omega
  have h0m : (1 : Int) ≤ (m : Int) := by omega
  have hwr : IntKind.wrap .i64 ((m : Int) - 1) = (m : Int) - 1 := by rw [IntKind.wrap_i64] <;> omega
  have hwi : IntKind.wrap .i64 ((i : Int) + 1) = (i : Int) + 1 := by rw [IntKind.wrap_i64] <;> omega
  have HW1 := hid hW1
  have HNP := hid hN
  have HO1 := hid ho1
  have HO2 := hid ho2
  have HFS := hid (And.intro hpF (And.intro hcF hbF))
  have HTB := hid (And.intro hv htF)
  have HNE := hid (And.intro hpc (And.intro hpb hcb))
  have HNUM := hid (And.intro hmn (And.intro hps (And.intro hbs hil)))
  have HPL := hid (And.intro hplt (And.intro hclt hblt))
  clear hv htF hpc hpb hcb hN ho1 ho2 hps hbs hmn hm hi hs hq0 hpF hcF hbF H hil hW1 hb1 hplt hclt hblt hs1 hg c3 ci x0 x1
  go_enter Try.func45, Try.ntmps45
  go_wp2_with fail
  rw [HW1.out]
  refine (leaf_no p cb m 64 W1 c2).mono ?_
  rintro e w' ⟨rfl, rfl⟩
  go_wp2_with fail
  refine (Hid.out H40).mono ?_
  rintro e w'' ⟨rfl, rfl⟩
  clear H40 HW1
  go_upto_region 15 with fail
  go_cut [20, 21] from 27 (fun a b wx => ∃ op bd, a = ptrO op ∧ b = .string bd ∧ Ext F w wx ∧ Q op bd wx)
  case first =>
    clear HNP HO1 HO2 HFS HNUM HPL
    cases last with
    | true =>
      rw [Bool.true_and] at H15
      go_region_held3 (fun w' => w'.cell? ⟨p, 2, none⟩ = some (.slice (some ⟨cb, 0, none⟩) m 64) ∧ w'.cell? ⟨cb, i, none⟩ = some (.pointer (some ⟨q0, 0, none⟩)) ∧ w'.cell? ⟨w.heap.size, 0, none⟩ = some (.int .u32 1) ∧ w'.cell? ⟨w.heap.size, 1, none⟩ = some (.int .u32 (off k : Int))) (first | (assumption) | (go_keep))
        (first
          | (go_at_call 45; refine (Hid.out H15).mono ?_; rintro e w3 ⟨op, bd, rfl, hx3, hS3⟩))
      go_wp2_with fail
      go_meet
      case rel => exact ⟨op, bd, rfl, rfl, hx3.out⟩
    | false =>
      rw [Bool.false_and] at H15
      refine wp_region_noPanic ?_
      refine wp_region_held_drew (S := fun w' => w'.cell? ⟨p, 2, none⟩ = some (.slice (some ⟨cb, 0, none⟩) m 64) ∧ w'.cell? ⟨cb, i, none⟩ = some (.pointer (some ⟨q0, 0, none⟩)) ∧ w'.cell? ⟨w.heap.size, 0, none⟩ = some (.int .u32 1) ∧ w'.cell? ⟨w.heap.size, 1, none⟩ = some (.int .u32 (off k : Int))) (by kernel_rfl) ⟨d0, d1, d2, d3⟩ (fun hHeld => ?_)
      refine take_one 0 (some 95) (.pointer (some ⟨tb, 0, none⟩)) (by kernel_rfl) (by kernel_rfl) (by kernel_rfl) (by kernel_rfl) (by intro _ _ _ _ _ h; exact h) hHeld (by intro w hSw; first | rfl | ((try dsimp only at hSw); go_simp)) ?_
      try simp only [Act.put, List.setIfInBounds_toArray, List.set_cons_zero, List.set_cons_succ]
      refine take_one 1 (some 96) (.pointer (some ⟨p, 0, none⟩)) (by kernel_rfl) (by kernel_rfl) (by kernel_rfl) (by kernel_rfl) (by intro _ _ _ _ _ h; exact h) hHeld (by intro w hSw; first | rfl | ((try dsimp only at hSw); go_simp)) ?_
      try simp only [Act.put, List.setIfInBounds_toArray, List.set_cons_zero, List.set_cons_succ]
      refine take_one 2 (some 97) (.pointer (some ⟨p, 0, none⟩)) (by kernel_rfl) (by kernel_rfl) (by kernel_rfl) (by kernel_rfl) (by intro _ _ _ _ _ h; exact h) hHeld (by intro w hSw; first | rfl | ((try dsimp only at hSw); go_simp)) ?_
      try simp only [Act.put, List.setIfInBounds_toArray, List.set_cons_zero, List.set_cons_succ]
      refine take_one 3 (some 98) (.pointer (some ⟨p, 2, none⟩)) (by kernel_rfl) (by kernel_rfl) (by kernel_rfl) (by kernel_rfl) (by intro _ _ _ _ _ h; exact h) hHeld (by intro w hSw; first | rfl | ((try dsimp only at hSw); go_simp)) ?_
      try simp only [Act.put, List.setIfInBounds_toArray, List.set_cons_zero, List.set_cons_succ]
      refine take_one 4 (some 99) (.slice (some ⟨cb, 0, none⟩) m 64) (by kernel_rfl) (by kernel_rfl) (by kernel_rfl) (by kernel_rfl) (by intro _ _ _ _ _ h; exact h) hHeld (by intro w hSw; go_simp) ?_
      try simp only [Act.put, List.setIfInBounds_toArray, List.set_cons_zero, List.set_cons_succ]
      refine take_one 5 (some 100) (.int .i64 i) (by kernel_rfl) (by kernel_rfl) (by kernel_rfl) (by kernel_rfl) (by intro _ _ _ _ _ h; exact h) hHeld (by intro w hSw; first | rfl | ((try dsimp only at hSw); go_simp)) ?_
      try simp only [Act.put, List.setIfInBounds_toArray, List.set_cons_zero, List.set_cons_succ]
      refine take_one 6 (some 101) (.pointer (some ⟨cb, i, none⟩)) (by kernel_rfl) (by kernel_rfl) (by kernel_rfl) (by kernel_rfl) (by intro _ _ _ _ _ h; exact h) hHeld (by intro w hSw; go_simp) ?_
      try simp only [Act.put, List.setIfInBounds_toArray, List.set_cons_zero, List.set_cons_succ]
      refine take_one 7 (some 102) (.pointer (some ⟨q0, 0, none⟩)) (by kernel_rfl) (by kernel_rfl) (by kernel_rfl) (by kernel_rfl) (by intro _ _ _ _ _ h; exact h) hHeld (by intro w hSw; go_simp) ?_
      try simp only [Act.put, List.setIfInBounds_toArray, List.set_cons_zero, List.set_cons_succ]
      refine take_one 8 (some 103) (.string (K k)) (by kernel_rfl) (by kernel_rfl) (by kernel_rfl) (by kernel_rfl) (by intro _ _ _ _ _ h; exact h) hHeld (by intro w hSw; first | rfl | ((try dsimp only at hSw); go_simp)) ?_
      try simp only [Act.put, List.setIfInBounds_toArray, List.set_cons_zero, List.set_cons_succ]
      refine take_one 9 (some 104) (.agg #[.int .u32 1, .int .u32 (off k)]) (by kernel_rfl) (by kernel_rfl) (by kernel_rfl) (by kernel_rfl) (by intro _ _ _ _ _ h; exact h) hHeld (by intro w hSw; go_simp) ?_
      try simp only [Act.put, List.setIfInBounds_toArray, List.set_cons_zero, List.set_cons_succ]
      refine take_one 10 (some 105) (.bool false) (by kernel_rfl) (by kernel_rfl) (by kernel_rfl) (by kernel_rfl) (by intro _ _ _ _ _ h; exact h) hHeld (by intro w hSw; first | rfl | ((try dsimp only at hSw); go_simp)) ?_
      try simp only [Act.put, List.setIfInBounds_toArray, List.set_cons_zero, List.set_cons_succ]
      refine take_one 11 (some 106) (.bool false) (by kernel_rfl) (by kernel_rfl) (by kernel_rfl) (by kernel_rfl) (by intro _ _ _ _ _ h; exact h) hHeld (by intro w hSw; first | rfl | ((try dsimp only at hSw); go_simp)) ?_
      try simp only [Act.put, List.setIfInBounds_toArray, List.set_cons_zero, List.set_cons_succ]
      refine take_skip 12 (some 107) (by kernel_rfl) (by kernel_rfl) (by kernel_rfl) (by kernel_rfl) (by intro _ _ _ _ _ h; exact h) hHeld ?_
      try simp only [Act.put, List.setIfInBounds_toArray, List.set_cons_zero, List.set_cons_succ]
      refine take_skip 13 (some 108) (by kernel_rfl) (by kernel_rfl) (by kernel_rfl) (by kernel_rfl) (by intro _ _ _ _ _ h; exact h) hHeld ?_
      try simp only [Act.put, List.setIfInBounds_toArray, List.set_cons_zero, List.set_cons_succ]
      refine take_skip 14 (some 109) (by kernel_rfl) (by kernel_rfl) (by kernel_rfl) (by kernel_rfl) (by intro _ _ _ _ _ h; exact h) hHeld ?_
      try simp only [Act.put, List.setIfInBounds_toArray, List.set_cons_zero, List.set_cons_succ]
      refine take_skip 15 (some 110) (by kernel_rfl) (by kernel_rfl) (by kernel_rfl) (by kernel_rfl) (by intro _ _ _ _ _ h; exact h) hHeld ?_
      try simp only [Act.put, List.setIfInBounds_toArray, List.set_cons_zero, List.set_cons_succ]
      refine take_skip 16 (some 111) (by kernel_rfl) (by kernel_rfl) (by kernel_rfl) (by kernel_rfl) (by intro _ _ _ _ _ h; exact h) hHeld ?_
      try simp only [Act.put, List.setIfInBounds_toArray, List.set_cons_zero, List.set_cons_succ]
      refine take_skip 17 (some 112) (by kernel_rfl) (by kernel_rfl) (by kernel_rfl) (by kernel_rfl) (by intro _ _ _ _ _ h; exact h) hHeld ?_
      try simp only [Act.put, List.setIfInBounds_toArray, List.set_cons_zero, List.set_cons_succ]
      refine take_skip 18 (some 113) (by kernel_rfl) (by kernel_rfl) (by kernel_rfl) (by kernel_rfl) (by intro _ _ _ _ _ h; exact h) hHeld ?_
      try simp only [Act.put, List.setIfInBounds_toArray, List.set_cons_zero, List.set_cons_succ]
      refine take_skip 19 (some 114) (by kernel_rfl) (by kernel_rfl) (by kernel_rfl) (by kernel_rfl) (by intro _ _ _ _ _ h; exact h) hHeld ?_
      try simp only [Act.put, List.setIfInBounds_toArray, List.set_cons_zero, List.set_cons_succ]
      refine take_one 20 (some 115) (.bool false) (by kernel_rfl) (by kernel_rfl) (by kernel_rfl) (by kernel_rfl) (by intro _ _ _ _ _ h; exact h) hHeld (by intro w hSw; first | rfl | ((try dsimp only at hSw); go_simp)) ?_
      try simp only [Act.put, List.setIfInBounds_toArray, List.set_cons_zero, List.set_cons_succ]
      refine wpAnyH_ready (rs := [21]) (by kernel_rfl) (by simp) ?_
      refine AllReadyH.cons rfl (fun K hK => ?_) AllReadyH.nil
      go_simp
      refine (Hid.out H15).mono ?_
      rintro e w3 ⟨op, bd, rfl, hx3, hS3⟩
      go_wp2_with fail
      refine hK.out _ _ hS3 (fun hHeld => ?_)
      clear hK K
      refine take_one 22 (some 94) (.tuple #[ptrO op, .string bd]) (by kernel_rfl) (by kernel_rfl) (by kernel_rfl) (by kernel_rfl) (by intro _ _ _ _ _ h; exact h) hHeld (by intro w hSw; first | rfl | ((try dsimp only at hSw); go_simp)) ?_
      try simp only [Act.put, List.setIfInBounds_toArray, List.set_cons_zero, List.set_cons_succ]
      refine take_one 23 (some 117) (ptrO op) (by kernel_rfl) (by kernel_rfl) (by kernel_rfl) (by kernel_rfl) (by intro _ _ _ _ _ h; exact h) hHeld (by intro w hSw; first | rfl | ((try dsimp only at hSw); go_simp)) ?_
      try simp only [Act.put, List.setIfInBounds_toArray, List.set_cons_zero, List.set_cons_succ]
      refine take_one 24 (some 118) (.string bd) (by kernel_rfl) (by kernel_rfl) (by kernel_rfl) (by kernel_rfl) (by intro _ _ _ _ _ h; exact h) hHeld (by intro w hSw; first | rfl | ((try dsimp only at hSw); go_simp)) ?_
      try simp only [Act.put, List.setIfInBounds_toArray, List.set_cons_zero, List.set_cons_succ]
      refine take_one 25 (some 20) (ptrO op) (by kernel_rfl) (by kernel_rfl) (by kernel_rfl) (by kernel_rfl) (by intro _ _ _ _ _ h; exact h) hHeld (by intro w hSw; first | rfl | ((try dsimp only at hSw); go_simp)) ?_
      try simp only [Act.put, List.setIfInBounds_toArray, List.set_cons_zero, List.set_cons_succ]
      refine take_one 26 (some 21) (.string bd) (by kernel_rfl) (by kernel_rfl) (by kernel_rfl) (by kernel_rfl) (by intro _ _ _ _ _ h; exact h) hHeld (by intro w hSw; first | rfl | ((try dsimp only at hSw); go_simp)) ?_
      try simp only [Act.put, List.setIfInBounds_toArray, List.set_cons_zero, List.set_cons_succ]
      refine wpAnyH_done (by kernel_rfl) ?_ _
      refine NoPanic.normal ?_
      go_wp2_with fail
      go_meet
      case rel => exact ⟨op, bd, rfl, rfl, hx3.out⟩
  case rest =>
    rename World => w2
    obtain ⟨op, bd, ha, hb, hxc, hqc⟩ := hcut
    cases op with
    | none =>
      replace ha : u20 = .pointer none := ha
      subst ha hb
      have HXC := hid hxc
      have HQC := hid hqc
      clear hxc hqc
      go_wp2_with fail
      go_ret2
      exact Or.inl ⟨rfl, _, HQC.out, HXC.out⟩
    | some qn =>
      replace ha : u20 = .pointer (some ⟨qn, 0, none⟩) := ha
      subst ha hb
      have hne := HNE.out
      have hF := HFS.out
      have hpl := HPL.out
      have hnum := HNUM.out
      have hNc : NodeAt w2 p (.slice none 0 0) (.slice (some ⟨cb, 0, none⟩) m 64) (.slice (some ⟨bb, 0, none⟩) n 63) := (hxc.block p hpl.1 hF.1).trans HNP.out
      have hoc1 : w2.ownsRow 0 36 1 (.slice (some ⟨cb, 0, none⟩) m 64) m (ptrCells ps) := owns_same HO1.out (hxc.block cb hpl.2.1 hF.2.1)
      have hoc2 : w2.ownsRow 0 9 1 (.slice (some ⟨bb, 0, none⟩) n 63) n (strCells bs) := owns_same HO2.out (hxc.block bb hpl.2.2 hF.2.2)
      have K55 := hid (call55 (qn := qn) (i := i) hNc hoc1 (by omega) hne.1)
      have K56 := hid (call56 (bd := bd) (i := i) hNc hoc2 (by omega) hne.2.1)
      have n2 := hNc.c2
      have n3 := hNc.c3
      have HBL : Hid (cb < w2.heap.size ∧ bb < w2.heap.size) := ⟨owns_lt hoc1, owns_lt hoc2⟩
      have HN2 := hid hNc
      have HP1 := hid hoc1
      have HP2 := hid hoc2
      have HXC := hid hxc
      have HQC := hid hqc
      clear hxc hqc hNc hoc1 hoc2 hne hF hpl hnum c2 d0 d1 d2 d3 H15
      go_upto_region 18 with fail
      go_cut [22, 23] from 27 (fun a b wx => ∃ g1 c1 g2 c2, a = .slice (some ⟨g1, 0, none⟩) (m + 1) c1 ∧ b = .slice (some ⟨g2, 0, none⟩) (n + 1) c2 ∧ Hid (Both cb bb m n qn i ps bd bs w2 wx g1 c1 g2 c2))
      case first =>
        go_region_held3 (fun w' => w'.cell? ⟨p, 2, none⟩ = some (.slice (some ⟨cb, 0, none⟩) m 64) ∧ w'.cell? ⟨p, 3, none⟩ = some (.slice (some ⟨bb, 0, none⟩) n 63)) (first | (assumption) | (go_keep))
            (first
              | (go_at_call 55; refine (Hid.out K55 [] _ _ ?_ ?_ ?_ ?_ ?_).mono ?_; (with_reducible first | exact Ext.refl _ _ | exact hX1 | exact hX2 | exact hX1.alloc _ | exact hX2.alloc _ | exact ((Ext.refl _ _).alloc _).drew | exact (((Ext.refl _ _).alloc _).alloc _).drew | exact (Ext.refl _ _).alloc _); (first | exact List.not_mem_nil | exact List.not_mem_cons_of_ne_of_not_mem HNE.out.1 List.not_mem_nil | exact List.not_mem_cons_of_ne_of_not_mem HNE.out.2.1 List.not_mem_nil | exact List.not_mem_cons_of_ne_of_not_mem HNE.out.2.2 List.not_mem_nil | exact List.not_mem_cons_of_ne_of_not_mem HNE.out.2.2.symm List.not_mem_nil); (first | exact List.not_mem_nil | exact List.not_mem_cons_of_ne_of_not_mem HNE.out.1 List.not_mem_nil | exact List.not_mem_cons_of_ne_of_not_mem HNE.out.2.1 List.not_mem_nil | exact List.not_mem_cons_of_ne_of_not_mem HNE.out.2.2 List.not_mem_nil | exact List.not_mem_cons_of_ne_of_not_mem HNE.out.2.2.symm List.not_mem_nil); (with_reducible first | exact Nat.le_refl _ | exact Nat.le_succ _ | exact hX1.size | exact hX2.size); (with_reducible first | exact heap_alloc_new _ _ | exact f1 _ _ | exact f2 _ _ _ | exact f3 _ _ _ | exact (hQ2.block _ (g2a _ _ _) (Nat.ne_of_gt (HBL.out).2 |> nin)).trans (f2 _ _ _) | exact (hQ2.block _ (g3a _ _ _) (Nat.ne_of_gt (Nat.lt_succ_of_lt (HBL.out).2) |> nin)).trans (f3 _ _ _)); rintro e w1 ⟨g1, c1, rfl, hR1, hX1, hQ1, hS1⟩)
              | (go_at_call 56; refine (Hid.out K56 [cb] _ _ ?_ ?_ ?_ ?_ ?_).mono ?_; (with_reducible first | exact Ext.refl _ _ | exact hX1 | exact hX2 | exact hX1.alloc _ | exact hX2.alloc _ | exact ((Ext.refl _ _).alloc _).drew | exact (((Ext.refl _ _).alloc _).alloc _).drew | exact (Ext.refl _ _).alloc _); (first | exact List.not_mem_nil | exact List.not_mem_cons_of_ne_of_not_mem HNE.out.1 List.not_mem_nil | exact List.not_mem_cons_of_ne_of_not_mem HNE.out.2.1 List.not_mem_nil | exact List.not_mem_cons_of_ne_of_not_mem HNE.out.2.2 List.not_mem_nil | exact List.not_mem_cons_of_ne_of_not_mem HNE.out.2.2.symm List.not_mem_nil); (first | exact List.not_mem_nil | exact List.not_mem_cons_of_ne_of_not_mem HNE.out.1 List.not_mem_nil | exact List.not_mem_cons_of_ne_of_not_mem HNE.out.2.1 List.not_mem_nil | exact List.not_mem_cons_of_ne_of_not_mem HNE.out.2.2 List.not_mem_nil | exact List.not_mem_cons_of_ne_of_not_mem HNE.out.2.2.symm List.not_mem_nil); (with_reducible first | exact Nat.le_refl _ | exact Nat.le_succ _ | exact hX1.size | exact hX2.size); (with_reducible first | exact heap_alloc_new _ _ | exact f1 _ _ | exact f2 _ _ _ | exact f3 _ _ _ | exact (hQ1.block _ (g2a _ _ _) (Nat.ne_of_gt (HBL.out).1 |> nin)).trans (f2 _ _ _) | exact (hQ1.block _ (g3a _ _ _) (Nat.ne_of_gt (Nat.lt_succ_of_lt (HBL.out).1) |> nin)).trans (f3 _ _ _)); rintro e w2 ⟨g2, c2, rfl, hR2, hX2, hQ2, hS2⟩))
        all_goals go_wp2_with fail
        all_goals go_meet
        all_goals
          refine ⟨_, _, _, _, rfl, rfl, ?_⟩
          have hne := HNE.out
          have hbl := HBL.out
          have hnum := HNUM.out
          first
            | exact fin12 hnum.1 hne.2.2 hbl.2 hbl.1 (by (with_reducible first | exact Ext.refl _ _ | exact hX1 | exact hX2 | exact hX1.alloc _ | exact hX2.alloc _ | exact ((Ext.refl _ _).alloc _).drew | exact (((Ext.refl _ _).alloc _).alloc _).drew | exact (Ext.refl _ _).alloc _)) hR1 (by (with_reducible first | exact Ext.refl _ _ | exact hX1 | exact hX2 | exact hX1.alloc _ | exact hX2.alloc _ | exact ((Ext.refl _ _).alloc _).drew | exact (((Ext.refl _ _).alloc _).alloc _).drew | exact (Ext.refl _ _).alloc _)) hR2
      case rest =>
        rename World => w3
        obtain ⟨g1, c1, g2, c2, ha, hb, hB⟩ := hcut
        subst ha hb
        clear n2 n3 K55 K56 hwi hwr
        by_cases hm' : m < 64
        · obtain ⟨ho1, ho2, rfl, rfl, rfl, rfl, hx3⟩ : w3.ownsRow 0 36 1 (.slice (some ⟨g1, 0, none⟩) (m + 1) c1) (m + 1) (ptrCells (insC ps i qn)) ∧ w3.ownsRow 0 9 1 (.slice (some ⟨g2, 0, none⟩) (n + 1) c2) (n + 1) (strCells (insB bs i bd)) ∧ g1 = cb ∧ c1 = 64 ∧ g2 = bb ∧ c2 = 63 ∧ Ext [cb, bb] w2 w3 := by
            obtain ⟨h1, h2, h3 | h3⟩ := hB.out
            · exact ⟨h1, h2, h3.2⟩
            · omega
          have hne := HNE.out
          have hN3 : NodeAt w3 p (.slice none 0 0) (.slice (some ⟨g1, 0, none⟩) m 64) (.slice (some ⟨g2, 0, none⟩) n 63) := (hx3.block p (lt_of_block HN2.out) (by simp [hne])).trans HN2.out
          have n2 := hN3.c2
          have e2 := hN3.free 2
          have hN4 := node_set2 hN3 (.slice (some ⟨g1, 0, none⟩) (m + 1) 64)
          have n3 := hN4.c3
          have e3 := hN4.free 3
          have hN5 := node_set3 hN4 (.slice (some ⟨g2, 0, none⟩) (n + 1) 63)
          have HF : Hid (RoomOut p g1 g2 m n qn i ps bd bs w2 ((w3.setCell ⟨p, 2, none⟩ (.slice (some ⟨g1, 0, none⟩) (m + 1) 64)).setCell ⟨p, 3, none⟩ (.slice (some ⟨g2, 0, none⟩) (n + 1) 63))) :=
            ⟨hN5, ownsRow_setCell_other (ownsRow_setCell_other ho1 (by simp [Value.ownBlock]; exact fun e => hne.1 e.symm) _) (by simp [Value.ownBlock]; exact fun e => hne.1 e.symm) _,
              ownsRow_setCell_other (ownsRow_setCell_other ho2 (by simp [Value.ownBlock]; exact fun e => hne.2.1 e.symm) _) (by simp [Value.ownBlock]; exact fun e => hne.2.1 e.symm) _,
              ((hx3.mono (by simp)).setCell (Or.inl (by simp)) _).setCell (Or.inl (by simp)) _⟩
          have hm1 : (m : Int) + 1 ≤ 64 := by omega
          have HM := hid hm'
          clear hB ho1 ho2 hx3 hN3 hN4 hN5 HNP HO1 HO2 HFS HNE HNUM HPL HN2 HP1 HP2 hm' hne hm64 h0m hlt HBL
          go_wp2_with fail
          go_ret2
          exact Or.inr ⟨_, _, _, HQC.out, HXC.out, Or.inl ⟨HM.out, rfl, HF.out⟩⟩
        · obtain ⟨ho1, ho2, hm64', hg1, hg2, hx3⟩ : w3.ownsRow 0 36 1 (.slice (some ⟨g1, 0, none⟩) (m + 1) c1) (m + 1) (ptrCells (insC ps i qn)) ∧ w3.ownsRow 0 9 1 (.slice (some ⟨g2, 0, none⟩) (n + 1) c2) (n + 1) (strCells (insB bs i bd)) ∧ m = 64 ∧ w2.heap.size ≤ g1 ∧ w2.heap.size ≤ g2 ∧ Ext [] w2 w3 := by
            obtain ⟨h1, h2, h3 | h3⟩ := hB.out
            · omega
            · exact ⟨h1, h2, h3⟩
          have hnum := HNUM.out
          have hn63 : n = 63 := by omega
          subst hm64' hn63
          replace ho1 : w3.ownsRow 0 36 1 (.slice (some ⟨g1, 0, none⟩) 65 c1) 65 (ptrCells (insC ps i qn)) := ho1
          replace ho2 : w3.ownsRow 0 9 1 (.slice (some ⟨g2, 0, none⟩) 64 c2) 64 (strCells (insB bs i bd)) := ho2
          have hl1 : (insC ps i qn).length = 65 := by simp [insC]; omega
          have hl2 : (insB bs i bd).length = 64 := by simp [insB]; omega
          obtain ⟨b31, hb31⟩ : ∃ b31, (insB bs i bd)[31]? = some b31 := ⟨_, List.getElem?_eq_getElem (by omega)⟩
          obtain ⟨_, _, hc1, hc1m, _, _⟩ := row_of ho1
          obtain ⟨_, _, hc2, hc2m, _, _⟩ := row_of ho2
          have hg1l := owns_lt ho1
          have hg2l := owns_lt ho2
          have hne := HNE.out
          have hbl := HBL.out
          have hpl2 : p < w2.heap.size := lt_of_block HN2.out
          have htl : tb < w.heap.size := World.block_lt_of_cell? _ _ HTB.out.1
          have hv3 : w3.drew.cell? ⟨tb, 3, none⟩ = some (.int .u64 0) := (hx3.cell (p := ⟨tb, 3, none⟩) (Nat.lt_of_lt_of_le htl HXC.out.size) (by simp)).trans ((HXC.out.cell (p := ⟨tb, 3, none⟩) htl HTB.out.2).trans HTB.out.1)
          have H46 := hid (newInner46 tb 33 32 (.slice (some ⟨g1, 32, none⟩) 33 (c1 - 32)) (.slice (some ⟨g2, 32, none⟩) 32 (c2 - 32)) (ptrCells ((insC ps i qn).drop 32)) (strCells ((insB bs i bd).drop 32)) w3.drew hv3 (by omega) (by omega) (by rw [ptr_len, List.length_drop]; omega) (by rw [str_len, List.length_drop]; omega)
            (fun w' hb => by
              have := src_ptrs (a := 32) (m := 33) (owns_same ho1 (show w'.heap[g1]? = w3.heap[g1]? from hb.block g1 hg1l)) hl1 (by omega) (c1 - 32)
              rwa [List.take_of_length_le (by rw [List.length_drop]; omega)] at this)
            (fun w' hb => by
              have := src_strs (a := 32) (m := 32) (owns_same ho2 (show w'.heap[g2]? = w3.heap[g2]? from hb.block g2 hg2l)) hl2 (by omega) (c2 - 32)
              rwa [List.take_of_length_le (by rw [List.length_drop]; omega)] at this))
          have HO3 := hid (And.intro ho1 ho2)
          have HX3 := hid hx3
          have HL := hid (And.intro hl1 hl2)
          have HB31 := hid hb31
          have HG := hid (And.intro hg1 hg2)
          have HGL := hid (And.intro hg1l hg2l)
          unfold maxLen at hc1m hc2m
          have kc1 : (65 : Int) ≤ (c1 : Int) := by omega
          have kc2 : (64 : Int) ≤ (c2 : Int) := by omega
          have lc1 : ¬ (c1 = 32) := by omega
          have lc2 : ¬ (c2 = 32) := by omega
          clear hB ho1 ho2 hx3 hl1 hl2 hb31 hg1 hg2 hnum hm' hne hbl hpl2 htl hv3 hc1 hc2 hc1m hc2m hm64 h0m hlt hg1l hg2l
          go_wp2_with fail
          go_region_held3 (fun _ => True) (first | (trivial))
            (first
              | (go_at_call 46; refine (Hid.out H46).mono ?_; rintro e w4 ⟨q, rfl, hI⟩))
          obtain ⟨ga, gb, hNq, hoa, hob, hx4, hq1, hq2, hq3, hq4, hq5, hq6, hq7, hq8, hq9⟩ := hI
          have hz : w3.drew.heap.size = w3.heap.size := rfl
          have hne := HNE.out
          have hbl := HBL.out
          have hgg := HG.out
          have hgl := HGL.out
          have hpl2 : p < w2.heap.size := lt_of_block HN2.out
          have hz2 := HX3.out.size
          have hz3 := hx4.size
          have hx24 : Ext [] w2 w4 := (HX3.out.drew).trans hx4
          have hN4 : NodeAt w4 p (.slice none 0 0) (.slice (some ⟨cb, 0, none⟩) 64 64) (.slice (some ⟨bb, 0, none⟩) 63 63) := (hx24.block p hpl2 (by simp)).trans HN2.out
          have hD1 : w4.ownsRow 0 36 1 (.slice (some ⟨g1, 0, none⟩) 65 c1) 65 (ptrCells (insC ps i qn)) := owns_same HO3.out.1 (hx4.block g1 (by omega) (by simp))
          have hD2 : w4.ownsRow 0 9 1 (.slice (some ⟨g2, 0, none⟩) 64 c2) 64 (strCells (insB bs i bd)) := owns_same HO3.out.2 (hx4.block g2 (by omega) (by simp))
          have z31 : w4.cell? ⟨g2, 31, none⟩ = some (.string b31) := owns_cell hD2 (str_get HB31.out)
          obtain ⟨W5, W6, X1, X2, hr1, hr2, ha1, ha2, m5, m6, m7, m8, hoX1, hoX2, hxX⟩ := split_tail hN4 (owns_same HP1.out (hx24.block cb hbl.1 (by simp))) (owns_same HP2.out (hx24.block bb hbl.2 (by simp))) hD1 hD2 HL.out.1 HL.out.2 hne (by omega) (by omega)
          have n4 := hN4.c2
          have n5 := m5.c3
          have n6 : W6.drew.cell? ⟨p, 2, none⟩ = some (.slice (some ⟨cb, 0, none⟩) 64 64) := m6.c2
          have n6' : W6.drew.cell? ⟨p, 3, none⟩ = some (.slice (some ⟨bb, 0, none⟩) 63 63) := m6.c3
          have n7 := m7.c2
          have n7' := m7.c3
          have n8 := m8.c2
          have e8 := m8.free 2
          have m9 := node_set2 m8 (.slice (some ⟨cb, 0, none⟩) 32 64)
          have n9 := m9.c3
          have e9 := m9.free 3
          have m10 := node_set3 m9 (.slice (some ⟨bb, 0, none⟩) 31 63)
          obtain ⟨W8, hW8⟩ : ∃ W8, (X2.setCell ⟨p, 2, none⟩ (.slice (some ⟨cb, 0, none⟩) 32 64)).setCell ⟨p, 3, none⟩ (.slice (some ⟨bb, 0, none⟩) 31 63) = W8 := ⟨_, rfl⟩
          have hx8 : Ext [p] X2 W8 := by rw [← hW8]; exact ((Ext.refl [p] X2).setCell (Or.inl (by simp)) _).setCell (Or.inl (by simp)) _
          rw [hW8] at m10
          have hzX := hxX.size
          have HF : Hid (SplitOut p cb bb qn i ps bd bs w2 W8 q) :=
            ⟨m10, owns_same hoX1 (hx8.block cb (by omega) (by simp; omega)), owns_same hoX2 (hx8.block bb (by omega) (by simp; omega)),
              ⟨ga, gb, (hx8.block q (by omega) (by simp; omega)).trans ((hxX.block q (by omega) (by simp; omega)).trans hNq), owns_same (owns_same hoa (hxX.block ga (by omega) (by simp; omega))) (hx8.block ga (by omega) (by simp; omega)),
                owns_same (owns_same hob (hxX.block gb (by omega) (by simp; omega))) (hx8.block gb (by omega) (by simp; omega)), by omega, by omega, by omega, hq7, hq8, hq9⟩,
              ((hx24.mono (by simp)).trans (hxX.mono (by simp))).trans (hx8.mono (by simp))⟩
          have kc3 : (32 : Int) ≤ (c1 : Int) := by omega
          have kc4 : (31 : Int) ≤ (c2 : Int) := by omega
          clear kc1 kc2 lc1 lc2
          have hw31 : IntKind.wrap .i64 31 = 31 := by decide
          have HA1 := hid ha1
          have HA2 := hid ha2
          have HW8 := hid hW8
          clear ha1 ha2 hW8 m5 m6 m7 m8 m9 m10 hoX1 hoX2 hxX hx8 hzX hNq hoa hob hx4 hq1 hq2 hq3 hq4 hq5 hq6 hq7 hq8 hq9 hz hne hbl hgg hgl hpl2 hz2 hz3 hx24 hN4 hD1 hD2 H46 HO3 HX3 HL HG HGL HNP HO1 HO2 HFS HNE HNUM HPL HN2 HP1 HP2 HBL HTB
          go_wp2_with fail
          go_region_law (first | refine step_append_run rfl (.tmp 184) (.tmp 187) 64 64 rfl _ _ rfl rfl (HA1.out _) ?_ | refine step_append_run rfl (.tmp 193) (.tmp 197) 22 22 rfl _ _ rfl rfl (HA2.out _) ?_)
          all_goals rw [HW8.out]
          all_goals go_wp2_with fail
          all_goals go_ret2
          all_goals exact Or.inr ⟨_, _, _, HQC.out, HXC.out, _, _, HB31.out, rfl, HF.out⟩
end Go.Proofs.Qxb6613201a
