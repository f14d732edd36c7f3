/- '(*table).insert' at a leaf. -/
import Derived.Test.Qxb6613201aMem
import Derived.Test.Qxb6613201aIns53
set_option linter.unusedVariables false
set_option linter.unusedSimpArgs false
namespace Go.Proofs.Qxb6613201a
open Go.RowKit

theorem below_ext {w w' : World} (S : List Nat) (h : Below w.heap.size w w') : Ext S w w' := (Ext.of_below h).mono (fun x hx => by cases hx)

theorem setCell_block {w : World} {p j : Nat} {cs : Array Value} {t : TypeId} {fr : Nat × Nat} (h : w.heap[p]? = some (.cells cs t fr)) (v : Value) : (w.setCell ⟨p, j, none⟩ v).heap[p]? = some (.cells (cs.setIfInBounds j v) t fr) := by
  rw [setCell_eq_setRow w p j cs t fr v h]
  exact setRow_heap w p cs _ t fr h
theorem node_set1 {w : World} {p : Nat} {r c b : Value} (h : NodeAt w p r c b) (v : Value) : NodeAt (w.setCell ⟨p, 1, none⟩ v) p v c b := setCell_block h v
theorem node_set2 {w : World} {p : Nat} {r c b : Value} (h : NodeAt w p r c b) (v : Value) : NodeAt (w.setCell ⟨p, 2, none⟩ v) p r v b := setCell_block h v
theorem node_set3 {w : World} {p : Nat} {r c b : Value} (h : NodeAt w p r c b) (v : Value) : NodeAt (w.setCell ⟨p, 3, none⟩ v) p r c v := setCell_block h v

/-- slices.Insert(n.refs, i, ref) as the region of 'insert' calls it. -/
theorem ins53_call {w w2 : World} {p rb n c i k n0 : Nat} {off : Nat → Nat} {ks : List Nat} (hN : w2.cell? ⟨p, 1, none⟩ = some (.slice (some ⟨rb, 0, none⟩) n 256)) (ho : w2.ownsRow 0 42 2 (.slice (some ⟨rb, 0, none⟩) n 256) n (refCells off ks))
    (y0 : w2.cell? ⟨n0, 0, none⟩ = some (.int .u32 1)) (y1 : w2.cell? ⟨n0, 1, none⟩ = some (.int .u32 (off k : Int))) (hil : i ≤ n) (hpr : p ≠ rb) (hnr : n0 ≠ rb) :
    Calls Try.prog 53 #[.slice (some ⟨rb, 0, none⟩) n 256, .int .i64 i, .slice (some ⟨w2.heap.size, 0, none⟩) 1 1] (w2.alloc (.cells #[.int .u32 1, .int .u32 (off k : Int)] 42)).drew fun e w3 =>
      ∃ g c', e = .returned (.slice (some ⟨g, 0, none⟩) (n + 1) c') ∧ Hid (w3.ownsRow 0 42 2 (.slice (some ⟨g, 0, none⟩) (n + 1) c') (n + 1) (refCells off (ks.take i ++ k :: ks.drop i)) ∧
        ((n < 256 ∧ g = rb ∧ c' = 256 ∧ Ext [rb] w2 w3) ∨ (n = 256 ∧ w2.heap.size ≤ g ∧ Ext [] w2 w3))) ∧
        (w3.cell? ⟨p, 1, none⟩ = some (.slice (some ⟨rb, 0, none⟩) n 256) ∧ w3.cell? ⟨n0, 0, none⟩ = some (.int .u32 1) ∧ w3.cell? ⟨n0, 1, none⟩ = some (.int .u32 (off k : Int))) := by
  have hx0 : Ext [] w2 (w2.alloc (.cells #[.int .u32 1, .int .u32 (off k : Int)] 42)).drew := ((Ext.refl [] w2).alloc _).drew
  have hr := owns_lt ho
  have hplt : p < w2.heap.size := World.block_lt_of_cell? _ _ hN
  have hnlt : n0 < w2.heap.size := World.block_lt_of_cell? _ _ y0
  refine (ins53_any rb n 256 i w2.heap.size (refCells off ks) [.int .u32 1, .int .u32 (off k : Int)] 42 _ hil (by omega) (by omega) (owns_same ho (hx0.block rb hr (by simp))) (heap_alloc_new w2 _) rfl (refCells_one off ks) (by intro v hv; simp at hv; rcases hv with rfl | rfl <;> rfl)).mono ?_
  rintro e w3 ⟨g, c', rfl, ho3, hx⟩
  rw [refCells_ins] at ho3
  have hS : ∀ (b j : Nat), b < w2.heap.size → b ≠ rb → w3.cell? ⟨b, j, none⟩ = w2.cell? ⟨b, j, none⟩ := fun b j hb hne => by
    have h0 := hx0.cell (p := ⟨b, j, none⟩) hb (by simp)
    rcases hx with ⟨_, _, _, hx⟩ | ⟨_, _, hx⟩
    · exact (hx.cell (p := ⟨b, j, none⟩) (Nat.lt_of_lt_of_le hb hx0.size) (by simpa using hne)).trans h0
    · exact (hx.cell (p := ⟨b, j, none⟩) (Nat.lt_of_lt_of_le hb hx0.size) (by simp)).trans h0
  refine ⟨g, c', rfl, ⟨ho3, ?_⟩, (hS p 1 hplt hpr).trans hN, (hS n0 0 hnlt hnr).trans y0, (hS n0 1 hnlt hnr).trans y1⟩
  rcases hx with ⟨h1, h2, h3, hx⟩ | ⟨h1, h2, hx⟩
  · exact Or.inl ⟨h1, h2, h3, (hx0.mono (by simp)).trans hx⟩
  · refine Or.inr ⟨h1, ?_, hx0.trans hx⟩
    rw [h2]; show w2.heap.size ≤ (w2.alloc _).heap.size; simp

set_option maxHeartbeats 4000000 in
set_option maxRecDepth 100000 in
theorem insert_leaf_room (tb cb rb0 cap : Nat) (bytes : List UInt8) (off : Nat → Nat) (K : Nat → ByteArray) (p rb k : Nat) (ks : List Nat) (last : Bool) (w : World) (E : Env w tb cb rb0 bytes cap) (hKs : Keys bytes off K ks)
    (hs : ks.Pairwise fun i j => klt (K i) (K j) = true) (hN : NodeAt w p (.slice (some ⟨rb, 0, none⟩) ks.length 256) (.slice none 0 0) (.slice none 0 0)) (ho : w.ownsRow 0 42 2 (.slice (some ⟨rb, 0, none⟩) ks.length 256) ks.length (refCells off ks))
    (hlen : ks.length < 256) (hpr : p ≠ rb) :
    Calls Try.prog 45 #[.pointer (some ⟨tb, 0, none⟩), .pointer (some ⟨p, 0, none⟩), .string (K k), .agg #[.int .u32 1, .int .u32 (off k)], .bool last] w fun e w' =>
      e = .returned (.tuple #[.pointer none, .string ⟨#[]⟩]) ∧ NodeAt w' p (.slice (some ⟨rb, 0, none⟩) (ks.length + 1) 256) (.slice none 0 0) (.slice none 0 0) ∧
        w'.ownsRow 0 42 2 (.slice (some ⟨rb, 0, none⟩) (ks.length + 1) 256) (ks.length + 1) (refCells off (ks.take (Bt.posn klt K ks (K k)) ++ k :: ks.drop (Bt.posn klt K ks (K k)))) ∧ Ext [p, rb] w w' := by
  have hL := leaf_of hN ho
  have hplt : p < w.heap.size := lt_of_block hN
  have hrlt : rb < w.heap.size := owns_lt ho
  have hil := Bt.posn_le (lt := klt) (K := K) ks (K k)
  -- behind the box
  obtain ⟨W1, hW1⟩ : ∃ W1, w.alloc (.cells #[.int .u32 1, .int .u32 (off k : Int)] 42) = W1 := ⟨_, rfl⟩
  have hb1 : Below w.heap.size w W1 := by rw [← hW1]; exact (Below.refl _ _).alloc (Nat.le_refl _) _
  have hs1 : W1.heap.size = w.heap.size + 1 := by rw [← hW1]; simp
  have x0 : W1.cell? ⟨w.heap.size, 0, none⟩ = some (.int .u32 1) := by rw [← hW1]; simp
  have x1 : W1.cell? ⟨w.heap.size, 1, none⟩ = some (.int .u32 (off k : Int)) := by rw [← hW1]; simp
  have c2 := ((hb1.cell (p := ⟨p, 2, none⟩) hplt).trans hN.c2)
  have HP := hid (position39 tb cb rb0 cap p rb 256 bytes off K ks (K k) W1 (E.below hb1) hKs (hL.below hb1) hs (by omega))
  have HW1 := hid hW1
  have HN := hid hN
  have HO := hid ho
  have HB1 := hid hb1
  obtain ⟨i, hi⟩ : ∃ i, Bt.posn klt K ks (K k) = i := ⟨_, rfl⟩
  rw [hi] at HP hil ⊢
  obtain ⟨n, hnl⟩ : ∃ n, ks.length = n := ⟨_, rfl⟩
  rw [hnl] at HN HO hlen hil ⊢
  have HNL := hid hnl
  clear E hN ho hL hKs hs hb1 hi hnl hW1
  go_enter Try.func45, Try.ntmps45
  go_wp2_with fail
  rw [HW1.out]
  refine (leaf_yes p W1 c2).mono ?_
  rintro e w' ⟨rfl, rfl⟩
  go_wp2_with fail
  refine (Hid.out HP).mono ?_
  rintro e w2 ⟨f, rfl, hb2⟩
  -- the world behind the search
  have hN2 : NodeAt w2 p (.slice (some ⟨rb, 0, none⟩) n 256) (.slice none 0 0) (.slice none 0 0) := (hb2.block p (by omega)).trans ((HB1.out.block p hplt).trans HN.out)
  have ho2 : w2.ownsRow 0 42 2 (.slice (some ⟨rb, 0, none⟩) n 256) n (refCells off ks) := owns_same (owns_same HO.out (HB1.out.block rb hrlt)) (hb2.block rb (by omega))
  have y0 : w2.cell? ⟨w.heap.size, 0, none⟩ = some (.int .u32 1) := (hb2.cell (p := ⟨w.heap.size, 0, none⟩) (by show w.heap.size < w'.heap.size; omega)).trans x0
  have y1 : w2.cell? ⟨w.heap.size, 1, none⟩ = some (.int .u32 (off k : Int)) := (hb2.cell (p := ⟨w.heap.size, 1, none⟩) (by show w.heap.size < w'.heap.size; omega)).trans x1
  have y2 := hN2.c1
  have hs2 : w.heap.size + 1 ≤ w2.heap.size := by have := hb2.size; omega
  have hx2 : Hid (Ext [p, rb] w w2) := below_ext _ (HB1.out.trans (hb2.mono (by omega)))
  have H53 := hid (ins53_call (w := w) (c := 0) y2 ho2 y0 y1 hil hpr (show w.heap.size ≠ rb by omega))
  have HN2 := hid hN2
  clear hN2 ho2 HP HN HO hb2 x0 x1 c2
  have hlen' : (n : Int) < 256 := by omega
  go_wp2
  go_region_held3 (fun w' => w'.cell? ⟨p, 1, none⟩ = some (.slice (some ⟨rb, 0, none⟩) n 256) ∧ w'.cell? ⟨w.heap.size, 0, none⟩ = some (.int .u32 1) ∧ w'.cell? ⟨w.heap.size, 1, none⟩ = some (.int .u32 (off k : Int))) (first | (assumption) | (go_keep))
    (first
      | (go_at_call 53; refine (Hid.out H53).mono ?_; rintro e w3 ⟨g, c', rfl, hR3, hS3⟩))
  obtain ⟨rfl, rfl, hx3⟩ : g = rb ∧ c' = 256 ∧ Ext [rb] w2 w3 := by
    rcases hR3.out.2 with ⟨_, h1, h2, h3⟩ | ⟨h1, _⟩
    · exact ⟨h1, h2, h3⟩
    · omega
  have hN3 : NodeAt w3 p (.slice (some ⟨g, 0, none⟩) n 256) (.slice none 0 0) (.slice none 0 0) := (hx3.block p (by have := hx2.out.size; omega) (by simpa using hpr)).trans HN2.out
  have f3 := hN3.free 1
  have HF : Hid (NodeAt (w3.setCell ⟨p, 1, none⟩ (.slice (some ⟨g, 0, none⟩) (n + 1) 256)) p (.slice (some ⟨g, 0, none⟩) (n + 1) 256) (.slice none 0 0) (.slice none 0 0) ∧
      (w3.setCell ⟨p, 1, none⟩ (.slice (some ⟨g, 0, none⟩) (n + 1) 256)).ownsRow 0 42 2 (.slice (some ⟨g, 0, none⟩) (n + 1) 256) (n + 1) (refCells off (ks.take i ++ k :: ks.drop i)) ∧ Ext [p, g] w (w3.setCell ⟨p, 1, none⟩ (.slice (some ⟨g, 0, none⟩) (n + 1) 256))) :=
    ⟨node_set1 hN3 _, ownsRow_setCell_other hR3.out.1 (by simp [Value.ownBlock]; exact fun e => hpr e.symm) _, (hx2.out.trans (hx3.mono (by simp))).setCell (Or.inl (by simp)) _⟩
  have hc3 := hS3.1
  clear hN3 hx3 hR3 hS3 H53 HN2
  go_wp2
  go_ret2
  exact ⟨rfl, HF.out⟩
end Go.Proofs.Qxb6613201a
