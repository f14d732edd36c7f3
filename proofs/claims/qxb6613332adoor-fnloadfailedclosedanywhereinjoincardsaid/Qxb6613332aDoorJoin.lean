/- errors.New, errors.Join by contracts. -/
import Derived.Test.Qxb6613332aDoorIs
namespace Go.Proofs.Qxb6613332aDoor
open Go.RowKit Go.Extern.Stop Go.Stop Go.Extern

namespace Ld
theorem new_any (s : ByteArray) (w : World) :
    Calls Tryd.prog 15 #[.string s] w fun e w' => e = .returned (.iface 31 (.pointer (some ⟨w.heap.size, 0, none⟩))) ∧ w' = w.alloc (.cells #[.string s] 33) := by
  go_enter Tryd.func15, Tryd.ntmps15
  go_wp2
  go_ret
  exact ⟨rfl, rfl⟩

theorem info26 : (Tryd.prog.info? 26).map (fun i => (i.zero, i.size, i.bytes)) = some (some .nilIface, 1, 16) := by kernel_rfl
theorem make1 (w : World) : (Instr.makeSlice 34 (.int .i64 0) (.int .i64 1)).run Tryd.prog w = .ok (.slice (some ⟨w.heap.size, 0, none⟩) 0 1) (w.alloc (.cells #[.nilIface] 26)) := by kernel_rfl
theorem make2 (w : World) : (Instr.makeSlice 34 (.int .i64 0) (.int .i64 2)).run Tryd.prog w = .ok (.slice (some ⟨w.heap.size, 0, none⟩) 0 2) (w.alloc (.cells #[.nilIface, .nilIface] 26)) := by kernel_rfl

/-- What errors.Join leaves: a new joinError whose slice holds the errors 'xs'. -/
def Joined (w : World) (xs : List Value) (e : Ending) (w' : World) : Prop :=
  ∃ pb sb, e = .returned (.iface 35 (.pointer (some ⟨pb, 0, none⟩))) ∧ w'.cell? ⟨pb, 0, none⟩ = some (.slice (some ⟨sb, 0, none⟩) xs.length xs.length) ∧
    (∀ j, j < xs.length → w'.cell? ⟨sb, j, none⟩ = xs[j]?) ∧ Below w.heap.size w w'

theorem one_c1 {w : World} {v : Value} (e : TypeId) (n : Nat) (hn : n = w.heap.size) : ∀ (j : Nat) (u : Value), [v][j]? = some u → (w.alloc (.cells #[v] e)).cell? ((⟨n, 0, none⟩ : Addr).add j) = some u := by
  intro j u hj
  subst hn
  match j, hj with
  | 0, hj => simp at hj; subst hj; simp [Addr.add]
theorem one_c2 (t : TypeId) (v : Value) : ∀ u ∈ [Value.iface t v], u.oneCell' = true := by
  intro u hu; simp at hu; subst hu; rfl

/-- A block that has just been made, in the world behind. -/
theorem blk_new (w : World) (o : Obj) (n : Nat) (h : n = w.heap.size) : (w.alloc o).heap[n]? = some o := by subst h; exact heap_alloc_new w o

theorem join1 (sb so cap : Nat) (a : Addr) (w : World) (h0 : w.cell? ⟨sb, so, none⟩ = some (.iface 31 (.pointer (some a)))) :
    Calls Tryd.prog 16 #[.slice (some ⟨sb, so, none⟩) 1 cap] w (Joined w [.iface 31 (.pointer (some a))]) := by
  obtain ⟨i0, hi, hz0, hz1, hz2⟩ := info_parts info26
  have hlt : sb < w.heap.size := World.block_lt_of_cell? _ _ h0
  have mk := make1
  have own0 : ((w.alloc (.cells #[.nilIface] 26)).alloc (.cells #[.slice (some ⟨w.heap.size, 0, none⟩) 0 1] 37)).ownsRow w.heap.size 26 1 (.slice (some ⟨w.heap.size, 0, none⟩) 0 1) 0 [] :=
    (World.ownsRow_made w _ 1 (Nat.le_refl _) (by decide) rfl).alloc _
  go_enter Tryd.func16, Tryd.ntmps16
  go_wp2
  refine wp_loop_rounds 2 ?_
  rw [rounds_succ]
  go_wp2
  rw [rounds_succ]
  go_wp2
  refine wp_loop_rounds 2 ?_
  rw [rounds_succ]
  go_wp2_with (at_builtin; refine wpList_append_fits _ rfl (.tmp 38) (.tmp 40) 34 rfl w.heap.size 26 i0 1 Tryd.underlying34 hi hz1 w.heap.size 0 1 [] rfl (own0.alloc _) ⟨w.heap.size + 2, 0, none⟩ 1 1 [.iface 31 (.pointer (some a))] rfl rfl (one_c1 26 _ (by simp)) (one_c2 _ _) (by decide) ?_)
  intro w1 own1 gr1
  have hb1 : w1.heap[w.heap.size + 1]? = some (.cells #[.slice (some ⟨w.heap.size, 0, none⟩) 0 1] 37 (0, 0)) := by
    rw [gr1.block (w.heap.size + 1) (by simp) (by simp)]
    rw [Below.heap_alloc _ _ _ (by simp)]
    exact blk_new _ _ _ (by simp)
  have c1 := cell_of_one hb1
  have f1 := free_of_one hb1
  have bel : Below w.heap.size w w1 := ((((Below.refl _ w).alloc (Nat.le_refl _) _).alloc (by first | (simp; done) | (simp; omega)) _).alloc (by first | (simp; done) | (simp; omega)) _).grown gr1 (by first | (simp; done) | (simp; omega)) (by intro k hk; cases hk; exact Nat.le_refl _)
  have own2 : Hid (((w1.setCell ⟨w.heap.size + 1, 0, none⟩ (.slice (some ⟨w.heap.size, 0, none⟩) 1 1)).ownsRow w.heap.size 26 1 (.slice (some ⟨w.heap.size, 0, none⟩) (0 + 1) 1) (0 + 1) ([] ++ [.iface 31 (.pointer (some a))]))) := ownsRow_setCell_other own1 (by simp [Value.ownBlock]) _
  have bel2 : Hid (Below w.heap.size w (w1.setCell ⟨w.heap.size + 1, 0, none⟩ (.slice (some ⟨w.heap.size, 0, none⟩) 1 1))) := bel.setCell (by simp) _
  have one2 : Hid _ := cell_of_one (one_setCell (u := .slice (some ⟨w.heap.size, 0, none⟩) 1 1) hb1)
  clear own1 gr1 own0 bel hb1
  go_wp2
  rw [rounds_succ]
  go_wp2
  go_ret
  exact ⟨_, _, rfl, one2.out, fun j hj => (own2.out.cellAt j hj).trans (by simp), bel2.out⟩
theorem join2 (sb so cap : Nat) (x0 x1 : Addr) (w : World) (h0 : w.cell? ⟨sb, so, none⟩ = some (.iface 31 (.pointer (some x0)))) (h1 : w.cell? ⟨sb, so + 1, none⟩ = some (.iface 31 (.pointer (some x1)))) :
    Calls Tryd.prog 16 #[.slice (some ⟨sb, so, none⟩) 2 cap] w (Joined w [.iface 31 (.pointer (some x0)), .iface 31 (.pointer (some x1))]) := by
  obtain ⟨i0, hi, hz0, hz1, hz2⟩ := info_parts info26
  have hlt : sb < w.heap.size := World.block_lt_of_cell? _ _ h0
  have mk := make2
  have own0 : ((w.alloc (.cells #[.nilIface, .nilIface] 26)).alloc (.cells #[.slice (some ⟨w.heap.size, 0, none⟩) 0 2] 37)).ownsRow w.heap.size 26 1 (.slice (some ⟨w.heap.size, 0, none⟩) 0 2) 0 [] :=
    (World.ownsRow_made w _ 2 (Nat.le_refl _) (by decide) rfl).alloc _
  go_enter Tryd.func16, Tryd.ntmps16
  go_wp2
  refine wp_loop_rounds 3 ?_
  rw [rounds_succ]
  go_wp2
  rw [rounds_succ]
  go_wp2
  rw [rounds_succ]
  go_wp2
  refine wp_loop_rounds 3 ?_
  rw [rounds_succ]
  go_wp2_with (at_builtin; refine wpList_append_fits _ rfl (.tmp 38) (.tmp 40) 34 rfl w.heap.size 26 i0 1 Tryd.underlying34 hi hz1 w.heap.size 0 2 [] rfl (own0.alloc _) ⟨w.heap.size + 2, 0, none⟩ 1 1 [.iface 31 (.pointer (some x0))] rfl rfl (one_c1 26 _ (by simp)) (one_c2 _ _) (by decide) ?_)
  intro w1 own1 gr1
  have hb1 : w1.heap[w.heap.size + 1]? = some (.cells #[.slice (some ⟨w.heap.size, 0, none⟩) 0 2] 37 (0, 0)) := by
    rw [gr1.block (w.heap.size + 1) (by simp) (by simp)]
    rw [Below.heap_alloc _ _ _ (by simp)]
    exact blk_new _ _ _ (by simp)
  have c1 := cell_of_one hb1
  have f1 := free_of_one hb1
  have bel : Below w.heap.size w w1 := ((((Below.refl _ w).alloc (Nat.le_refl _) _).alloc (by first | (simp; done) | (simp; omega)) _).alloc (by first | (simp; done) | (simp; omega)) _).grown gr1 (by first | (simp; done) | (simp; omega)) (by intro k hk; cases hk; exact Nat.le_refl _)
  have sz1 : w.heap.size + 3 ≤ w1.heap.size := by have := gr1.size; simpa using this
  generalize hW : w1.setCell ⟨w.heap.size + 1, 0, none⟩ (.slice (some ⟨w.heap.size, 0, none⟩) 1 2) = W2
  have own2 : W2.ownsRow w.heap.size 26 1 (.slice (some ⟨w.heap.size, 0, none⟩) 1 2) 1 [.iface 31 (.pointer (some x0))] := by rw [← hW]; exact ownsRow_setCell_other own1 (by simp [Value.ownBlock]) _
  have bel2 : Below w.heap.size w W2 := by rw [← hW]; exact bel.setCell (by simp) _
  have one2 : W2.heap[w.heap.size + 1]? = some (.cells #[.slice (some ⟨w.heap.size, 0, none⟩) 1 2] 37 (0, 0)) := by rw [← hW]; exact one_setCell hb1
  have sz2 : w.heap.size + 3 ≤ W2.heap.size := by rw [← hW]; simpa using sz1
  clear own1 gr1 own0 bel hb1
  go_wp2_with fail
  try rw [hW]
  rw [rounds_succ]
  clear c1 f1 hW sz1
  have d1 : W2.cell? ⟨sb, so + 1, none⟩ = some (.iface 31 (.pointer (some x1))) := (bel2.cell (p := ⟨sb, so + 1, none⟩) hlt).trans h1
  have c2 := cell_of_one one2
  have f2 := free_of_one one2
  have Bel2 : Hid (Below w.heap.size w W2) := bel2
  have One2 : Hid (W2.heap[w.heap.size + 1]? = some (.cells #[.slice (some ⟨w.heap.size, 0, none⟩) 1 2] 37 (0, 0))) := one2
  clear bel2 one2
  go_wp2_with (at_builtin; refine wpList_append_fits _ rfl (.tmp 38) (.tmp 40) 34 rfl w.heap.size 26 i0 1 Tryd.underlying34 hi hz1 w.heap.size 1 2 [.iface 31 (.pointer (some x0))] rfl (own2.alloc _) ⟨W2.heap.size, 0, none⟩ 1 1 [.iface 31 (.pointer (some x1))] rfl rfl (one_c1 26 _ rfl) (one_c2 _ _) (by decide) ?_)
  intro w3 own3 gr3
  have hb3 : w3.heap[w.heap.size + 1]? = some (.cells #[.slice (some ⟨w.heap.size, 0, none⟩) 1 2] 37 (0, 0)) := by
    rw [gr3.block (w.heap.size + 1) (by simp; omega) (by simp)]
    rw [Below.heap_alloc _ _ _ (by omega)]
    exact One2.out
  have c3 := cell_of_one hb3
  have f3 := free_of_one hb3
  have bel3 : Below w.heap.size w w3 := (Bel2.out.alloc (by omega) _).grown gr3 (by simp; omega) (by intro k hk; cases hk; exact Nat.le_refl _)
  have own4 : Hid (((w3.setCell ⟨w.heap.size + 1, 0, none⟩ (.slice (some ⟨w.heap.size, 0, none⟩) 2 2)).ownsRow w.heap.size 26 1 (.slice (some ⟨w.heap.size, 0, none⟩) (1 + 1) 2) (1 + 1) ([.iface 31 (.pointer (some x0))] ++ [.iface 31 (.pointer (some x1))]))) := ownsRow_setCell_other own3 (by simp [Value.ownBlock]) _
  have bel4 : Hid (Below w.heap.size w (w3.setCell ⟨w.heap.size + 1, 0, none⟩ (.slice (some ⟨w.heap.size, 0, none⟩) 2 2))) := bel3.setCell (by simp) _
  have one4 : Hid _ := cell_of_one (one_setCell (u := .slice (some ⟨w.heap.size, 0, none⟩) 2 2) hb3)
  clear own3 gr3 own2 bel3 hb3
  go_wp2
  rw [rounds_succ]
  go_wp2
  go_ret
  exact ⟨_, _, rfl, one4.out, fun j hj => (own4.out.cellAt j hj).trans (by simp), bel4.out⟩
end Ld
end Go.Proofs.Qxb6613332aDoor
