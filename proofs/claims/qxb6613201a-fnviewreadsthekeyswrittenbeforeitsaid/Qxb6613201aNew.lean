/- New nodes: '(*table).newLeaf', '(*table).newInner'; the atomic counter of views. -/
import Derived.Test.Qxb6613201aChild
set_option linter.unusedVariables false
set_option linter.unusedSimpArgs false
namespace Go.Proofs.Qxb6613201a
open Go.RowKit

theorem load42 (a : Addr) (n : Int) (w : World) (h : w.cell? a = some (.int .u64 n)) : (Extern.Atomic.loadT (.int .u64) #[.pointer (some a)]).run Try.prog w = .ok (.int .u64 n) w := by
  have e : Extern.Atomic.loadT (.int .u64) #[.pointer (some a)] = (do Extern.Atomic.read (.int .u64) (← asAddr (.pointer (some a)))) := rfl
  rw [e]
  simp [asAddr, Extern.Atomic.read, run_load, h]
theorem load34 (b o : Nat) (n : Int) (w : World) (h : w.cell? ⟨b, o, none⟩ = some (.int .u64 n)) : Calls Try.prog 34 #[.pointer (some ⟨b, o, none⟩)] w fun e w' => e = .returned (.int .u64 n) ∧ w' = w := by
  have h42 := @run_callFunc_extern Try.prog 42 _ (Extern.Atomic.loadT (.int .u64)) Try.func42 (by kernel_rfl) (by kernel_rfl) (by kernel_rfl) (by kernel_rfl)
  have hl := load42 ⟨b, o, none⟩ n w h
  go_enter Try.func34, Try.ntmps34
  go_wp2
  go_ret
  exact ⟨rfl, rfl⟩

/-- 'make([]T, 0, c)', c a number: a new row of zero cells. -/
theorem make_row (t e : TypeId) (i : TypeInfo) (z : Value) (c : Nat) (ht : Try.prog.underlying t = some (.slice e)) (hi : Try.prog.info? e = some i) (hz : i.zero = some z) (hb : i.bytes ≤ 64) (hc : c ≤ 65536) :
    ∃ R : Array Value, R.size = c * i.size ∧ ∀ w : World, (Instr.makeSlice t (.int .i64 0) (.int .i64 c)).run Try.prog w = .ok (.slice (some ⟨w.heap.size, 0, none⟩) 0 c) (w.alloc (.cells R e)) := by
  refine ⟨madeCells z.cells (c * i.size), size_madeCells _ _, fun w => ?_⟩
  have h1 : i.bytes * c ≤ 64 * 65536 := Nat.mul_le_mul hb hc
  have := run_make (P := Try.prog) w t e i z ht hi hz .i64 .i64 0 c (Int.le_refl _) (by omega) (by rw [← Int.natCast_mul]; omega) (by omega)
  simpa using this

theorem Src.drew {P : Program} {size : Nat} {tx : TypeId} {x : Value} {n : Nat} {news : List Value} {w : World} (h : Src P size tx x n news w) (h2 : (Builtin.firstCells size n x).run P w.drew.drew = .ok news.toArray w.drew.drew) : Src P size tx x n news w.drew := ⟨h.kind, h.len, h.cellsD, h2, h.newsLen, h.one⟩

set_option maxHeartbeats 1000000 in
set_option maxRecDepth 100000 in
theorem newLeaf37 (tb m : Nat) (x : Value) (news : List Value) (w : World) (h3 : w.cell? ⟨tb, 3, none⟩ = some (.int .u64 0)) (hm : m ≤ 256) (hnl : news.length = m * 2)
    (hs : ∀ w' : World, Below w.heap.size w w' → Src Try.prog 2 32 x m news w') :
    Calls Try.prog 37 #[.pointer (some ⟨tb, 0, none⟩), x] w fun e w' => e = .returned (.pointer (some ⟨w.heap.size + 1, 0, none⟩)) ∧ NodeAt w' (w.heap.size + 1) (.slice (some ⟨w.heap.size, 0, none⟩) m 256) (.slice none 0 0) (.slice none 0 0) ∧
      w'.ownsRow 0 42 2 (.slice (some ⟨w.heap.size, 0, none⟩) m 256) m news ∧ Ext [] w w' ∧ w'.heap.size = w.heap.size + 2 := by
  obtain ⟨i0, hi0, hz0, hzs, hzb⟩ := info_parts info42
  obtain ⟨R, hRs, hmk0⟩ := make_row 32 42 i0 _ 256 Try.underlying32 hi0 hz0 (by omega) (by omega)
  have hmk : ∀ w : World, (Instr.makeSlice 32 (.int .i64 0) (.int .i64 256)).run Try.prog w = .ok (.slice (some ⟨w.heap.size, 0, none⟩) 0 256) (w.alloc (.cells R 42)) := hmk0
  clear hmk0
  rw [hzs] at hRs
  have htb : tb < w.heap.size := World.block_lt_of_cell? _ _ h3
  have hb0 : Below w.heap.size w (w.alloc (.cells R 42)).drew := ((Below.refl _ _).alloc (Nat.le_refl _) _).drew
  have hg0 : (w.alloc (.cells R 42)).drew.heap[w.heap.size]? = some (.cells R 42 (0, 0)) := heap_alloc_new w _
  have hap : ∀ ty, (Builtin.append_ #[32, 32] ty #[.slice (some ⟨w.heap.size, 0, none⟩) 0 256, x]).run Try.prog (w.alloc (.cells R 42)).drew = .ok (.slice (some ⟨w.heap.size, 0, none⟩) m 256) ((w.alloc (.cells R 42)).drew.setRow w.heap.size (news ++ R.toList.drop (m * 2)).toArray) := fun ty => by
    have h := run_append_src_row (P := Try.prog) (w.alloc (.cells R 42)).drew 32 32 ty 42 i0 Try.underlying32 hi0 w.heap.size 0 256 R hg0 x m news (by rw [hzs]; exact hs _ hb0) (by omega) (by rw [hzs, hnl, hRs]; omega)
    rw [hzs, hnl] at h
    simpa using h
  generalize hW1 : (w.alloc (.cells R 42)).drew.setRow w.heap.size (news ++ R.toList.drop (m * 2)).toArray = W1 at hap
  have hx1 : Ext [] w W1 := by rw [← hW1]; exact (((Ext.refl [] w).alloc _).drew).setRow (Or.inr (Nat.le_refl _)) _
  have hs1 : W1.heap.size = w.heap.size + 1 := by rw [← hW1]; simp [World.setRow]
  have hg1 : W1.heap[w.heap.size]? = some (.cells (news ++ R.toList.drop (m * 2)).toArray 42 (0, 0)) := by rw [← hW1]; exact setRow_heap _ _ _ _ 42 _ hg0
  have hc1 : W1.cell? ⟨tb, 3, none⟩ = some (.int .u64 0) := (hx1.cell (p := ⟨tb, 3, none⟩) htb (by simp)).trans h3
  have HF : Hid (NodeAt (W1.alloc (.cells #[.int .u64 0, .slice (some ⟨w.heap.size, 0, none⟩) m 256, .slice none 0 0, .slice none 0 0] 87)) (w.heap.size + 1) (.slice (some ⟨w.heap.size, 0, none⟩) m 256) (.slice none 0 0) (.slice none 0 0) ∧
      (W1.alloc (.cells #[.int .u64 0, .slice (some ⟨w.heap.size, 0, none⟩) m 256, .slice none 0 0, .slice none 0 0] 87)).ownsRow 0 42 2 (.slice (some ⟨w.heap.size, 0, none⟩) m 256) m news ∧
      Ext [] w (W1.alloc (.cells #[.int .u64 0, .slice (some ⟨w.heap.size, 0, none⟩) m 256, .slice none 0 0, .slice none 0 0] 87)) ∧
      (W1.alloc (.cells #[.int .u64 0, .slice (some ⟨w.heap.size, 0, none⟩) m 256, .slice none 0 0, .slice none 0 0] 87)).heap.size = w.heap.size + 2) := by
    refine ⟨?_, World.ownsRow.alloc ⟨hnl, Or.inr ⟨_, 256, _, rfl, Nat.zero_le _, hg1, hm, by decide, ?_, ?_⟩⟩ _, hx1.alloc _, by simp [hs1]⟩
    · rw [← hs1]; exact heap_alloc_new W1 _
    · simp [hRs, hnl]; omega
    · simp only [List.toList_toArray]; exact List.take_left' hnl
  clear hW1 hx1 hg1 hg0 hs hb0
  go_enter Try.func37, Try.ntmps37
  go_wp2
  go_region_held3 (fun w' => w'.cell? ⟨tb, 3, none⟩ = some (.int .u64 0)) (first | (assumption) | (go_keep))
    (first
      | (go_at_call 34; refine (load34 _ _ _ _ (by assumption)).mono ?_; rintro e w' ⟨rfl, rfl⟩)
      | (refine step_append_run rfl (.tmp 9) (.tmp 10) 32 32 rfl _ _ (by simp [Act.eval, Act.put]) (by simp [Act.eval, Act.put]) (hap _) ?_))
  all_goals
    go_wp2
    go_ret
    exact ⟨rfl, HF.out⟩

theorem hk_alloc (W : World) (o : Obj) (k : Nat) : (W.alloc o).heap[k]? = if k = W.heap.size then some o else W.heap[k]? := by
  show (W.heap.push o)[k]? = _
  rw [Array.getElem?_push]
theorem hk_drew (W : World) (k : Nat) : W.drew.heap[k]? = W.heap[k]? := rfl
theorem hk_row (W : World) (g k : Nat) (c : Array Value) (h : k ≠ g) : (W.setRow g c).heap[k]? = W.heap[k]? := setRow_other W g k c h
theorem hk_size_drew (W : World) : W.drew.heap.size = W.heap.size := rfl
theorem hk_size_row (W : World) (g : Nat) (c : Array Value) : (W.setRow g c).heap.size = W.heap.size := by simp [World.setRow]
theorem f1 (w : World) (A : Obj) : (w.alloc A).drew.heap[w.heap.size]? = some A := heap_alloc_new w A
theorem f2 (w : World) (A B : Obj) : ((w.alloc A).alloc B).drew.heap[w.heap.size]? = some A := by rw [hk_drew, Below.heap_alloc _ _ _ (by simp)]; exact heap_alloc_new w A
theorem f3 (w : World) (A B : Obj) : ((w.alloc A).alloc B).drew.heap[w.heap.size + 1]? = some B := by rw [hk_drew]; have := heap_alloc_new (w.alloc A) B; simpa using this
theorem f4 (w : World) (A B : Obj) (g : Nat) (N : Array Value) : (((w.alloc A).drew.setRow g N).alloc B).heap[w.heap.size + 1]? = some B := by
  have := heap_alloc_new ((w.alloc A).drew.setRow g N) B
  rw [hk_size_row] at this
  simpa using this
theorem f5 (w : World) (A B : Obj) (N : Array Value) : (((w.alloc A).alloc B).drew.setRow w.heap.size N).heap[w.heap.size + 1]? = some B := by rw [hk_row _ _ _ _ (by omega)]; exact f3 w A B
theorem f6 (w : World) (A B : Obj) (N : Array Value) : (((w.alloc A).alloc B).drew.setRow (w.heap.size + 1) N).heap[w.heap.size]? = some A := by rw [hk_row _ _ _ _ (by omega)]; exact f2 w A B
theorem Below.alloc' {w W : World} (h : Below w.heap.size w W) (o : Obj) : Below w.heap.size w (W.alloc o) := h.alloc h.size o

/-- What '(*table).newInner' leaves. -/
def Inner (w w' : World) (q : Nat) (m n : Nat) (cs bs : List Value) : Prop :=
  ∃ ga gb, NodeAt w' q (.slice none 0 0) (.slice (some ⟨ga, 0, none⟩) m 64) (.slice (some ⟨gb, 0, none⟩) n 63) ∧ w'.ownsRow 0 36 1 (.slice (some ⟨ga, 0, none⟩) m 64) m cs ∧ w'.ownsRow 0 9 1 (.slice (some ⟨gb, 0, none⟩) n 63) n bs ∧
    Ext [] w w' ∧ w.heap.size ≤ q ∧ w.heap.size ≤ ga ∧ w.heap.size ≤ gb ∧ q < w'.heap.size ∧ ga < w'.heap.size ∧ gb < w'.heap.size ∧ q ≠ ga ∧ q ≠ gb ∧ ga ≠ gb

theorem inner_of {w W : World} {m n ga gb : Nat} {cs bs : List Value} {N N' : Array Value} (hx : Ext [] w W) (hs : W.heap.size = w.heap.size + 2) (hg : (ga = w.heap.size ∧ gb = w.heap.size + 1) ∨ (ga = w.heap.size + 1 ∧ gb = w.heap.size))
    (ha : W.heap[ga]? = some (.cells N 36 (0, 0))) (hb : W.heap[gb]? = some (.cells N' 9 (0, 0))) (hm : m ≤ 64) (hn : n ≤ 63) (hcl : cs.length = m) (hbl : bs.length = n) (hN : N.size = 64) (hN' : N'.size = 63) (ht : N.toList.take m = cs) (ht' : N'.toList.take n = bs) :
    Inner w (W.alloc (.cells #[.int .u64 0, .slice none 0 0, .slice (some ⟨ga, 0, none⟩) m 64, .slice (some ⟨gb, 0, none⟩) n 63] 87)) (w.heap.size + 1 + 1) m n cs bs := by
  refine ⟨ga, gb, ?_, World.ownsRow.alloc ⟨by omega, Or.inr ⟨ga, 64, N, rfl, Nat.zero_le _, ha, hm, by decide, by omega, by rw [Nat.mul_one]; exact ht⟩⟩ _, World.ownsRow.alloc ⟨by omega, Or.inr ⟨gb, 63, N', rfl, Nat.zero_le _, hb, hn, by decide, by omega, by rw [Nat.mul_one]; exact ht'⟩⟩ _,
    hx.alloc _, by omega, by omega, by omega, by simp; omega, by simp; omega, by simp; omega, by omega, by omega, by omega⟩
  rw [show w.heap.size + 1 + 1 = W.heap.size by omega]
  exact heap_alloc_new W _
theorem rows_a (w : World) (R R' N N' : Array Value) : ((((w.alloc (.cells R 36)).drew.setRow w.heap.size N).alloc (.cells R' 9)).setRow (w.heap.size + 1) N').heap[w.heap.size]? = some (.cells N 36 (0, 0)) ∧
    ((((w.alloc (.cells R 36)).drew.setRow w.heap.size N).alloc (.cells R' 9)).setRow (w.heap.size + 1) N').heap[w.heap.size + 1]? = some (.cells N' 9 (0, 0)) ∧
    ((((w.alloc (.cells R 36)).drew.setRow w.heap.size N).alloc (.cells R' 9)).setRow (w.heap.size + 1) N').heap.size = w.heap.size + 2 ∧ Ext [] w ((((w.alloc (.cells R 36)).drew.setRow w.heap.size N).alloc (.cells R' 9)).setRow (w.heap.size + 1) N') := by
  refine ⟨?_, setRow_heap _ _ _ _ 9 _ (f4 w _ _ _ _), by rw [hk_size_row]; simp [hk_size_row], ((((Ext.refl [] w).alloc _).drew.setRow (Or.inr (Nat.le_refl _)) _).alloc _).setRow (Or.inr (by omega)) _⟩
  rw [hk_row _ _ _ _ (by omega), Below.heap_alloc _ _ _ (by rw [hk_size_row]; simp)]
  exact setRow_heap _ _ _ _ 36 _ (f1 w _)
theorem rows_b (w : World) (R R' N N' : Array Value) : ((((w.alloc (.cells R 36)).alloc (.cells R' 9)).drew.setRow w.heap.size N).setRow (w.heap.size + 1) N').heap[w.heap.size]? = some (.cells N 36 (0, 0)) ∧
    ((((w.alloc (.cells R 36)).alloc (.cells R' 9)).drew.setRow w.heap.size N).setRow (w.heap.size + 1) N').heap[w.heap.size + 1]? = some (.cells N' 9 (0, 0)) ∧
    ((((w.alloc (.cells R 36)).alloc (.cells R' 9)).drew.setRow w.heap.size N).setRow (w.heap.size + 1) N').heap.size = w.heap.size + 2 ∧ Ext [] w ((((w.alloc (.cells R 36)).alloc (.cells R' 9)).drew.setRow w.heap.size N).setRow (w.heap.size + 1) N') := by
  refine ⟨?_, setRow_heap _ _ _ _ 9 _ (f5 w _ _ _), by rw [hk_size_row, hk_size_row]; simp, ((((Ext.refl [] w).alloc _).alloc _).drew.setRow (Or.inr (Nat.le_refl _)) _).setRow (Or.inr (by omega)) _⟩
  rw [hk_row _ _ _ _ (by omega)]
  exact setRow_heap _ _ _ _ 36 _ (f2 w _ _)
theorem rows_c (w : World) (R R' N N' : Array Value) : ((((w.alloc (.cells R' 9)).alloc (.cells R 36)).drew.setRow (w.heap.size + 1) N).setRow w.heap.size N').heap[w.heap.size + 1]? = some (.cells N 36 (0, 0)) ∧
    ((((w.alloc (.cells R' 9)).alloc (.cells R 36)).drew.setRow (w.heap.size + 1) N).setRow w.heap.size N').heap[w.heap.size]? = some (.cells N' 9 (0, 0)) ∧
    ((((w.alloc (.cells R' 9)).alloc (.cells R 36)).drew.setRow (w.heap.size + 1) N).setRow w.heap.size N').heap.size = w.heap.size + 2 ∧ Ext [] w ((((w.alloc (.cells R' 9)).alloc (.cells R 36)).drew.setRow (w.heap.size + 1) N).setRow w.heap.size N') := by
  refine ⟨?_, setRow_heap _ _ _ _ 9 _ (f6 w _ _ _), by rw [hk_size_row, hk_size_row]; simp, ((((Ext.refl [] w).alloc _).alloc _).drew.setRow (Or.inr (by omega)) _).setRow (Or.inr (Nat.le_refl _)) _⟩
  rw [hk_row _ _ _ _ (by omega)]
  exact setRow_heap _ _ _ _ 36 _ (f3 w _ _)

set_option maxHeartbeats 4000000 in
set_option maxRecDepth 100000 in
theorem newInner46 (tb m n : Nat) (x y : Value) (cs bs : List Value) (w : World) (h3 : w.cell? ⟨tb, 3, none⟩ = some (.int .u64 0)) (hm : m ≤ 64) (hn : n ≤ 63) (hcl : cs.length = m) (hbl : bs.length = n)
    (hsx : ∀ w' : World, Below w.heap.size w w' → Src Try.prog 1 64 x m cs w') (hsy : ∀ w' : World, Below w.heap.size w w' → Src Try.prog 1 22 y n bs w') :
    Calls Try.prog 46 #[.pointer (some ⟨tb, 0, none⟩), x, y] w fun e w' => ∃ q, e = .returned (.pointer (some ⟨q, 0, none⟩)) ∧ Inner w w' q m n cs bs := by
  obtain ⟨i0, hi0, hz0, hzs, hzb⟩ := info_parts info36
  obtain ⟨j0, hj0, jz0, jzs, jzb⟩ := info_parts info9
  obtain ⟨R, hRs, hmk0⟩ := make_row 64 36 i0 _ 64 Try.underlying64 hi0 hz0 (by omega) (by omega)
  obtain ⟨R', hRs', hmk0'⟩ := make_row 22 9 j0 _ 63 Try.underlying22 hj0 jz0 (by omega) (by omega)
  rw [hzs] at hRs
  rw [jzs] at hRs'
  have hmk : ∀ w : World, (Instr.makeSlice 64 (.int .i64 0) (.int .i64 64)).run Try.prog w = .ok (.slice (some ⟨w.heap.size, 0, none⟩) 0 64) (w.alloc (.cells R 36)) := hmk0
  have hmk' : ∀ w : World, (Instr.makeSlice 22 (.int .i64 0) (.int .i64 63)).run Try.prog w = .ok (.slice (some ⟨w.heap.size, 0, none⟩) 0 63) (w.alloc (.cells R' 9)) := hmk0'
  clear hmk0 hmk0'
  have htb : tb < w.heap.size := World.block_lt_of_cell? _ _ h3
  obtain ⟨N, hN⟩ : ∃ N : Array Value, N = (cs ++ R.toList.drop m).toArray := ⟨_, rfl⟩
  obtain ⟨N', hN'⟩ : ∃ N' : Array Value, N' = (bs ++ R'.toList.drop n).toArray := ⟨_, rfl⟩
  have hap : Hid (∀ (W : World) (g : Nat), W.heap[g]? = some (.cells R 36 (0, 0)) → Below w.heap.size w W → ∀ ty, (Builtin.append_ #[64, 64] ty #[.slice (some ⟨g, 0, none⟩) 0 64, x]).run Try.prog W = .ok (.slice (some ⟨g, 0, none⟩) m 64) (W.setRow g N)) := fun W g hg hb ty => by
    have h := run_append_src_row (P := Try.prog) W 64 64 ty 36 i0 Try.underlying64 hi0 g 0 64 R hg x m cs (by rw [hzs]; exact hsx _ hb) (by omega) (by rw [hzs, hcl, hRs]; omega)
    rw [hzs, hcl] at h
    rw [hN]
    simpa using h
  have hap' : Hid (∀ (W : World) (g : Nat), W.heap[g]? = some (.cells R' 9 (0, 0)) → Below w.heap.size w W → ∀ ty, (Builtin.append_ #[22, 22] ty #[.slice (some ⟨g, 0, none⟩) 0 63, y]).run Try.prog W = .ok (.slice (some ⟨g, 0, none⟩) n 63) (W.setRow g N')) := fun W g hg hb ty => by
    have h := run_append_src_row (P := Try.prog) W 22 22 ty 9 j0 Try.underlying22 hj0 g 0 63 R' hg y n bs (by rw [jzs]; exact hsy _ hb) (by omega) (by rw [jzs, hbl, hRs']; omega)
    rw [jzs, hbl] at h
    rw [hN']
    simpa using h
  have hrs : ∀ (W : World) (g : Nat) (c : Array Value), (W.setRow g c).heap.size = W.heap.size := fun W g c => by simp [World.setRow]
  have HS : Hid (N.size = 64) := by show _ = _; rw [hN]; simp [hcl, hRs]; omega
  have HS' : Hid (N'.size = 63) := by show _ = _; rw [hN']; simp [hbl, hRs']; omega
  have HT : Hid (N.toList.take m = cs) := by show _ = _; rw [hN, List.toList_toArray]; exact List.take_left' hcl
  have HT' : Hid (N'.toList.take n = bs) := by show _ = _; rw [hN', List.toList_toArray]; exact List.take_left' hbl
  clear hsx hsy hN hN'
  go_enter Try.func46, Try.ntmps46
  go_wp2
  go_region_held3 (fun w' => Below w.heap.size w w') (first | (exact (Below.refl _ _).drew) | (assumption) | (exact Below.alloc' (by assumption) _) | (exact below_setRow (by assumption) (by omega) _))
    (first
      | (go_at_call 34; refine (load34 _ _ _ _ ((Below.cell (p := ⟨tb, 3, none⟩) (by assumption) htb).trans h3)).mono ?_; rintro e w' ⟨rfl, rfl⟩)
      | (refine step_append_run rfl (.tmp 11) (.tmp 12) 64 64 rfl _ _ rfl rfl (hap.out _ _ (by first | exact f1 _ _ | exact f2 _ _ _ | exact f3 _ _ _ | exact f4 _ _ _ _ _ | exact f5 _ _ _ _ | exact f6 _ _ _ _) (by assumption) _) ?_)
      | (refine step_append_run rfl (.tmp 14) (.tmp 15) 22 22 rfl _ _ rfl rfl (hap'.out _ _ (by first | exact f1 _ _ | exact f2 _ _ _ | exact f3 _ _ _ | exact f4 _ _ _ _ _ | exact f5 _ _ _ _ | exact f6 _ _ _ _) (by assumption) _) ?_))
  all_goals
    go_wp2
    go_ret
    refine ⟨_, rfl, ?_⟩
    first
      | exact inner_of (rows_a w R R' N N').2.2.2 (rows_a w R R' N N').2.2.1 (Or.inl ⟨rfl, rfl⟩) (rows_a w R R' N N').1 (rows_a w R R' N N').2.1 hm hn hcl hbl HS.out HS'.out HT.out HT'.out
      | exact inner_of (rows_b w R R' N N').2.2.2 (rows_b w R R' N N').2.2.1 (Or.inl ⟨rfl, rfl⟩) (rows_b w R R' N N').1 (rows_b w R R' N N').2.1 hm hn hcl hbl HS.out HS'.out HT.out HT'.out
      | exact inner_of (rows_c w R R' N N').2.2.2 (rows_c w R R' N N').2.2.1 (Or.inr ⟨rfl, rfl⟩) (rows_c w R R' N N').1 (rows_c w R R' N N').2.1 hm hn hcl hbl HS.out HS'.out HT.out HT'.out
end Go.Proofs.Qxb6613201a
