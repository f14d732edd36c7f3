/- What the split of an inner node does to its rows. -/
import Derived.Test.Qxb6613201aGuard
set_option linter.unusedVariables false
set_option linter.unusedSimpArgs false
namespace Go.Proofs.Qxb6613201a
open Go.RowKit

theorem ptr_one (ps : List Nat) : ∀ v ∈ ptrCells ps, v.oneCell' = true := by
  intro v hv
  simp only [ptrCells, List.mem_map] at hv
  obtain ⟨q, _, rfl⟩ := hv
  rfl
theorem str_one (bs : List ByteArray) : ∀ v ∈ strCells bs, v.oneCell' = true := by
  intro v hv
  simp only [strCells, List.mem_map] at hv
  obtain ⟨q, _, rfl⟩ := hv
  rfl
theorem ptr_take (ps : List Nat) (i : Nat) : (ptrCells ps).take i = ptrCells (ps.take i) := by simp [ptrCells, List.map_take]
theorem ptr_drop (ps : List Nat) (i : Nat) : (ptrCells ps).drop i = ptrCells (ps.drop i) := by simp [ptrCells, List.map_drop]
theorem str_take (ps : List ByteArray) (i : Nat) : (strCells ps).take i = strCells (ps.take i) := by simp [strCells, List.map_take]
theorem str_drop (ps : List ByteArray) (i : Nat) : (strCells ps).drop i = strCells (ps.drop i) := by simp [strCells, List.map_drop]
theorem ptr_len (ps : List Nat) : (ptrCells ps).length = ps.length := by simp [ptrCells]
theorem str_len (ps : List ByteArray) : (strCells ps).length = ps.length := by simp [strCells]

/-- 'clear(s)' on a part of a row that is known whole. -/
theorem run_clear_row {P : Program} (w : World) (t e : TypeId) (z : Value) (ht : P.underlying t = some (.slice e)) (hv : ∀ w, (zeroValue e).run P w = .ok z w) (hz : z.cells = #[z]) (h1 : z.oneCell' = true) (g o n c : Nat) (hn : 0 < n)
    (cur : Array Value) (hg : w.heap[g]? = some (.cells cur e (0, 0))) (hfit : o + n ≤ cur.size) :
    ∃ cur' : Array Value, cur'.size = cur.size ∧ ∀ ty, (Builtin.clear_ #[t] ty #[.slice (some ⟨g, o, none⟩) n c]).run P w = .ok (.tuple #[]) (w.setRow g cur') := by
  refine ⟨(cur.toList.take o ++ List.replicate n z ++ cur.toList.drop (o + n)).toArray, by simp; omega, fun ty => ?_⟩
  have hzc : (Builtin.zeroCells z.cells n).toList = List.replicate n z := by
    rw [hz]
    simp [Builtin.zeroCells]
    apply List.ext_getElem
    · simp
    · intro i h1 h2
      simp [Nat.mod_one]
  have hst := run_storeCells_at P g o e (List.replicate n z) 0 cur w hg (by simpa using hfit) (by intro v hv'; rw [List.eq_of_mem_replicate hv']; exact h1)
  simp only [Nat.add_zero, List.length_replicate] at hst
  obtain ⟨m, rfl⟩ : ∃ m, n = m + 1 := ⟨n - 1, by omega⟩
  simp [Builtin.clear_, run_underlying ht, hv, hzc, hst]
theorem zero36 : ∀ w, (zeroValue 36).run Try.prog w = .ok (.pointer none) w := fun w => by kernel_rfl
theorem zero9 : ∀ w, (zeroValue 9).run Try.prog w = .ok (.string ⟨#[]⟩) w := fun w => by kernel_rfl

theorem row_of {w : World} {e : TypeId} {z b n c : Nat} {xs : List Value} (h : w.ownsRow 0 e z (.slice (some ⟨b, 0, none⟩) n c) n xs) : ∃ cur : Array Value, w.heap[b]? = some (.cells cur e (0, 0)) ∧ n ≤ c ∧ c ≤ maxLen ∧ cur.size = c * z ∧ cur.toList.take (n * z) = xs := by
  obtain ⟨_, h2 | ⟨g', cap', cur, he, h0, hg, hr1, hr2, hr3, hr4⟩⟩ := h
  · simp at h2
  · simp only [Value.slice.injEq, Option.some.injEq, Addr.mk.injEq, and_true, true_and] at he
    obtain ⟨rfl, rfl⟩ := he
    exact ⟨cur, hg, hr1, hr2, hr3, hr4⟩
theorem src_ptrs {w : World} {g n c a m : Nat} {R : List Nat} (ho : w.ownsRow 0 36 1 (.slice (some ⟨g, 0, none⟩) n c) n (ptrCells R)) (hR : R.length = n) (ha : a + m ≤ n) (c2 : Nat) :
    Src Try.prog 1 64 (.slice (some ⟨g, a, none⟩) m c2) m (ptrCells ((R.drop a).take m)) w := by
  refine Src.ofSlice w Try.underlying64 ⟨g, a, none⟩ m c2 _ (by rw [ptr_len, List.length_take, List.length_drop]; omega) (fun j u hj => ?_) (ptr_one _)
  rw [Addr.add_lit]
  rw [← ptr_take, ← ptr_drop, List.getElem?_take] at hj
  split at hj
  · rw [List.getElem?_drop] at hj
    exact owns_cell ho hj
  · cases hj
theorem src_strs {w : World} {g n c a m : Nat} {R : List ByteArray} (ho : w.ownsRow 0 9 1 (.slice (some ⟨g, 0, none⟩) n c) n (strCells R)) (hR : R.length = n) (ha : a + m ≤ n) (c2 : Nat) :
    Src Try.prog 1 22 (.slice (some ⟨g, a, none⟩) m c2) m (strCells ((R.drop a).take m)) w := by
  refine Src.ofSlice w Try.underlying22 ⟨g, a, none⟩ m c2 _ (by rw [str_len, List.length_take, List.length_drop]; omega) (fun j u hj => ?_) (str_one _)
  rw [Addr.add_lit]
  rw [← str_take, ← str_drop, List.getElem?_take] at hj
  split at hj
  · rw [List.getElem?_drop] at hj
    exact owns_cell ho hj
  · cases hj

/-- append onto an emptied row. -/
theorem refill {w : World} (t e : TypeId) (i0 : TypeInfo) (ht : Try.prog.underlying t = some (.slice e)) (hi : Try.prog.info? e = some i0) (hz : i0.size = 1) {g c m : Nat} {cur : Array Value} (hg : w.heap[g]? = some (.cells cur e (0, 0))) (hc : cur.size = c) (hcm : c ≤ maxLen) (hm : m ≤ c) {x : Value} {news : List Value} (hs : Src Try.prog 1 t x m news w) (hl : news.length = m) :
    ∃ W : World, (∀ ty, (Builtin.append_ #[t, t] ty #[.slice (some ⟨g, 0, none⟩) 0 c, x]).run Try.prog w = .ok (.slice (some ⟨g, 0, none⟩) m c) W) ∧ W.ownsRow 0 e 1 (.slice (some ⟨g, 0, none⟩) m c) m news ∧ Ext [g] w W := by
  refine ⟨w.setRow g (news ++ cur.toList.drop m).toArray, fun ty => ?_, ⟨by omega, Or.inr ⟨g, c, _, rfl, Nat.zero_le _, setRow_heap _ _ _ _ e _ hg, by omega, hcm, by simp; omega, by simp only [List.toList_toArray]; exact List.take_left' (by omega)⟩⟩, (Ext.refl [g] w).setRow (Or.inl (by simp)) _⟩
  have h := run_append_src_row (P := Try.prog) w t t ty e i0 ht hi g 0 c cur hg x m news (by rw [hz]; exact hs) (by omega) (by rw [hz, hl, hc]; omega)
  rw [hz, hl] at h
  simpa using h

theorem split_tail {w4 : World} {p cb bb g1 g2 c1 c2 : Nat} {C ps : List Nat} {B bs : List ByteArray} (hN : NodeAt w4 p (.slice none 0 0) (.slice (some ⟨cb, 0, none⟩) 64 64) (.slice (some ⟨bb, 0, none⟩) 63 63))
    (ho1 : w4.ownsRow 0 36 1 (.slice (some ⟨cb, 0, none⟩) 64 64) 64 (ptrCells ps)) (ho2 : w4.ownsRow 0 9 1 (.slice (some ⟨bb, 0, none⟩) 63 63) 63 (strCells bs))
    (hC : w4.ownsRow 0 36 1 (.slice (some ⟨g1, 0, none⟩) 65 c1) 65 (ptrCells C)) (hB : w4.ownsRow 0 9 1 (.slice (some ⟨g2, 0, none⟩) 64 c2) 64 (strCells B)) (hCl : C.length = 65) (hBl : B.length = 64)
    (hd : p ≠ cb ∧ p ≠ bb ∧ cb ≠ bb) (hg1 : g1 ≠ cb ∧ g1 ≠ bb) (hg2 : g2 ≠ cb ∧ g2 ≠ bb) :
    ∃ W5 W6 X1 X2 : World, (∀ ty, (Builtin.clear_ #[64] ty #[.slice (some ⟨cb, 32, none⟩) 32 32]).run Try.prog w4 = .ok (.tuple #[]) W5) ∧ (∀ ty, (Builtin.clear_ #[22] ty #[.slice (some ⟨bb, 31, none⟩) 32 32]).run Try.prog W5 = .ok (.tuple #[]) W6) ∧
      (∀ ty, (Builtin.append_ #[64, 64] ty #[.slice (some ⟨cb, 0, none⟩) 0 64, .slice (some ⟨g1, 0, none⟩) 32 c1]).run Try.prog W6.drew = .ok (.slice (some ⟨cb, 0, none⟩) 32 64) X1) ∧
      (∀ ty, (Builtin.append_ #[22, 22] ty #[.slice (some ⟨bb, 0, none⟩) 0 63, .slice (some ⟨g2, 0, none⟩) 31 c2]).run Try.prog X1 = .ok (.slice (some ⟨bb, 0, none⟩) 31 63) X2) ∧
      NodeAt W5 p (.slice none 0 0) (.slice (some ⟨cb, 0, none⟩) 64 64) (.slice (some ⟨bb, 0, none⟩) 63 63) ∧ NodeAt W6 p (.slice none 0 0) (.slice (some ⟨cb, 0, none⟩) 64 64) (.slice (some ⟨bb, 0, none⟩) 63 63) ∧
      NodeAt X1 p (.slice none 0 0) (.slice (some ⟨cb, 0, none⟩) 64 64) (.slice (some ⟨bb, 0, none⟩) 63 63) ∧ NodeAt X2 p (.slice none 0 0) (.slice (some ⟨cb, 0, none⟩) 64 64) (.slice (some ⟨bb, 0, none⟩) 63 63) ∧
      X2.ownsRow 0 36 1 (.slice (some ⟨cb, 0, none⟩) 32 64) 32 (ptrCells (C.take 32)) ∧ X2.ownsRow 0 9 1 (.slice (some ⟨bb, 0, none⟩) 31 63) 31 (strCells (B.take 31)) ∧ Ext [cb, bb] w4 X2 := by
  obtain ⟨i0, hi0, hz0, hzs, hzb⟩ := info_parts info36
  obtain ⟨j0, hj0, jz0, jzs, jzb⟩ := info_parts info9
  have hpl := lt_of_block hN
  have hcl := owns_lt ho1
  have hbl := owns_lt ho2
  have hg1l := owns_lt hC
  have hg2l := owns_lt hB
  obtain ⟨u1, hu1, _, _, hu1s, _⟩ := row_of ho1
  obtain ⟨u2, hu2, _, _, hu2s, _⟩ := row_of ho2
  obtain ⟨v1, hv1, hr1⟩ := run_clear_row (P := Try.prog) w4 64 36 _ Try.underlying64 zero36 rfl rfl cb 32 32 32 (by omega) u1 hu1 (by omega)
  have x5 : Ext [cb] w4 (w4.setRow cb v1) := (Ext.refl [cb] w4).setRow (Or.inl (by simp)) _
  have h5 : (w4.setRow cb v1).heap[cb]? = some (.cells v1 36 (0, 0)) := setRow_heap _ _ _ _ 36 _ hu1
  generalize w4.setRow cb v1 = W5 at *
  have z5 := x5.size
  have k2 : W5.heap[bb]? = some (.cells u2 9 (0, 0)) := (x5.block bb hbl (by simpa using fun e => hd.2.2 e.symm)).trans hu2
  obtain ⟨v2, hv2, hr2⟩ := run_clear_row (P := Try.prog) W5 22 9 _ Try.underlying22 zero9 rfl rfl bb 31 32 32 (by omega) u2 k2 (by omega)
  have x6 : Ext [bb] W5 (W5.setRow bb v2) := (Ext.refl [bb] W5).setRow (Or.inl (by simp)) _
  have h6 : (W5.setRow bb v2).heap[bb]? = some (.cells v2 9 (0, 0)) := setRow_heap _ _ _ _ 9 _ k2
  generalize W5.setRow bb v2 = W6 at *
  have z6 := x6.size
  have x46 : Ext [cb, bb] w4 W6.drew := ((x5.mono (by simp)).trans (x6.mono (by simp))).drew
  have h6c : W6.drew.heap[cb]? = some (.cells v1 36 (0, 0)) := (x6.block cb (by omega) (by simpa using hd.2.2)).trans h5
  have hC6 : W6.drew.ownsRow 0 36 1 (.slice (some ⟨g1, 0, none⟩) 65 c1) 65 (ptrCells C) := owns_same hC (x46.block g1 hg1l (by simp [hg1]))
  have hB6 : W6.drew.ownsRow 0 9 1 (.slice (some ⟨g2, 0, none⟩) 64 c2) 64 (strCells B) := owns_same hB (x46.block g2 hg2l (by simp [hg2]))
  have s1 := src_ptrs (a := 0) (m := 32) hC6 hCl (by omega) c1
  obtain ⟨X1, ha1, hX1, xX1⟩ := refill 64 36 i0 Try.underlying64 hi0 hzs h6c (c := 64) (by omega) (by decide) (by omega) s1 (by rw [ptr_len, List.length_take, List.length_drop]; omega)
  have hz6 : W6.drew.heap.size = W6.heap.size := rfl
  have zX := xX1.size
  have h7 : X1.heap[bb]? = some (.cells v2 9 (0, 0)) := (xX1.block bb (by omega) (by simpa using fun e => hd.2.2 e.symm)).trans h6
  have hB7 : X1.ownsRow 0 9 1 (.slice (some ⟨g2, 0, none⟩) 64 c2) 64 (strCells B) := owns_same hB6 (xX1.block g2 (by omega) (by simp [hg2]))
  have s2 := src_strs (a := 0) (m := 31) hB7 hBl (by omega) c2
  obtain ⟨X2, ha2, hX2, xX2⟩ := refill 22 9 j0 Try.underlying22 hj0 jzs h7 (c := 63) (by omega) (by decide) (by omega) s2 (by rw [str_len, List.length_take, List.length_drop]; omega)
  have n5 : NodeAt W5 p (.slice none 0 0) (.slice (some ⟨cb, 0, none⟩) 64 64) (.slice (some ⟨bb, 0, none⟩) 63 63) := (x5.block p hpl (by simp [hd])).trans hN
  have n6 : NodeAt W6 p (.slice none 0 0) (.slice (some ⟨cb, 0, none⟩) 64 64) (.slice (some ⟨bb, 0, none⟩) 63 63) := (x6.block p (by omega) (by simp [hd])).trans n5
  have n7 : NodeAt X1 p (.slice none 0 0) (.slice (some ⟨cb, 0, none⟩) 64 64) (.slice (some ⟨bb, 0, none⟩) 63 63) := (xX1.block p (by omega) (by simp [hd])).trans n6
  refine ⟨W5, W6, X1, X2, hr1, hr2, ha1, ha2, n5, n6, n7, (xX2.block p (by omega) (by simp [hd])).trans n7, ?_, ?_, (x46.trans (xX1.mono (by simp))).trans (xX2.mono (by simp))⟩
  · have := owns_same hX1 (xX2.block cb (by omega) (by simpa using hd.2.2))
    simpa using this
  · simpa using hX2
end Go.Proofs.Qxb6613201a
