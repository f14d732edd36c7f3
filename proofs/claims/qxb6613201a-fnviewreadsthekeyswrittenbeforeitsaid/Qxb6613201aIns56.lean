/- slices.Insert at one element, the copy at function 56: a contract over its own text. -/
import Derived.Test.Qxb6613201aBase
set_option linter.unusedVariables false
namespace Go.Proofs.Qxb6613201a
open Go.RowKit Go.Lib

set_option maxHeartbeats 1000000 in
set_option maxRecDepth 100000 in
/-- There is room, i < len: in place. -/
theorem ins56_shift (b n c i vb : Nat) (cur vs : List Value) (tv : TypeId) (w : World) (hi : i < n) (hroom : n + 1 ≤ c) (hc63 : c ≤ 4294967296) (hvb : vb ≠ b)
    (hb : w.heap[b]? = some (.cells cur.toArray 9 (0, 0))) (hcl : cur.length = c * 1) (hv : w.heap[vb]? = some (.cells vs.toArray tv (0, 0))) (hvl : vs.length = 1) (h1 : ∀ v ∈ cur.take (n * 1), v.oneCell' = true) (h1v : ∀ v ∈ vs, v.oneCell' = true) :
    Calls Try.prog 56 #[.slice (some ⟨b, 0, none⟩) n c, .int .i64 i, .slice (some ⟨vb, 0, none⟩) 1 1] w fun e w' =>
      e = .returned (.slice (some ⟨b, 0, none⟩) (n + 1) c) ∧ w'.heap[b]? = some (.cells (cur.take (i * 1) ++ vs ++ (cur.drop (i * 1)).take ((n - i) * 1) ++ cur.drop ((n + 1) * 1)).toArray 9 (0, 0)) ∧ Ext [b] w w' := by
  have hov : ∀ lb cb, (callFunc 63 #[.slice (some ⟨vb, 0, none⟩) 1 1, .slice (some ⟨b, i + 1, none⟩) lb cb]).run Try.prog w = .ok (.value (.bool false)) w := fun lb cb => by
    rw [run_callFunc_extern Try.func63 (by kernel_rfl) (by kernel_rfl) (by kernel_rfl) (e := Extern.SlicesOverlaps.overlaps #[22, 22] #[4]) (by kernel_rfl),
      Lib.run_overlaps_apart w 22 4 9 Try.underlying22 1 size9 ⟨vb, 0, none⟩ ⟨b, i + 1, none⟩ 1 1 lb cb hvb tv 9 vs.length cur.length (by simp [World.shape?, hv]) (by simp [World.shape?, hb]) (by omega) (by simp [World.frozen?, hv]) (by simp [World.frozen?, hv])]
    rfl
  have hz2 : ¬ ((i : Int) = (n : Int)) := by omega
  have hb1 : (0 : Int) ≤ (i : Int) + 1 := by omega
  have hb4 : ¬ (c = i) := by omega
  have hb2 : ¬ (c = i + 1) := by omega
  have hw1 : IntKind.i64.wrap ((i : Int) + 1) = (i : Int) + 1 := by rw [IntKind.wrap_i64]; omega
  have htn : ((i : Int) + 1).toNat = i + 1 := by omega
  have hb3 : (i : Int) ≤ (n : Int) + 1 := by omega
  have hb5 : (i : Int) ≤ (n : Int) := by omega
  have hsz : (Try.prog.info? 9).map (·.size) = some 1 := by kernel_rfl
  have hm1 : Nat.min (n + 1 - i) (n - i) = n - i := Nat.min_eq_right (by omega)
  have hm2 : Nat.min 1 (n + 1 - i) = 1 := Nat.min_eq_left (by omega)
  have hl1 : ((cur.drop (i * 1)).take ((n - i) * 1)).length = (n - i) * 1 := by rw [List.length_take, List.length_drop]; omega
  have hcp1 : ∀ ty dc sc, (Builtin.copy_ #[22, 22] ty #[.slice (some ⟨b, i + 1, none⟩) (n - i) dc, .slice (some ⟨b, i, none⟩) (n + 1 - i) sc]).run Try.prog w.drew = .ok (goInt (Nat.min (n + 1 - i) (n - i))) (w.drew.setRow b (cur.take ((i + 1) * 1) ++ (cur.drop (i * 1)).take ((n - i) * 1) ++ cur.drop ((i + 1) * 1 + (n - i) * 1)).toArray) := fun ty dc sc => by
    have h := run_copy_rowz (P := Try.prog) w.drew 22 22 ty 9 1 b ((i + 1) * 1) (n - i) dc ⟨b, i * 1, none⟩ (n + 1 - i) sc cur.toArray 9 ((cur.drop (i * 1)).take ((n - i) * 1)) Try.underlying22 hsz hb (by rw [hl1, hm1])
      (fun j v hj => by
        rw [List.getElem?_take] at hj
        split at hj
        · rw [List.getElem?_drop] at hj
          rw [Addr.add_lit]
          exact cell_row (w := w) hb hj
        · cases hj)
      (by rw [hl1]; simp; omega) (fun v hv => by
        refine h1 v ?_
        obtain ⟨j, hj⟩ := List.getElem?_of_mem hv
        rw [List.getElem?_take] at hj
        split at hj
        · rw [List.getElem?_drop] at hj
          refine List.mem_of_getElem? (i := i * 1 + j) ?_
          rw [List.getElem?_take, if_pos (by omega)]; exact hj
        · cases hj)
    rw [hl1] at h
    simpa using h
  have hrow2 := shift_row cur vs (i * 1) ((n - i) * 1) 1 hvl (by omega)
  rw [show i * 1 + 1 = (i + 1) * 1 by omega] at hrow2
  generalize hR1 : cur.take ((i + 1) * 1) ++ (cur.drop (i * 1)).take ((n - i) * 1) ++ cur.drop ((i + 1) * 1 + (n - i) * 1) = R1 at hcp1 hrow2
  have hR1l : R1.length = c * 1 := by rw [← hR1, List.length_append, List.length_append, hl1, List.length_take, List.length_drop]; omega
  generalize hW1 : w.drew.setRow b R1.toArray = W1 at hcp1
  have hb1' : W1.heap[b]? = some (.cells R1.toArray 9 (0, 0)) := by rw [← hW1]; exact setRow_heap w.drew b _ _ 9 _ hb
  have hv1' : W1.heap[vb]? = some (.cells vs.toArray tv (0, 0)) := by rw [← hW1, setRow_other _ _ _ _ hvb]; exact hv
  have hcp2 : ∀ ty dc, (Builtin.copy_ #[22, 22] ty #[.slice (some ⟨b, i, none⟩) (n + 1 - i) dc, .slice (some ⟨vb, 0, none⟩) 1 1]).run Try.prog W1 = .ok (goInt (Nat.min 1 (n + 1 - i))) (W1.setRow b (R1.take (i * 1) ++ vs ++ R1.drop (i * 1 + vs.length)).toArray) := fun ty dc => by
    have h := run_copy_rowz (P := Try.prog) W1 22 22 ty 9 1 b (i * 1) (n + 1 - i) dc ⟨vb, 0, none⟩ 1 1 R1.toArray 9 vs Try.underlying22 hsz hb1' (by rw [hvl, hm2])
      (fun j v hj => by rw [Addr.add_lit, Nat.zero_add]; exact cell_row hv1' hj) (by simp; omega) h1v
    simpa using h
  generalize hW2 : W1.setRow b (R1.take (i * 1) ++ vs ++ R1.drop (i * 1 + vs.length)).toArray = W2 at hcp2
  have hfin : Hid (W2.heap[b]? = some (.cells (cur.take (i * 1) ++ vs ++ (cur.drop (i * 1)).take ((n - i) * 1) ++ cur.drop ((n + 1) * 1)).toArray 9 (0, 0))) := by
    show _ = _
    rw [← hW2, setRow_heap W1 b _ _ 9 _ hb1', hrow2, show (i + 1) * 1 + (n - i) * 1 = (n + 1) * 1 by omega]
  have hext : Hid (Ext [b] w W2) := by
    rw [← hW2, ← hW1]; exact (((Ext.refl [b] w).drew).setRow (Or.inl (by simp)) _).setRow (Or.inl (by simp)) _
  clear hW2 hW1
  clear hrow2 hR1 hb1' hv1' h1 h1v hm1 hm2
  go_enter Try.func56, Try.ntmps56
  go_wp2_with (simp only [hov])
  go_region_law (refine step_copy_run rfl _ _ 22 22 rfl _ _ (by simp [Act.eval, Act.put]) (by simp [Act.eval, Act.put]) (hcp1 _ _ _) ?_)
  go_wp2_with (at_builtin; refine wpList_copy_run _ rfl _ _ 22 22 rfl _ _ rfl rfl (hcp2 _ _) ?_)
  go_ret
  exact ⟨rfl, hfin.out, hext.out⟩

set_option maxHeartbeats 1000000 in
set_option maxRecDepth 100000 in
/-- At the end, there is room: in place. -/
theorem ins56_end (b n c vb : Nat) (cur vs : List Value) (tv : TypeId) (w : World) (hroom : n + 1 ≤ c) (hc63 : c ≤ 4294967296)
    (hb : w.heap[b]? = some (.cells cur.toArray 9 (0, 0))) (hcl : cur.length = c * 1) (hv : w.heap[vb]? = some (.cells vs.toArray tv (0, 0))) (hvl : vs.length = 1) (h1v : ∀ v ∈ vs, v.oneCell' = true) :
    Calls Try.prog 56 #[.slice (some ⟨b, 0, none⟩) n c, .int .i64 n, .slice (some ⟨vb, 0, none⟩) 1 1] w fun e w' =>
      e = .returned (.slice (some ⟨b, 0, none⟩) (n + 1) c) ∧ w'.heap[b]? = some (.cells (cur.take (n * 1) ++ vs ++ cur.drop ((n + 1) * 1)).toArray 9 (0, 0)) ∧ Ext [b] w w' := by
  obtain ⟨i0, hi0, hz0, hzs, hzb⟩ := info_parts info9
  have hrun : ∀ ty, (Builtin.append_ #[22, 22] ty #[.slice (some ⟨b, 0, none⟩) n c, .slice (some ⟨vb, 0, none⟩) 1 1]).run Try.prog w = .ok (.slice (some ⟨b, 0, none⟩) (n + 1) c) (w.setRow b (cur.take (n * 1) ++ vs ++ cur.drop ((n + 1) * 1)).toArray) := fun ty => by
    have h := run_append_room (P := Try.prog) w 22 ty 9 i0 Try.underlying22 hi0 b n c cur.toArray hb ⟨vb, 0, none⟩ 1 1 vs (by rw [hvl, hzs]) (fun j v hj => by rw [Addr.add_lit, Nat.zero_add]; exact cell_row hv hj) h1v hroom (by rw [hzs, hvl]; simp; omega)
    rw [hzs, hvl, show n * 1 + 1 = (n + 1) * 1 by omega] at h
    simpa using h
  generalize hW2 : w.setRow b (cur.take (n * 1) ++ vs ++ cur.drop ((n + 1) * 1)).toArray = W2 at hrun
  have hfin : Hid (W2.heap[b]? = some (.cells (cur.take (n * 1) ++ vs ++ cur.drop ((n + 1) * 1)).toArray 9 (0, 0))) := by
    show _ = _
    rw [← hW2, setRow_heap w b _ _ 9 _ hb]
  have hext : Hid (Ext [b] w W2) := by
    rw [← hW2]; exact (Ext.refl [b] w).setRow (Or.inl (by simp)) _
  clear hW2 h1v hi0 hz0 hzs hzb
  go_enter Try.func56, Try.ntmps56
  go_wp2_with (at_builtin; refine Lib.wpList_append_run _ rfl _ _ _ _ rfl _ _ rfl rfl _ _ (hrun _) ?_)
  all_goals
    go_ret
    exact ⟨rfl, hfin.out, hext.out⟩

set_option maxHeartbeats 1000000 in
set_option maxRecDepth 100000 in
/-- At the end, no room: a new row. -/
theorem ins56_end_grow (b n vb : Nat) (cur vs : List Value) (tv : TypeId) (w : World) (hc63 : n ≤ 4294967296)
    (hb : w.heap[b]? = some (.cells cur.toArray 9 (0, 0))) (hcl : cur.length = n * 1) (hv : w.heap[vb]? = some (.cells vs.toArray tv (0, 0))) (hvl : vs.length = 1) (h1v : ∀ v ∈ vs, v.oneCell' = true) :
    Calls Try.prog 56 #[.slice (some ⟨b, 0, none⟩) n n, .int .i64 n, .slice (some ⟨vb, 0, none⟩) 1 1] w fun e w' =>
      ∃ c' cur', e = .returned (.slice (some ⟨w.heap.size, 0, none⟩) (n + 1) c') ∧ n + 1 ≤ c' ∧ c' ≤ maxLen ∧ w'.heap[w.heap.size]? = some (.cells cur' 9 (0, 0)) ∧ cur'.size = c' * 1 ∧ cur'.toList.take ((n + 1) * 1) = cur ++ vs ∧ Ext [] w w' := by
  obtain ⟨i0, hi0, hz0, hzs, hzb⟩ := info_parts info9
  have hold : (Builtin.firstCells i0.size n (.slice (some ⟨b, 0, none⟩) n n)).run Try.prog w.drew = .ok cur.toArray w.drew := by
    rw [hzs]
    exact run_firstCells_some w.drew 1 n ⟨b, 0, none⟩ n n cur hcl (fun j v hj => by rw [Addr.add_lit, Nat.zero_add]; exact cell_row (w := w) hb hj)
  have hsrc : Src Try.prog i0.size 22 (.slice (some ⟨vb, 0, none⟩) 1 1) 1 vs w := by
    rw [hzs]
    exact Src.ofSlice w Try.underlying22 ⟨vb, 0, none⟩ 1 1 vs (by omega) (fun j v hj => by rw [Addr.add_lit, Nat.zero_add]; exact cell_row hv hj) h1v
  have hrun : ∀ ty, (Builtin.append_ #[22, 22] ty #[.slice (some ⟨b, 0, none⟩) n n, .slice (some ⟨vb, 0, none⟩) 1 1]).run Try.prog w = _ := fun ty =>
    run_append_grow_src w 22 22 ty 9 i0 _ Try.underlying22 hi0 hz0 (some ⟨b, 0, none⟩) n n cur hold _ 1 vs hsrc (by omega) (by omega) (by rw [hzb]; exact growslice_fits (by omega) (by omega))
  have hG1 := grownCap_ge w (n + 1) n 9
  have hG2 := grownCap_le_maxLen w (n + 1) n 9 (by unfold maxLen; omega)
  generalize grownCap w (n + 1) n 9 = G at *
  generalize hC : (cur ++ vs).toArray ++ Builtin.zeroCells _ (G - (n + 1)) = C at hrun
  have hCs : C.size = G * 1 := by
    rw [← hC, Array.size_append, size_zeroCells, List.size_toArray, List.length_append, hcl, hvl]
    simp [Value.cells]
    omega
  have hCt : C.toList.take ((n + 1) * 1) = cur ++ vs := by
    rw [← hC, Array.toList_append]
    exact List.take_left' (by rw [List.length_append, hcl, hvl]; omega)
  generalize hW2 : w.drew.alloc (.cells C 9) = W2 at hrun
  have hfin : Hid (W2.heap[w.heap.size]? = some (.cells C 9 (0, 0))) := by
    show _ = _
    rw [← hW2]; exact heap_alloc_new w.drew _
  have hext : Hid (Ext [] w W2) := by
    rw [← hW2]; exact ((Ext.refl [] w).drew).alloc _
  have Hc : Hid (C.toList.take ((n + 1) * 1) = cur ++ vs) := hCt
  have Hs : Hid (C.size = G * 1) := hCs
  clear hW2 h1v hi0 hz0 hzs hzb hold hsrc hC hCt hCs
  go_enter Try.func56, Try.ntmps56
  go_wp2_with (at_builtin; refine Lib.wpList_append_run _ rfl _ _ _ _ rfl _ _ rfl rfl _ _ (hrun _) ?_)
  all_goals
    go_ret
    exact ⟨G, C, rfl, hG1, hG2, hfin.out, Hs.out, Hc.out, hext.out⟩

set_option maxHeartbeats 2000000 in
set_option maxRecDepth 100000 in
/-- Within, no room: a new row. -/
theorem ins56_grow (b n i vb : Nat) (cur vs : List Value) (tv : TypeId) (w : World) (hi : i < n) (hc63 : n ≤ 4294967296)
    (hb : w.heap[b]? = some (.cells cur.toArray 9 (0, 0))) (hcl : cur.length = n * 1) (hv : w.heap[vb]? = some (.cells vs.toArray tv (0, 0))) (hvl : vs.length = 1) (h1 : ∀ v ∈ cur, v.oneCell' = true) (h1v : ∀ v ∈ vs, v.oneCell' = true) :
    Calls Try.prog 56 #[.slice (some ⟨b, 0, none⟩) n n, .int .i64 i, .slice (some ⟨vb, 0, none⟩) 1 1] w fun e w' =>
      ∃ c' cur', e = .returned (.slice (some ⟨w.heap.size, 0, none⟩) (n + 1) c') ∧ n + 1 ≤ c' ∧ c' ≤ maxLen ∧ w'.heap[w.heap.size]? = some (.cells cur' 9 (0, 0)) ∧ cur'.size = c' * 1 ∧ cur'.toList.take ((n + 1) * 1) = cur.take (i * 1) ++ vs ++ cur.drop (i * 1) ∧ Ext [] w w' := by
  obtain ⟨i0, hi0, hz0, hzs, hzb⟩ := info_parts info9
  have hbw : b < w.heap.size := lt_of_block hb
  have hvw : vb < w.heap.size := lt_of_block hv
  have hsz : (Try.prog.info? 9).map (·.size) = some 1 := by kernel_rfl
  have hold : (Builtin.firstCells i0.size i (.slice (some ⟨b, 0, none⟩) i n)).run Try.prog w.drew = .ok (cur.take (i * 1)).toArray w.drew := by
    rw [hzs]
    exact run_firstCells_some w.drew 1 i ⟨b, 0, none⟩ i n (cur.take (i * 1)) (by rw [List.length_take]; omega) (fun j v hj => by
      rw [Addr.add_lit, Nat.zero_add]
      rw [List.getElem?_take] at hj
      split at hj
      · exact cell_row (w := w) hb hj
      · cases hj)
  have hkk : (n : Int) + 1 - (i : Int) = ((n + 1 - i : Nat) : Int) := by omega
  have hik : i + (n + 1 - i) = n + 1 := by omega
  have hrz : ∀ ty, (Builtin.append_ #[22, 3] ty #[.slice (some ⟨b, 0, none⟩) i n, .int .i64 ((n : Int) + 1 - (i : Int))]).run Try.prog w =
      .ok (.slice (some ⟨w.heap.size, 0, none⟩) (n + 1) (grownCap w (n + 1) n 9)) (w.drew.alloc (.cells ((cur.take (i * 1)).toArray ++ Builtin.zeroCells (Value.string ⟨#[]⟩).cells (n + 1 - i) ++ Builtin.zeroCells (Value.string ⟨#[]⟩).cells (grownCap w (n + 1) n 9 - (n + 1))) 9)) := fun ty => by
    have h := Lib.run_append_grow_zeros w 22 3 ty 9 i0 _ .i64 .i64 Try.underlying22 Try.underlying3 hi0 hz0 (some ⟨b, 0, none⟩) i n (cur.take (i * 1)) hold (n + 1 - i) (by omega) (by omega) (by omega) (by omega) (by rw [hzb]; omega) (by rw [hzb, hik]; exact growslice_fits (by omega) (by omega))
    rw [hik] at h
    rw [hkk]
    exact h
  have hG1 := grownCap_ge w (n + 1) n 9
  have hG2 := grownCap_le_maxLen w (n + 1) n 9 (by unfold maxLen; omega)
  generalize grownCap w (n + 1) n 9 = G at *
  generalize hC : (cur.take (i * 1)).toArray ++ Builtin.zeroCells (Value.string ⟨#[]⟩).cells (n + 1 - i) ++ Builtin.zeroCells (Value.string ⟨#[]⟩).cells (G - (n + 1)) = C at hrz
  have hCs : C.size = G * 1 := by
    rw [← hC, Array.size_append, Array.size_append, size_zeroCells, size_zeroCells, List.size_toArray, List.length_take, hcl]
    simp [Value.cells]
    omega
  have hCt : C.toList.take (i * 1) = cur.take (i * 1) := by
    rw [← hC, Array.toList_append, Array.toList_append, List.append_assoc]
    exact List.take_left' (by rw [List.length_take]; omega)
  generalize hW1 : w.drew.alloc (.cells C 9) = W1 at hrz
  have hg1 : W1.heap[w.heap.size]? = some (.cells C 9 (0, 0)) := by rw [← hW1]; exact heap_alloc_new w.drew _
  have hb1 : W1.heap[b]? = some (.cells cur.toArray 9 (0, 0)) := by rw [← hW1, Below.heap_alloc w.drew _ _ hbw]; exact hb
  have hv1 : W1.heap[vb]? = some (.cells vs.toArray tv (0, 0)) := by rw [← hW1, Below.heap_alloc w.drew _ _ hvw]; exact hv
  have hx1 : Ext [] w W1 := by rw [← hW1]; exact ((Ext.refl [] w).drew).alloc _
  clear hW1
  have hm2 : Nat.min 1 (n + 1 - i) = 1 := Nat.min_eq_left (by omega)
  have hm3 : Nat.min (n - i) (n - i) = n - i := Nat.min_self _
  have hcp1 : ∀ ty dc, (Builtin.copy_ #[22, 22] ty #[.slice (some ⟨w.heap.size, i, none⟩) (n + 1 - i) dc, .slice (some ⟨vb, 0, none⟩) 1 1]).run Try.prog W1 = .ok (goInt (Nat.min 1 (n + 1 - i))) (W1.setRow w.heap.size (C.toList.take (i * 1) ++ vs ++ C.toList.drop (i * 1 + vs.length)).toArray) := fun ty dc => by
    have h := run_copy_rowz (P := Try.prog) W1 22 22 ty 9 1 w.heap.size (i * 1) (n + 1 - i) dc ⟨vb, 0, none⟩ 1 1 C 9 vs Try.underlying22 hsz hg1 (by rw [hvl, hm2])
      (fun j v hj => by rw [Addr.add_lit, Nat.zero_add]; exact cell_row hv1 hj) (by omega) h1v
    simpa using h
  generalize hR1 : C.toList.take (i * 1) ++ vs ++ C.toList.drop (i * 1 + vs.length) = R1 at hcp1
  have hR1l : R1.length = G * 1 := by rw [← hR1, List.length_append, List.length_append, List.length_take, List.length_drop, Array.length_toList, hCs]; omega
  have hR1t : R1.take ((i + 1) * 1) = cur.take (i * 1) ++ vs := by
    rw [← hR1, hCt]
    exact List.take_left' (by rw [List.length_append, List.length_take, hvl]; omega)
  generalize hW2 : W1.setRow w.heap.size R1.toArray = W2 at hcp1
  have hg2 : W2.heap[w.heap.size]? = some (.cells R1.toArray 9 (0, 0)) := by rw [← hW2]; exact setRow_heap W1 _ _ _ 9 _ hg1
  have hb2 : W2.heap[b]? = some (.cells cur.toArray 9 (0, 0)) := by rw [← hW2, setRow_other _ _ _ _ (by omega)]; exact hb1
  have hx2 : Ext [] w W2 := by rw [← hW2]; exact hx1.setRow (Or.inr (Nat.le_refl _)) _
  clear hW2
  have hl3 : (cur.drop (i * 1)).length = (n - i) * 1 := by rw [List.length_drop]; omega
  have hcp2 : ∀ ty dc sc, (Builtin.copy_ #[22, 22] ty #[.slice (some ⟨w.heap.size, i + 1, none⟩) (n - i) dc, .slice (some ⟨b, i, none⟩) (n - i) sc]).run Try.prog W2.drew = .ok (goInt (Nat.min (n - i) (n - i))) (W2.drew.setRow w.heap.size (R1.take ((i + 1) * 1) ++ cur.drop (i * 1) ++ R1.drop ((i + 1) * 1 + (n - i) * 1)).toArray) := fun ty dc sc => by
    have h := run_copy_rowz (P := Try.prog) W2.drew 22 22 ty 9 1 w.heap.size ((i + 1) * 1) (n - i) dc ⟨b, i * 1, none⟩ (n - i) sc R1.toArray 9 (cur.drop (i * 1)) Try.underlying22 hsz hg2 (by rw [hl3, hm3])
      (fun j v hj => by
        rw [Addr.add_lit]
        rw [List.getElem?_drop] at hj
        exact cell_row (w := W2) hb2 hj) (by rw [hl3]; simp; omega) (fun v hv => h1 v (List.mem_of_mem_drop hv))
    rw [hl3] at h
    simpa using h
  generalize hR2 : R1.take ((i + 1) * 1) ++ cur.drop (i * 1) ++ R1.drop ((i + 1) * 1 + (n - i) * 1) = R2 at hcp2
  have hR2l : R2.length = G * 1 := by rw [← hR2, List.length_append, List.length_append, hl3, List.length_take, List.length_drop, hR1l]; omega
  have hR2t : R2.take ((n + 1) * 1) = cur.take (i * 1) ++ vs ++ cur.drop (i * 1) := by
    rw [← hR2, hR1t]
    exact List.take_left' (by rw [List.length_append, List.length_append, hl3, List.length_take, hvl]; omega)
  generalize hW3 : W2.drew.setRow w.heap.size R2.toArray = W3 at hcp2
  have hfin : Hid (W3.heap[w.heap.size]? = some (.cells R2.toArray 9 (0, 0))) := by rw [← hW3]; exact setRow_heap W2.drew _ _ _ 9 _ hg2
  have hext : Hid (Ext [] w W3) := by rw [← hW3]; exact hx2.drew.setRow (Or.inr (Nat.le_refl _)) _
  have Hs : Hid (R2.toArray.size = G * 1) := by show _ = _; simpa using hR2l
  have Hc : Hid (R2.toArray.toList.take ((n + 1) * 1) = cur.take (i * 1) ++ vs ++ cur.drop (i * 1)) := by show _ = _; simpa using hR2t
  clear hW3 hx2 hx1 hR2t hR2l hR2 hR1t hR1l hR1 hg2 hb2 hg1 hb1 hv1 hC hCs hCt h1 h1v hold hi0 hz0 hzs hzb hkk hik
  have hz2 : ¬ ((i : Int) = (n : Int)) := by omega
  have hz3 : (n : Int) < (n : Int) + 1 := by omega
  have hw1 : IntKind.i64.wrap ((i : Int) + 1) = (i : Int) + 1 := by rw [IntKind.wrap_i64]; omega
  have htn : ((i : Int) + 1).toNat = i + 1 := by omega
  have hb3 : (i : Int) ≤ (n : Int) + 1 := by omega
  have hb5 : (i : Int) ≤ (n : Int) := by omega
  have hb6 : (0 : Int) ≤ (i : Int) + 1 := by omega
  have hGi : ¬ (G = i) := by omega
  have hGim : ¬ (G = i + 1) := by omega
  have hni : ¬ (n = i) := by omega
  have hG63 : G ≤ 9223372036854775807 := by unfold maxLen at hG2; omega
  go_enter Try.func56, Try.ntmps56
  go_wp2_with (first | (at_builtin; refine Lib.wpList_append_run _ rfl _ _ _ _ rfl _ _ rfl rfl _ _ (hrz _) ?_) | (at_builtin; refine wpList_copy_run _ rfl _ _ 22 22 rfl _ _ rfl rfl (hcp1 _ _) ?_))
  go_region_law (refine step_copy_run rfl _ _ 22 22 rfl _ _ (by simp [Act.eval, Act.put]) (by simp [Act.eval, Act.put]) (hcp2 _ _ _) ?_)
  go_wp2
  go_ret
  exact ⟨G, R2.toArray, rfl, hG1, hG2, hfin.out, Hs.out, Hc.out, hext.out⟩

/-- All four roads in one. -/
theorem ins56_any (b n c i vb : Nat) (xs vs : List Value) (tv : TypeId) (w : World) (hi : i ≤ n) (hc63 : c ≤ 4294967296) (hvb : vb ≠ b) (hown : w.ownsRow 0 9 1 (.slice (some ⟨b, 0, none⟩) n c) n xs)
    (hv : w.heap[vb]? = some (.cells vs.toArray tv (0, 0))) (hvl : vs.length = 1) (h1 : ∀ v ∈ xs, v.oneCell' = true) (h1v : ∀ v ∈ vs, v.oneCell' = true) :
    Calls Try.prog 56 #[.slice (some ⟨b, 0, none⟩) n c, .int .i64 i, .slice (some ⟨vb, 0, none⟩) 1 1] w fun e w' =>
      ∃ g c', e = .returned (.slice (some ⟨g, 0, none⟩) (n + 1) c') ∧ w'.ownsRow 0 9 1 (.slice (some ⟨g, 0, none⟩) (n + 1) c') (n + 1) (xs.take (i * 1) ++ vs ++ xs.drop (i * 1)) ∧
        ((n < c ∧ g = b ∧ c' = c ∧ Ext [b] w w') ∨ (n = c ∧ g = w.heap.size ∧ Ext [] w w')) := by
  obtain ⟨hxl, h | ⟨g0, cap0, cur0, he, _, hb, hnc, hcm, hcs, htk⟩⟩ := hown
  · simp at h
  simp only [Value.slice.injEq, Option.some.injEq, Addr.mk.injEq, and_true, true_and] at he
  obtain ⟨rfl, rfl⟩ := he
  obtain ⟨cur, rfl⟩ : ∃ cur : List Value, cur0 = cur.toArray := ⟨cur0.toList, by simp⟩
  simp only [List.size_toArray] at hcs
  have htk' : cur.take (n * 1) = xs := by simpa using htk
  have hil : (xs.take (i * 1) ++ vs ++ xs.drop (i * 1)).length = (n + 1) * 1 := by rw [List.length_append, List.length_append, List.length_take, List.length_drop, hvl]; omega
  by_cases hc : n < c
  · by_cases hin : i < n
    · refine (ins56_shift b n c i vb cur vs tv w hin hc hc63 hvb hb hcs hv hvl (by rw [htk']; exact h1) h1v).mono ?_
      rintro e w' ⟨rfl, hb', hx⟩
      refine ⟨b, c, rfl, ⟨hil, Or.inr ⟨b, c, _, rfl, Nat.zero_le _, hb', hc, hcm, ?_, ?_⟩⟩, Or.inl ⟨hc, rfl, rfl, hx⟩⟩
      · rw [List.size_toArray, List.length_append, List.length_append, List.length_append, List.length_take, List.length_take, List.length_drop, List.length_drop, hvl]; omega
      · have e1 : xs.take (i * 1) = cur.take (i * 1) := by rw [← htk', List.take_take]; congr 1; omega
        have e2 : xs.drop (i * 1) = (cur.drop (i * 1)).take ((n - i) * 1) := by rw [← htk', List.drop_take]; congr 1; omega
        rw [e1, e2]
        exact List.take_left' (by rw [← e1, ← e2]; exact hil)
    · obtain rfl : i = n := by omega
      refine (ins56_end b i c vb cur vs tv w hc hc63 hb hcs hv hvl h1v).mono ?_
      rintro e w' ⟨rfl, hb', hx⟩
      refine ⟨b, c, rfl, ⟨hil, Or.inr ⟨b, c, _, rfl, Nat.zero_le _, hb', hc, hcm, ?_, ?_⟩⟩, Or.inl ⟨hc, rfl, rfl, hx⟩⟩
      · rw [List.size_toArray, List.length_append, List.length_append, List.length_take, List.length_drop, hvl]; omega
      · have e1 : xs.take (i * 1) = cur.take (i * 1) := by rw [← htk', List.take_take]; congr 1; omega
        have e2 : xs.drop (i * 1) = [] := List.drop_of_length_le (by omega)
        rw [e1, e2, List.append_nil]
        exact List.take_left' (by have := hil; rw [e1, e2, List.append_nil] at this; exact this)
  · obtain rfl : n = c := by omega
    have hxc : cur = xs := by rw [← htk']; exact (List.take_of_length_le (by omega)).symm
    subst hxc
    by_cases hin : i < n
    · refine (ins56_grow b n i vb cur vs tv w hin hc63 hb hcs hv hvl h1 h1v).mono ?_
      rintro e w' ⟨c', cur', rfl, h1', h2', hb', hs', ht', hx⟩
      exact ⟨_, c', rfl, ⟨hil, Or.inr ⟨_, c', _, rfl, Nat.zero_le _, hb', h1', h2', hs', ht'⟩⟩, Or.inr ⟨rfl, rfl, hx⟩⟩
    · obtain rfl : i = n := by omega
      refine (ins56_end_grow b i vb cur vs tv w hc63 hb hcs hv hvl h1v).mono ?_
      rintro e w' ⟨c', cur', rfl, h1', h2', hb', hs', ht', hx⟩
      refine ⟨_, c', rfl, ⟨hil, Or.inr ⟨_, c', _, rfl, Nat.zero_le _, hb', h1', h2', hs', ?_⟩⟩, Or.inr ⟨rfl, rfl, hx⟩⟩
      rw [ht', List.take_of_length_le (by omega), List.drop_of_length_le (by omega), List.append_nil]
end Go.Proofs.Qxb6613201a
