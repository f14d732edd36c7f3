/- '(*table).insert' at a leaf that is full: it splits. -/
import Derived.Test.Qxb6613201aInsLeaf
set_option linter.unusedVariables false
set_option linter.unusedSimpArgs false
namespace Go.Proofs.Qxb6613201a
open Go.RowKit

/-- A slice of references as a source of cells. -/
theorem src_refs {w : World} {off : Nat → Nat} {g n c a m : Nat} {R : List Nat} (ho : w.ownsRow 0 42 2 (.slice (some ⟨g, 0, none⟩) n c) n (refCells off R)) (hR : R.length = n) (ha : a + m ≤ n) (c2 : Nat) :
    Src Try.prog 2 32 (.slice (some ⟨g, a * 2, none⟩) m c2) m (refCells off ((R.drop a).take m)) w := by
  refine Src.ofSlice w Try.underlying32 ⟨g, a * 2, none⟩ m c2 _ (by rw [refCells_len, List.length_take, List.length_drop]; omega) (fun j u hj => ?_) (refCells_one _ _)
  rw [Addr.add_lit]
  rw [← refCells_take, ← refCells_drop, List.getElem?_take] at hj
  split at hj
  · rw [List.getElem?_drop] at hj
    exact owns_cell ho hj
  · cases hj

/-- The length of the slice that lies in a cell. -/
def lenAt (w : World) (p j : Nat) : Nat := match w.cell? ⟨p, j, none⟩ with | some (.slice _ n _) => n | _ => 0
theorem held_at {w : World} {p j rb n c : Nat} (h : w.cell? ⟨p, j, none⟩ = some (.slice (some ⟨rb, 0, none⟩) n c)) : w.cell? ⟨p, j, none⟩ = some (.slice (some ⟨rb, 0, none⟩) (lenAt w p j) c) := by simp [lenAt, h]

set_option maxHeartbeats 8000000 in
set_option maxRecDepth 100000 in
theorem insert_leaf_splitA (tb cb rb0 cap : Nat) (bytes : List UInt8) (off : Nat → Nat) (K : Nat → ByteArray) (p rb k x0 : Nat) (ks R : List Nat) (w : World) (E : Env w tb cb rb0 bytes cap) (hv : w.cell? ⟨tb, 3, none⟩ = some (.int .u64 0)) (hKs : Keys bytes off K ks) (hKR : Keys bytes off K R)
    (hs : ks.Pairwise fun i j => klt (K i) (K j) = true) (hN : NodeAt w p (.slice (some ⟨rb, 0, none⟩) 256 256) (.slice none 0 0) (.slice none 0 0)) (ho : w.ownsRow 0 42 2 (.slice (some ⟨rb, 0, none⟩) 256 256) 256 (refCells off ks))
    (hlen : ks.length = 256) (hpr : p ≠ rb) (hR : R = ks.take (Bt.posn klt K ks (K k)) ++ k :: ks.drop (Bt.posn klt K ks (K k))) (hx0 : R[256]? = some x0)
    (hA : Bt.posn klt K ks (K k) = 256) (hd : tb ≠ p ∧ tb ≠ rb ∧ cb ≠ p ∧ cb ≠ rb ∧ rb0 ≠ p ∧ rb0 ≠ rb) :
    Calls Try.prog 45 #[.pointer (some ⟨tb, 0, none⟩), .pointer (some ⟨p, 0, none⟩), .string (K k), .agg #[.int .u32 1, .int .u32 (off k)], .bool true] w fun e w' =>
      ∃ q g, e = .returned (.tuple #[.pointer (some ⟨q, 0, none⟩), .string (K x0)]) ∧ NodeAt w' p (.slice (some ⟨rb, 0, none⟩) 256 256) (.slice none 0 0) (.slice none 0 0) ∧
        w'.ownsRow 0 42 2 (.slice (some ⟨rb, 0, none⟩) 256 256) 256 (refCells off (R.take 256)) ∧ NodeAt w' q (.slice (some ⟨g, 0, none⟩) 1 256) (.slice none 0 0) (.slice none 0 0) ∧
        w'.ownsRow 0 42 2 (.slice (some ⟨g, 0, none⟩) 1 256) 1 (refCells off (R.drop 256)) ∧ w.heap.size ≤ q ∧ w.heap.size ≤ g ∧ q ≠ g ∧ Ext [p, rb] w w' := by
  have hL : Leaf w off p rb 256 ks := leaf_of (by rw [hlen]; exact hN) (by rw [hlen]; exact ho)
  have hplt : p < w.heap.size := lt_of_block hN
  have hrlt : rb < w.heap.size := owns_lt ho
  have htlt : tb < w.heap.size := World.block_lt_of_cell? _ _ hv
  have hil := Bt.posn_le (lt := klt) (K := K) ks (K k)
  -- behind the box
  obtain ⟨W1, hW1⟩ : ∃ W1, w.alloc (.cells #[.int .u32 1, .int .u32 (off k : Int)] 42) = W1 := ⟨_, rfl⟩
  have hb1 : Below w.heap.size w W1 := by rw [← hW1]; exact (Below.refl _ _).alloc (Nat.le_refl _) _
  have hs1 : W1.heap.size = w.heap.size + 1 := by rw [← hW1]; simp
  have x0' : W1.cell? ⟨w.heap.size, 0, none⟩ = some (.int .u32 1) := by rw [← hW1]; simp
  have x1' : W1.cell? ⟨w.heap.size, 1, none⟩ = some (.int .u32 (off k : Int)) := by rw [← hW1]; simp
  have c2 := ((hb1.cell (p := ⟨p, 2, none⟩) hplt).trans hN.c2)
  have HP := hid (position39 tb cb rb0 cap p rb 256 bytes off K ks (K k) W1 (E.below hb1) hKs (hL.below hb1) hs (by omega))
  have HW1 := hid hW1
  have HN := hid hN
  have HO := hid ho
  have HE := hid E
  have HB1 := hid hb1
  have HKR := hid hKR
  have HX0 := hid hx0
  obtain ⟨i, hi⟩ : ∃ i, Bt.posn klt K ks (K k) = i := ⟨_, rfl⟩
  rw [hi] at HP hil hR
  rw [hi] at hA
  have HA := hid hA
  clear hA
  have HR := hid hR
  have hRl : R.length = 257 := by rw [hR, Bt.ins_len _ _ _ hil, hlen]
  rw [hlen] at hil
  have HRL := hid hRl
  have HV := hid hv
  have HD := hid hd
  clear E hN ho hL hKs hKR hs hb1 hi hW1 hlen hR hRl hx0 hv hd
  go_enter Try.func45, Try.ntmps45
  go_wp2_with fail
  rw [HW1.out]
  refine (leaf_yes p W1 c2).mono ?_
  rintro e w' ⟨rfl, rfl⟩
  go_wp2_with fail
  refine (Hid.out HP).mono ?_
  rintro e w2 ⟨f, rfl, hb2⟩
  -- the world behind the search
  have hN2 : NodeAt w2 p (.slice (some ⟨rb, 0, none⟩) 256 256) (.slice none 0 0) (.slice none 0 0) := (hb2.block p (by omega)).trans ((HB1.out.block p hplt).trans HN.out)
  have ho2 : w2.ownsRow 0 42 2 (.slice (some ⟨rb, 0, none⟩) 256 256) 256 (refCells off ks) := owns_same (owns_same HO.out (HB1.out.block rb hrlt)) (hb2.block rb (by omega))
  have y0 : w2.cell? ⟨w.heap.size, 0, none⟩ = some (.int .u32 1) := (hb2.cell (p := ⟨w.heap.size, 0, none⟩) (by show w.heap.size < w'.heap.size; omega)).trans x0'
  have y1 : w2.cell? ⟨w.heap.size, 1, none⟩ = some (.int .u32 (off k : Int)) := (hb2.cell (p := ⟨w.heap.size, 1, none⟩) (by show w.heap.size < w'.heap.size; omega)).trans x1'
  have y2 := hN2.c1
  have hs2 : w.heap.size + 1 ≤ w2.heap.size := by have := hb2.size; omega
  have hx2 : Hid (Below w.heap.size w w2) := HB1.out.trans (hb2.mono (by omega))
  have H53 := hid (ins53_call (w := w) (c := 0) y2 ho2 y0 y1 hil hpr (show w.heap.size ≠ rb by omega))
  rw [← HR.out] at H53
  have HN2 := hid hN2
  have HO2 := hid ho2
  clear hN2 ho2 HP HN HO hb2 x0' x1' c2
  go_wp2
  go_region_held3 (fun w' => w'.cell? ⟨p, 1, none⟩ = some (.slice (some ⟨rb, 0, none⟩) 256 256) ∧ w'.cell? ⟨w.heap.size, 0, none⟩ = some (.int .u32 1) ∧ w'.cell? ⟨w.heap.size, 1, none⟩ = some (.int .u32 (off k : Int))) (first | (assumption) | (go_keep))
    (first
      | (go_at_call 53; refine (Hid.out H53).mono ?_; rintro e w3 ⟨g, c', rfl, hR3, hS3⟩))
  obtain ⟨hg3, hx3⟩ : w2.heap.size ≤ g ∧ Ext [] w2 w3 := by
    rcases hR3.out.2 with ⟨h1, _⟩ | ⟨_, h1, h2⟩
    · omega
    · exact ⟨h1, h2⟩
  have ho3 := hR3.out.1
  have hglt : g < w3.heap.size := owns_lt ho3
  obtain ⟨hc1, hc2⟩ : 257 ≤ c' ∧ c' ≤ maxLen := by
    obtain ⟨_, h2 | ⟨g', cap', cur, he, h0, hg, hr1, hr2, _⟩⟩ := ho3
    · simp at h2
    · simp only [Value.slice.injEq, Option.some.injEq, Addr.mk.injEq, and_true, true_and] at he
      obtain ⟨rfl, rfl⟩ := he
      exact ⟨hr1, hr2⟩
  have hv3 : w3.cell? ⟨tb, 3, none⟩ = some (.int .u64 0) := ((hx3.below.mono hx2.out.size).cell (p := ⟨tb, 3, none⟩) htlt).trans ((hx2.out.cell (p := ⟨tb, 3, none⟩) htlt).trans HV.out)
  have H37 := hid (newLeaf37 tb 1 (.slice (some ⟨g, 512, none⟩) 1 (c' - 256)) (refCells off ((R.drop 256).take 1)) w3 hv3 (by omega) (by rw [refCells_len, List.length_take, List.length_drop, HRL.out]; omega)
    (fun w' hb => src_refs (a := 256) (m := 1) (owns_same ho3 (hb.block g hglt)) HRL.out (by omega) _))
  rw [List.take_of_length_le (show (R.drop 256).length ≤ 1 by rw [List.length_drop, HRL.out]; omega)] at H37
  unfold maxLen at hc2
  clear hS3 H53 hv3
  have hi6 : ((i : Int) == 256) = true := by rw [HA.out]; rfl
  have HQ : Hid (NodeAt w3 p (.slice (some ⟨rb, 0, none⟩) 256 256) (.slice none 0 0) (.slice none 0 0) ∧ w3.ownsRow 0 42 2 (.slice (some ⟨rb, 0, none⟩) 256 256) 256 (refCells off ks)) :=
    ⟨(hx3.block p (by omega) (by simp)).trans HN2.out, owns_same HO2.out (hx3.block rb (by omega) (by simp))⟩
  have hx23 : Hid (Ext [] w w3) := (Ext.of_below hx2.out).trans hx3
  have HO3 := hid ho3
  have hs3 : w2.heap.size ≤ w3.heap.size := hx3.size
  clear hR3 hx2 HN2 HO2 y0 y1 y2 hx3 ho3
  go_wp2_with fail
  refine (Hid.out H37).mono ?_
  rintro e w4 ⟨rfl, hN4, ho4, hx4, hs4⟩
  clear H37
  -- the append onto the old row
  have hNp : NodeAt w4 p (.slice (some ⟨rb, 0, none⟩) 256 256) (.slice none 0 0) (.slice none 0 0) := (hx4.block p (by omega) (by simp)).trans HQ.out.1
  have hop : w4.ownsRow 0 42 2 (.slice (some ⟨rb, 0, none⟩) 256 256) 256 (refCells off ks) := owns_same HQ.out.2 (hx4.block rb (by omega) (by simp))
  obtain ⟨_, hno | ⟨rb', cap', cur, he, _, hcur, hr1, hr2, hr3, hr4⟩⟩ := hop
  · simp at hno
  simp only [Value.slice.injEq, Option.some.injEq, Addr.mk.injEq, and_true, true_and] at he
  obtain ⟨rfl, rfl⟩ := he
  obtain ⟨i0, hi0, hz0, hzs, hzb⟩ := info_parts info42
  have hsrc : Src Try.prog 2 32 (.slice (some ⟨g, 0, none⟩) 256 c') 256 (refCells off (R.take 256)) w4.drew := by
    have := src_refs (a := 0) (m := 256) (owns_same HO3.out (show w4.drew.heap[g]? = w3.heap[g]? from hx4.block g hglt (by simp))) HRL.out (by omega) c'
    simpa using this
  have hcl : (refCells off (R.take 256)).length = 512 := by rw [refCells_len, List.length_take, HRL.out]; rfl
  have hap : ∀ ty, (Builtin.append_ #[32, 32] ty #[.slice (some ⟨rb, 0, none⟩) 0 256, .slice (some ⟨g, 0, none⟩) 256 c']).run Try.prog w4.drew = .ok (.slice (some ⟨rb, 0, none⟩) 256 256) (w4.drew.setRow rb (refCells off (R.take 256) ++ cur.toList.drop 512).toArray) := fun ty => by
    have h := run_append_src_row (P := Try.prog) w4.drew 32 32 ty 42 i0 Try.underlying32 hi0 rb 0 256 cur hcur _ 256 _ (by rw [hzs]; exact hsrc) (by omega) (by rw [hzs, hcl]; omega)
    rw [hzs, hcl] at h
    simpa using h
  generalize hW5 : w4.drew.setRow rb (refCells off (R.take 256) ++ cur.toList.drop 512).toArray = W5 at hap
  have hx5 : Ext [rb] w4 W5 := by rw [← hW5]; exact ((Ext.refl [rb] w4).drew).setRow (Or.inl (by simp)) _
  have hg5 : W5.heap[rb]? = some (.cells (refCells off (R.take 256) ++ cur.toList.drop 512).toArray 42 (0, 0)) := by rw [← hW5]; exact setRow_heap _ _ _ _ 42 _ hcur
  have ho5 : W5.ownsRow 0 42 2 (.slice (some ⟨rb, 0, none⟩) 256 256) 256 (refCells off (R.take 256)) :=
    ⟨hcl, Or.inr ⟨rb, 256, _, rfl, Nat.zero_le _, hg5, by omega, by decide, by simp [hcl]; omega, by simp only [List.toList_toArray]; exact List.take_left' hcl⟩⟩
  have hN5 : NodeAt W5 p (.slice (some ⟨rb, 0, none⟩) 256 256) (.slice none 0 0) (.slice none 0 0) := (hx5.block p (by omega) (by simpa using hpr)).trans hNp
  have hq5 : NodeAt W5 (w3.heap.size + 1) (.slice (some ⟨w3.heap.size, 0, none⟩) 1 256) (.slice none 0 0) (.slice none 0 0) := (hx5.block _ (by omega) (by simp; omega)).trans hN4
  have hqo5 : W5.ownsRow 0 42 2 (.slice (some ⟨w3.heap.size, 0, none⟩) 1 256) 1 (refCells off (R.drop 256)) := owns_same ho4 (hx5.block _ (by omega) (by simp; omega))
  obtain ⟨W6, hW6⟩ : ∃ W6, W5.setCell ⟨p, 1, none⟩ (.slice (some ⟨rb, 0, none⟩) 256 256) = W6 := ⟨_, rfl⟩
  have hx6 : Ext [p] W5 W6 := by rw [← hW6]; exact (Ext.refl [p] W5).setCell (Or.inl (by simp)) _
  have hs5 : w4.heap.size ≤ W5.heap.size := hx5.size
  have HN6 : Hid (NodeAt W6 p (.slice (some ⟨rb, 0, none⟩) 256 256) (.slice none 0 0) (.slice none 0 0)) := by show NodeAt _ _ _ _ _; rw [← hW6]; exact node_set1 hN5 _
  have HO6 : Hid (W6.ownsRow 0 42 2 (.slice (some ⟨rb, 0, none⟩) 256 256) 256 (refCells off (R.take 256))) := owns_same ho5 (hx6.block rb (by omega) (by simpa using fun h => hpr h.symm))
  have HQ6 : Hid (NodeAt W6 (w3.heap.size + 1) (.slice (some ⟨w3.heap.size, 0, none⟩) 1 256) (.slice none 0 0) (.slice none 0 0)) := (hx6.block _ (by omega) (by simp; omega)).trans hq5
  have HQO6 : Hid (W6.ownsRow 0 42 2 (.slice (some ⟨w3.heap.size, 0, none⟩) 1 256) 1 (refCells off (R.drop 256))) := owns_same hqo5 (hx6.block _ (by omega) (by simp; omega))
  have HX6 : Hid (Ext [p, rb] w W6) := (((hx23.out.trans hx4).mono (by simp)).trans (hx5.mono (by simp))).trans (hx6.mono (by simp))
  have hmem := List.mem_of_getElem? HX0.out
  have hd := HD.out
  have H54 := hid (record54 tb cb rb0 (off x0) cap bytes (K x0) W6 (HE.out.ext HX6.out (by simp [hd.1, hd.2.1]) (by simp [hd.2.2.1, hd.2.2.2.1]) (by simp [hd.2.2.2.2.1, hd.2.2.2.2.2])) (HKR.out.lies x0 hmem) (HKR.out.small x0 hmem))
  have hdx : (R.drop 256)[0]? = some x0 := by rw [List.getElem?_drop]; exact HX0.out
  have z1 := HQ6.out.c1
  have z2 := owns_cell HQO6.out (refCells_get off (R.drop 256) 0 x0 hdx).1
  have z3 := owns_cell HQO6.out (refCells_get off (R.drop 256) 0 x0 hdx).2
  simp only [Nat.zero_mul, Nat.zero_add] at z2 z3
  have hp1 := hNp.c1
  have hp5 := hN5.c1
  have hf5 := hN5.free 1
  have HW6 := hid hW6
  generalize off x0 = ox0 at *
  clear hNp hcur hr1 hr2 hr3 hr4 hi0 hz0 hzs hzb hsrc hcl hW5 hx5 hg5 ho5 hN5 hq5 hqo5 hW6 hx6 hdx hmem hd HE HKR HX0 HD HV HQ hN4 ho4 hx4 HO3 HR HRL hx23
  have hs4' : w3.heap.size + 2 ≤ w4.heap.size := by omega
  have hc3 : (256 : Int) ≤ (c' : Int) := by omega
  have hw3 : Hid (w.heap.size ≤ w3.heap.size) := by show w.heap.size ≤ w3.heap.size; omega
  clear hi6
  clear hs4 hs1 HW1 HB1 hc1 hc2 hil hs2 hs3 hs4' hg3 hglt hs5
  go_wp2_with fail
  have hp1' : w4.drew.cell? ⟨p, 1, none⟩ = some (.slice (some ⟨rb, 0, none⟩) 256 256) := hp1
  have HAP := hid hap
  clear hap hp1
  go_region_law (refine step_append_run rfl (.tmp 70) (.tmp 73) 32 32 rfl _ _ rfl rfl (HAP.out _) ?_)
  rw [HW6.out]
  clear HAP hp1' hp5 hf5
  go_wp2_with fail
  refine (Hid.out H54).mono ?_
  rintro e w7 ⟨kv, vv, rfl, hkv, hb7⟩
  have hstr : (convert 58 9 kv).run Try.prog w7 = .ok (.string (K x0)) w7 := hkv.str
  have hstr' : (convert 58 9 kv).run Try.prog w7.drew = .ok (.string (K x0)) w7.drew := KeyVal.str (show KeyVal w7.drew rb0 kv (K x0) from hkv)
  have h6q := lt_of_block HQ6.out
  have HF : Hid (NodeAt w7.drew p (.slice (some ⟨rb, 0, none⟩) 256 256) (.slice none 0 0) (.slice none 0 0) ∧
      w7.drew.ownsRow 0 42 2 (.slice (some ⟨rb, 0, none⟩) 256 256) 256 (refCells off (R.take 256)) ∧ NodeAt w7.drew (w3.heap.size + 1) (.slice (some ⟨w3.heap.size, 0, none⟩) 1 256) (.slice none 0 0) (.slice none 0 0) ∧
      w7.drew.ownsRow 0 42 2 (.slice (some ⟨w3.heap.size, 0, none⟩) 1 256) 1 (refCells off (R.drop 256)) ∧ w.heap.size ≤ w3.heap.size + 1 ∧ w.heap.size ≤ w3.heap.size ∧ w3.heap.size + 1 ≠ w3.heap.size ∧ Ext [p, rb] w w7.drew) :=
    ⟨(hb7.block _ (lt_of_block HN6.out)).trans HN6.out, owns_same HO6.out (show w7.drew.heap[rb]? = _ from hb7.block _ (owns_lt HO6.out)), (hb7.block _ h6q).trans HQ6.out, owns_same HQO6.out (show w7.drew.heap[w3.heap.size]? = _ from hb7.block _ (owns_lt HQO6.out)), by have := hw3.out; omega, hw3.out, by omega, (HX6.out.trans (below_ext _ hb7)).drew⟩
  clear hkv hb7 H54 HN6 HO6 HQ6 HQO6 HX6 HW6 z1 z2 z3 h6q hw3
  go_wp2_with fail
  go_region
  all_goals go_wp2
  all_goals go_ret2
  all_goals exact ⟨_, _, rfl, HF.out⟩


set_option maxHeartbeats 8000000 in
set_option maxRecDepth 100000 in
theorem insert_leaf_splitB (tb cb rb0 cap : Nat) (bytes : List UInt8) (off : Nat → Nat) (K : Nat → ByteArray) (p rb k x0 : Nat) (ks R : List Nat) (w : World) (E : Env w tb cb rb0 bytes cap) (hv : w.cell? ⟨tb, 3, none⟩ = some (.int .u64 0)) (hKs : Keys bytes off K ks) (hKR : Keys bytes off K R)
    (hs : ks.Pairwise fun i j => klt (K i) (K j) = true) (hN : NodeAt w p (.slice (some ⟨rb, 0, none⟩) 256 256) (.slice none 0 0) (.slice none 0 0)) (ho : w.ownsRow 0 42 2 (.slice (some ⟨rb, 0, none⟩) 256 256) 256 (refCells off ks))
    (hlen : ks.length = 256) (hpr : p ≠ rb) (hR : R = ks.take (Bt.posn klt K ks (K k)) ++ k :: ks.drop (Bt.posn klt K ks (K k))) (hx0 : R[128]? = some x0)
     (hd : tb ≠ p ∧ tb ≠ rb ∧ cb ≠ p ∧ cb ≠ rb ∧ rb0 ≠ p ∧ rb0 ≠ rb) :
    Calls Try.prog 45 #[.pointer (some ⟨tb, 0, none⟩), .pointer (some ⟨p, 0, none⟩), .string (K k), .agg #[.int .u32 1, .int .u32 (off k)], .bool false] w fun e w' =>
      ∃ q g, e = .returned (.tuple #[.pointer (some ⟨q, 0, none⟩), .string (K x0)]) ∧ NodeAt w' p (.slice (some ⟨rb, 0, none⟩) 128 256) (.slice none 0 0) (.slice none 0 0) ∧
        w'.ownsRow 0 42 2 (.slice (some ⟨rb, 0, none⟩) 128 256) 128 (refCells off (R.take 128)) ∧ NodeAt w' q (.slice (some ⟨g, 0, none⟩) 129 256) (.slice none 0 0) (.slice none 0 0) ∧
        w'.ownsRow 0 42 2 (.slice (some ⟨g, 0, none⟩) 129 256) 129 (refCells off (R.drop 128)) ∧ w.heap.size ≤ q ∧ w.heap.size ≤ g ∧ q ≠ g ∧ Ext [p, rb] w w' := by
  have hL : Leaf w off p rb 256 ks := leaf_of (by rw [hlen]; exact hN) (by rw [hlen]; exact ho)
  have hplt : p < w.heap.size := lt_of_block hN
  have hrlt : rb < w.heap.size := owns_lt ho
  have htlt : tb < w.heap.size := World.block_lt_of_cell? _ _ hv
  have hil := Bt.posn_le (lt := klt) (K := K) ks (K k)
  -- behind the box
  obtain ⟨W1, hW1⟩ : ∃ W1, w.alloc (.cells #[.int .u32 1, .int .u32 (off k : Int)] 42) = W1 := ⟨_, rfl⟩
  have hb1 : Below w.heap.size w W1 := by rw [← hW1]; exact (Below.refl _ _).alloc (Nat.le_refl _) _
  have hs1 : W1.heap.size = w.heap.size + 1 := by rw [← hW1]; simp
  have x0' : W1.cell? ⟨w.heap.size, 0, none⟩ = some (.int .u32 1) := by rw [← hW1]; simp
  have x1' : W1.cell? ⟨w.heap.size, 1, none⟩ = some (.int .u32 (off k : Int)) := by rw [← hW1]; simp
  have c2 := ((hb1.cell (p := ⟨p, 2, none⟩) hplt).trans hN.c2)
  have HP := hid (position39 tb cb rb0 cap p rb 256 bytes off K ks (K k) W1 (E.below hb1) hKs (hL.below hb1) hs (by omega))
  have HW1 := hid hW1
  have HN := hid hN
  have HO := hid ho
  have HE := hid E
  have HB1 := hid hb1
  have HKR := hid hKR
  have HX0 := hid hx0
  obtain ⟨i, hi⟩ : ∃ i, Bt.posn klt K ks (K k) = i := ⟨_, rfl⟩
  rw [hi] at HP hil hR
  -- rw [hi] at hA
  -- have HA := hid hA
  -- clear hA
  have HR := hid hR
  have hRl : R.length = 257 := by rw [hR, Bt.ins_len _ _ _ hil, hlen]
  rw [hlen] at hil
  have HRL := hid hRl
  have HV := hid hv
  have HD := hid hd
  clear E hN ho hL hKs hKR hs hb1 hi hW1 hlen hR hRl hx0 hv hd
  go_enter Try.func45, Try.ntmps45
  go_wp2_with fail
  rw [HW1.out]
  refine (leaf_yes p W1 c2).mono ?_
  rintro e w' ⟨rfl, rfl⟩
  go_wp2_with fail
  refine (Hid.out HP).mono ?_
  rintro e w2 ⟨f, rfl, hb2⟩
  -- the world behind the search
  have hN2 : NodeAt w2 p (.slice (some ⟨rb, 0, none⟩) 256 256) (.slice none 0 0) (.slice none 0 0) := (hb2.block p (by omega)).trans ((HB1.out.block p hplt).trans HN.out)
  have ho2 : w2.ownsRow 0 42 2 (.slice (some ⟨rb, 0, none⟩) 256 256) 256 (refCells off ks) := owns_same (owns_same HO.out (HB1.out.block rb hrlt)) (hb2.block rb (by omega))
  have y0 : w2.cell? ⟨w.heap.size, 0, none⟩ = some (.int .u32 1) := (hb2.cell (p := ⟨w.heap.size, 0, none⟩) (by show w.heap.size < w'.heap.size; omega)).trans x0'
  have y1 : w2.cell? ⟨w.heap.size, 1, none⟩ = some (.int .u32 (off k : Int)) := (hb2.cell (p := ⟨w.heap.size, 1, none⟩) (by show w.heap.size < w'.heap.size; omega)).trans x1'
  have y2 := hN2.c1
  have hs2 : w.heap.size + 1 ≤ w2.heap.size := by have := hb2.size; omega
  have hx2 : Hid (Below w.heap.size w w2) := HB1.out.trans (hb2.mono (by omega))
  have H53 := hid (ins53_call (w := w) (c := 0) y2 ho2 y0 y1 hil hpr (show w.heap.size ≠ rb by omega))
  rw [← HR.out] at H53
  have HN2 := hid hN2
  have HO2 := hid ho2
  clear hN2 ho2 HP HN HO hb2 x0' x1' c2
  go_wp2
  go_region_held3 (fun w' => w'.cell? ⟨p, 1, none⟩ = some (.slice (some ⟨rb, 0, none⟩) 256 256) ∧ w'.cell? ⟨w.heap.size, 0, none⟩ = some (.int .u32 1) ∧ w'.cell? ⟨w.heap.size, 1, none⟩ = some (.int .u32 (off k : Int))) (first | (assumption) | (go_keep))
    (first
      | (go_at_call 53; refine (Hid.out H53).mono ?_; rintro e w3 ⟨g, c', rfl, hR3, hS3⟩))
  obtain ⟨hg3, hx3⟩ : w2.heap.size ≤ g ∧ Ext [] w2 w3 := by
    rcases hR3.out.2 with ⟨h1, _⟩ | ⟨_, h1, h2⟩
    · omega
    · exact ⟨h1, h2⟩
  have ho3 := hR3.out.1
  have hglt : g < w3.heap.size := owns_lt ho3
  obtain ⟨hc1, hc2⟩ : 257 ≤ c' ∧ c' ≤ maxLen := by
    obtain ⟨_, h2 | ⟨g', cap', cur, he, h0, hg, hr1, hr2, _⟩⟩ := ho3
    · simp at h2
    · simp only [Value.slice.injEq, Option.some.injEq, Addr.mk.injEq, and_true, true_and] at he
      obtain ⟨rfl, rfl⟩ := he
      exact ⟨hr1, hr2⟩
  have hv3 : w3.cell? ⟨tb, 3, none⟩ = some (.int .u64 0) := ((hx3.below.mono hx2.out.size).cell (p := ⟨tb, 3, none⟩) htlt).trans ((hx2.out.cell (p := ⟨tb, 3, none⟩) htlt).trans HV.out)
  have H37 := hid (newLeaf37 tb 129 (.slice (some ⟨g, 256, none⟩) 129 (c' - 128)) (refCells off ((R.drop 128).take 129)) w3 hv3 (by omega) (by rw [refCells_len, List.length_take, List.length_drop, HRL.out]; omega)
    (fun w' hb => src_refs (a := 128) (m := 129) (owns_same ho3 (hb.block g hglt)) HRL.out (by omega) _))
  rw [List.take_of_length_le (show (R.drop 128).length ≤ 129 by rw [List.length_drop, HRL.out]; omega)] at H37
  unfold maxLen at hc2
  clear hS3 H53 hv3
  skip
  have HQ : Hid (NodeAt w3 p (.slice (some ⟨rb, 0, none⟩) 256 256) (.slice none 0 0) (.slice none 0 0) ∧ w3.ownsRow 0 42 2 (.slice (some ⟨rb, 0, none⟩) 256 256) 256 (refCells off ks)) :=
    ⟨(hx3.block p (by omega) (by simp)).trans HN2.out, owns_same HO2.out (hx3.block rb (by omega) (by simp))⟩
  have hx23 : Hid (Ext [] w w3) := (Ext.of_below hx2.out).trans hx3
  have HO3 := hid ho3
  have hs3 : w2.heap.size ≤ w3.heap.size := hx3.size
  clear hR3 hx2 HN2 HO2 y0 y1 y2 hx3 ho3
  go_wp2_with fail
  refine (Hid.out H37).mono ?_
  rintro e w4 ⟨rfl, hN4, ho4, hx4, hs4⟩
  clear H37
  -- the append onto the old row
  have hNp : NodeAt w4 p (.slice (some ⟨rb, 0, none⟩) 256 256) (.slice none 0 0) (.slice none 0 0) := (hx4.block p (by omega) (by simp)).trans HQ.out.1
  have hop : w4.ownsRow 0 42 2 (.slice (some ⟨rb, 0, none⟩) 256 256) 256 (refCells off ks) := owns_same HQ.out.2 (hx4.block rb (by omega) (by simp))
  obtain ⟨_, hno | ⟨rb', cap', cur, he, _, hcur, hr1, hr2, hr3, hr4⟩⟩ := hop
  · simp at hno
  simp only [Value.slice.injEq, Option.some.injEq, Addr.mk.injEq, and_true, true_and] at he
  obtain ⟨rfl, rfl⟩ := he
  obtain ⟨i0, hi0, hz0, hzs, hzb⟩ := info_parts info42
  have hsrc : Src Try.prog 2 32 (.slice (some ⟨g, 0, none⟩) 128 c') 128 (refCells off (R.take 128)) w4.drew := by
    have := src_refs (a := 0) (m := 128) (owns_same HO3.out (show w4.drew.heap[g]? = w3.heap[g]? from hx4.block g hglt (by simp))) HRL.out (by omega) c'
    simpa using this
  have hcl : (refCells off (R.take 128)).length = 256 := by rw [refCells_len, List.length_take, HRL.out]; rfl
  have hap : ∀ ty, (Builtin.append_ #[32, 32] ty #[.slice (some ⟨rb, 0, none⟩) 0 256, .slice (some ⟨g, 0, none⟩) 128 c']).run Try.prog w4.drew = .ok (.slice (some ⟨rb, 0, none⟩) 128 256) (w4.drew.setRow rb (refCells off (R.take 128) ++ cur.toList.drop 256).toArray) := fun ty => by
    have h := run_append_src_row (P := Try.prog) w4.drew 32 32 ty 42 i0 Try.underlying32 hi0 rb 0 256 cur hcur _ 128 _ (by rw [hzs]; exact hsrc) (by omega) (by rw [hzs, hcl]; omega)
    rw [hzs, hcl] at h
    simpa using h
  generalize hW5 : w4.drew.setRow rb (refCells off (R.take 128) ++ cur.toList.drop 256).toArray = W5 at hap
  have hx5 : Ext [rb] w4 W5 := by rw [← hW5]; exact ((Ext.refl [rb] w4).drew).setRow (Or.inl (by simp)) _
  have hg5 : W5.heap[rb]? = some (.cells (refCells off (R.take 128) ++ cur.toList.drop 256).toArray 42 (0, 0)) := by rw [← hW5]; exact setRow_heap _ _ _ _ 42 _ hcur
  have ho5 : W5.ownsRow 0 42 2 (.slice (some ⟨rb, 0, none⟩) 128 256) 128 (refCells off (R.take 128)) :=
    ⟨hcl, Or.inr ⟨rb, 256, _, rfl, Nat.zero_le _, hg5, by omega, by decide, by simp [hcl]; omega, by simp only [List.toList_toArray]; exact List.take_left' hcl⟩⟩
  have hN5 : NodeAt W5 p (.slice (some ⟨rb, 0, none⟩) 256 256) (.slice none 0 0) (.slice none 0 0) := (hx5.block p (by omega) (by simpa using hpr)).trans hNp
  have hq5 : NodeAt W5 (w3.heap.size + 1) (.slice (some ⟨w3.heap.size, 0, none⟩) 129 256) (.slice none 0 0) (.slice none 0 0) := (hx5.block _ (by omega) (by simp; omega)).trans hN4
  have hqo5 : W5.ownsRow 0 42 2 (.slice (some ⟨w3.heap.size, 0, none⟩) 129 256) 129 (refCells off (R.drop 128)) := owns_same ho4 (hx5.block _ (by omega) (by simp; omega))
  obtain ⟨W6, hW6⟩ : ∃ W6, W5.setCell ⟨p, 1, none⟩ (.slice (some ⟨rb, 0, none⟩) 128 256) = W6 := ⟨_, rfl⟩
  have hx6 : Ext [p] W5 W6 := by rw [← hW6]; exact (Ext.refl [p] W5).setCell (Or.inl (by simp)) _
  have hs5 : w4.heap.size ≤ W5.heap.size := hx5.size
  have HN6 : Hid (NodeAt W6 p (.slice (some ⟨rb, 0, none⟩) 128 256) (.slice none 0 0) (.slice none 0 0)) := by show NodeAt _ _ _ _ _; rw [← hW6]; exact node_set1 hN5 _
  have HO6 : Hid (W6.ownsRow 0 42 2 (.slice (some ⟨rb, 0, none⟩) 128 256) 128 (refCells off (R.take 128))) := owns_same ho5 (hx6.block rb (by omega) (by simpa using fun h => hpr h.symm))
  have HQ6 : Hid (NodeAt W6 (w3.heap.size + 1) (.slice (some ⟨w3.heap.size, 0, none⟩) 129 256) (.slice none 0 0) (.slice none 0 0)) := (hx6.block _ (by omega) (by simp; omega)).trans hq5
  have HQO6 : Hid (W6.ownsRow 0 42 2 (.slice (some ⟨w3.heap.size, 0, none⟩) 129 256) 129 (refCells off (R.drop 128))) := owns_same hqo5 (hx6.block _ (by omega) (by simp; omega))
  have HX6 : Hid (Ext [p, rb] w W6) := (((hx23.out.trans hx4).mono (by simp)).trans (hx5.mono (by simp))).trans (hx6.mono (by simp))
  have hmem := List.mem_of_getElem? HX0.out
  have hd := HD.out
  have H54 := hid (record54 tb cb rb0 (off x0) cap bytes (K x0) W6 (HE.out.ext HX6.out (by simp [hd.1, hd.2.1]) (by simp [hd.2.2.1, hd.2.2.2.1]) (by simp [hd.2.2.2.2.1, hd.2.2.2.2.2])) (HKR.out.lies x0 hmem) (HKR.out.small x0 hmem))
  have hdx : (R.drop 128)[0]? = some x0 := by rw [List.getElem?_drop]; exact HX0.out
  have z1 := HQ6.out.c1
  have z2 := owns_cell HQO6.out (refCells_get off (R.drop 128) 0 x0 hdx).1
  have z3 := owns_cell HQO6.out (refCells_get off (R.drop 128) 0 x0 hdx).2
  simp only [Nat.zero_mul, Nat.zero_add] at z2 z3
  have hp1 := hNp.c1
  have hp5 := hN5.c1
  have hf5 := hN5.free 1
  have HW6 := hid hW6
  generalize off x0 = ox0 at *
  clear hNp hcur hr1 hr2 hr3 hr4 hi0 hz0 hzs hzb hsrc hcl hW5 hx5 hg5 ho5 hN5 hq5 hqo5 hW6 hx6 hdx hmem hd HE HKR HX0 HD HV HQ hN4 ho4 hx4 HO3 HR HRL hx23
  have hs4' : w3.heap.size + 2 ≤ w4.heap.size := by omega
  have hc3 : (128 : Int) ≤ (c' : Int) := by omega
  have hw3 : Hid (w.heap.size ≤ w3.heap.size) := by show w.heap.size ≤ w3.heap.size; omega
  -- clear hi6
  clear hs4 hs1 HW1 HB1 hc1 hc2 hil hs2 hs3 hs4' hg3 hglt hs5
  go_wp2_with fail
  have hp1' : w4.drew.cell? ⟨p, 1, none⟩ = some (.slice (some ⟨rb, 0, none⟩) 256 256) := hp1
  have HAP := hid hap
  clear hap hp1
  go_region_law (refine step_append_run rfl (.tmp 70) (.tmp 73) 32 32 rfl _ _ rfl rfl (HAP.out _) ?_)
  rw [HW6.out]
  clear HAP hp1' hp5 hf5
  go_wp2_with fail
  refine (Hid.out H54).mono ?_
  rintro e w7 ⟨kv, vv, rfl, hkv, hb7⟩
  have hstr : (convert 58 9 kv).run Try.prog w7 = .ok (.string (K x0)) w7 := hkv.str
  have hstr' : (convert 58 9 kv).run Try.prog w7.drew = .ok (.string (K x0)) w7.drew := KeyVal.str (show KeyVal w7.drew rb0 kv (K x0) from hkv)
  have h6q := lt_of_block HQ6.out
  have HF : Hid (NodeAt w7.drew p (.slice (some ⟨rb, 0, none⟩) 128 256) (.slice none 0 0) (.slice none 0 0) ∧
      w7.drew.ownsRow 0 42 2 (.slice (some ⟨rb, 0, none⟩) 128 256) 128 (refCells off (R.take 128)) ∧ NodeAt w7.drew (w3.heap.size + 1) (.slice (some ⟨w3.heap.size, 0, none⟩) 129 256) (.slice none 0 0) (.slice none 0 0) ∧
      w7.drew.ownsRow 0 42 2 (.slice (some ⟨w3.heap.size, 0, none⟩) 129 256) 129 (refCells off (R.drop 128)) ∧ w.heap.size ≤ w3.heap.size + 1 ∧ w.heap.size ≤ w3.heap.size ∧ w3.heap.size + 1 ≠ w3.heap.size ∧ Ext [p, rb] w w7.drew) :=
    ⟨(hb7.block _ (lt_of_block HN6.out)).trans HN6.out, owns_same HO6.out (show w7.drew.heap[rb]? = _ from hb7.block _ (owns_lt HO6.out)), (hb7.block _ h6q).trans HQ6.out, owns_same HQO6.out (show w7.drew.heap[w3.heap.size]? = _ from hb7.block _ (owns_lt HQO6.out)), by have := hw3.out; omega, hw3.out, by omega, (HX6.out.trans (below_ext _ hb7)).drew⟩
  clear hkv hb7 H54 HN6 HO6 HQ6 HQO6 HX6 HW6 z1 z2 z3 h6q hw3
  go_wp2_with fail
  go_region
  all_goals go_wp2
  all_goals go_ret2
  all_goals exact ⟨_, _, rfl, HF.out⟩


set_option maxHeartbeats 8000000 in
set_option maxRecDepth 100000 in
theorem insert_leaf_splitC (tb cb rb0 cap : Nat) (bytes : List UInt8) (off : Nat → Nat) (K : Nat → ByteArray) (p rb k x0 : Nat) (ks R : List Nat) (w : World) (E : Env w tb cb rb0 bytes cap) (hv : w.cell? ⟨tb, 3, none⟩ = some (.int .u64 0)) (hKs : Keys bytes off K ks) (hKR : Keys bytes off K R)
    (hs : ks.Pairwise fun i j => klt (K i) (K j) = true) (hN : NodeAt w p (.slice (some ⟨rb, 0, none⟩) 256 256) (.slice none 0 0) (.slice none 0 0)) (ho : w.ownsRow 0 42 2 (.slice (some ⟨rb, 0, none⟩) 256 256) 256 (refCells off ks))
    (hlen : ks.length = 256) (hpr : p ≠ rb) (hR : R = ks.take (Bt.posn klt K ks (K k)) ++ k :: ks.drop (Bt.posn klt K ks (K k))) (hx0 : R[128]? = some x0)
    (hA : Bt.posn klt K ks (K k) ≠ 256) (hd : tb ≠ p ∧ tb ≠ rb ∧ cb ≠ p ∧ cb ≠ rb ∧ rb0 ≠ p ∧ rb0 ≠ rb) :
    Calls Try.prog 45 #[.pointer (some ⟨tb, 0, none⟩), .pointer (some ⟨p, 0, none⟩), .string (K k), .agg #[.int .u32 1, .int .u32 (off k)], .bool true] w fun e w' =>
      ∃ q g, e = .returned (.tuple #[.pointer (some ⟨q, 0, none⟩), .string (K x0)]) ∧ NodeAt w' p (.slice (some ⟨rb, 0, none⟩) 128 256) (.slice none 0 0) (.slice none 0 0) ∧
        w'.ownsRow 0 42 2 (.slice (some ⟨rb, 0, none⟩) 128 256) 128 (refCells off (R.take 128)) ∧ NodeAt w' q (.slice (some ⟨g, 0, none⟩) 129 256) (.slice none 0 0) (.slice none 0 0) ∧
        w'.ownsRow 0 42 2 (.slice (some ⟨g, 0, none⟩) 129 256) 129 (refCells off (R.drop 128)) ∧ w.heap.size ≤ q ∧ w.heap.size ≤ g ∧ q ≠ g ∧ Ext [p, rb] w w' := by
  have hL : Leaf w off p rb 256 ks := leaf_of (by rw [hlen]; exact hN) (by rw [hlen]; exact ho)
  have hplt : p < w.heap.size := lt_of_block hN
  have hrlt : rb < w.heap.size := owns_lt ho
  have htlt : tb < w.heap.size := World.block_lt_of_cell? _ _ hv
  have hil := Bt.posn_le (lt := klt) (K := K) ks (K k)
  -- behind the box
  obtain ⟨W1, hW1⟩ : ∃ W1, w.alloc (.cells #[.int .u32 1, .int .u32 (off k : Int)] 42) = W1 := ⟨_, rfl⟩
  have hb1 : Below w.heap.size w W1 := by rw [← hW1]; exact (Below.refl _ _).alloc (Nat.le_refl _) _
  have hs1 : W1.heap.size = w.heap.size + 1 := by rw [← hW1]; simp
  have x0' : W1.cell? ⟨w.heap.size, 0, none⟩ = some (.int .u32 1) := by rw [← hW1]; simp
  have x1' : W1.cell? ⟨w.heap.size, 1, none⟩ = some (.int .u32 (off k : Int)) := by rw [← hW1]; simp
  have c2 := ((hb1.cell (p := ⟨p, 2, none⟩) hplt).trans hN.c2)
  have HP := hid (position39 tb cb rb0 cap p rb 256 bytes off K ks (K k) W1 (E.below hb1) hKs (hL.below hb1) hs (by omega))
  have HW1 := hid hW1
  have HN := hid hN
  have HO := hid ho
  have HE := hid E
  have HB1 := hid hb1
  have HKR := hid hKR
  have HX0 := hid hx0
  obtain ⟨i, hi⟩ : ∃ i, Bt.posn klt K ks (K k) = i := ⟨_, rfl⟩
  rw [hi] at HP hil hR
  rw [hi] at hA
  have HA := hid hA
  clear hA
  have HR := hid hR
  have hRl : R.length = 257 := by rw [hR, Bt.ins_len _ _ _ hil, hlen]
  rw [hlen] at hil
  have HRL := hid hRl
  have HV := hid hv
  have HD := hid hd
  clear E hN ho hL hKs hKR hs hb1 hi hW1 hlen hR hRl hx0 hv hd
  go_enter Try.func45, Try.ntmps45
  go_wp2_with fail
  rw [HW1.out]
  refine (leaf_yes p W1 c2).mono ?_
  rintro e w' ⟨rfl, rfl⟩
  go_wp2_with fail
  refine (Hid.out HP).mono ?_
  rintro e w2 ⟨f, rfl, hb2⟩
  -- the world behind the search
  have hN2 : NodeAt w2 p (.slice (some ⟨rb, 0, none⟩) 256 256) (.slice none 0 0) (.slice none 0 0) := (hb2.block p (by omega)).trans ((HB1.out.block p hplt).trans HN.out)
  have ho2 : w2.ownsRow 0 42 2 (.slice (some ⟨rb, 0, none⟩) 256 256) 256 (refCells off ks) := owns_same (owns_same HO.out (HB1.out.block rb hrlt)) (hb2.block rb (by omega))
  have y0 : w2.cell? ⟨w.heap.size, 0, none⟩ = some (.int .u32 1) := (hb2.cell (p := ⟨w.heap.size, 0, none⟩) (by show w.heap.size < w'.heap.size; omega)).trans x0'
  have y1 : w2.cell? ⟨w.heap.size, 1, none⟩ = some (.int .u32 (off k : Int)) := (hb2.cell (p := ⟨w.heap.size, 1, none⟩) (by show w.heap.size < w'.heap.size; omega)).trans x1'
  have y2 := hN2.c1
  have hs2 : w.heap.size + 1 ≤ w2.heap.size := by have := hb2.size; omega
  have hx2 : Hid (Below w.heap.size w w2) := HB1.out.trans (hb2.mono (by omega))
  have H53 := hid (ins53_call (w := w) (c := 0) y2 ho2 y0 y1 hil hpr (show w.heap.size ≠ rb by omega))
  rw [← HR.out] at H53
  have HN2 := hid hN2
  have HO2 := hid ho2
  clear hN2 ho2 HP HN HO hb2 x0' x1' c2
  go_wp2
  go_region_held3 (fun w' => w'.cell? ⟨p, 1, none⟩ = some (.slice (some ⟨rb, 0, none⟩) 256 256) ∧ w'.cell? ⟨w.heap.size, 0, none⟩ = some (.int .u32 1) ∧ w'.cell? ⟨w.heap.size, 1, none⟩ = some (.int .u32 (off k : Int))) (first | (assumption) | (go_keep))
    (first
      | (go_at_call 53; refine (Hid.out H53).mono ?_; rintro e w3 ⟨g, c', rfl, hR3, hS3⟩))
  obtain ⟨hg3, hx3⟩ : w2.heap.size ≤ g ∧ Ext [] w2 w3 := by
    rcases hR3.out.2 with ⟨h1, _⟩ | ⟨_, h1, h2⟩
    · omega
    · exact ⟨h1, h2⟩
  have ho3 := hR3.out.1
  have hglt : g < w3.heap.size := owns_lt ho3
  obtain ⟨hc1, hc2⟩ : 257 ≤ c' ∧ c' ≤ maxLen := by
    obtain ⟨_, h2 | ⟨g', cap', cur, he, h0, hg, hr1, hr2, _⟩⟩ := ho3
    · simp at h2
    · simp only [Value.slice.injEq, Option.some.injEq, Addr.mk.injEq, and_true, true_and] at he
      obtain ⟨rfl, rfl⟩ := he
      exact ⟨hr1, hr2⟩
  have hv3 : w3.cell? ⟨tb, 3, none⟩ = some (.int .u64 0) := ((hx3.below.mono hx2.out.size).cell (p := ⟨tb, 3, none⟩) htlt).trans ((hx2.out.cell (p := ⟨tb, 3, none⟩) htlt).trans HV.out)
  have H37 := hid (newLeaf37 tb 129 (.slice (some ⟨g, 256, none⟩) 129 (c' - 128)) (refCells off ((R.drop 128).take 129)) w3 hv3 (by omega) (by rw [refCells_len, List.length_take, List.length_drop, HRL.out]; omega)
    (fun w' hb => src_refs (a := 128) (m := 129) (owns_same ho3 (hb.block g hglt)) HRL.out (by omega) _))
  rw [List.take_of_length_le (show (R.drop 128).length ≤ 129 by rw [List.length_drop, HRL.out]; omega)] at H37
  unfold maxLen at hc2
  clear hS3 H53 hv3
  have hi6 : ((i : Int) == 256) = false := by
    have h0 : (i : Int) ≠ 256 := by have := HA.out; omega
    simpa using h0
  have HQ : Hid (NodeAt w3 p (.slice (some ⟨rb, 0, none⟩) 256 256) (.slice none 0 0) (.slice none 0 0) ∧ w3.ownsRow 0 42 2 (.slice (some ⟨rb, 0, none⟩) 256 256) 256 (refCells off ks)) :=
    ⟨(hx3.block p (by omega) (by simp)).trans HN2.out, owns_same HO2.out (hx3.block rb (by omega) (by simp))⟩
  have hx23 : Hid (Ext [] w w3) := (Ext.of_below hx2.out).trans hx3
  have HO3 := hid ho3
  have hs3 : w2.heap.size ≤ w3.heap.size := hx3.size
  clear hR3 hx2 HN2 HO2 y0 y1 y2 hx3 ho3
  go_wp2_with fail
  refine (Hid.out H37).mono ?_
  rintro e w4 ⟨rfl, hN4, ho4, hx4, hs4⟩
  clear H37
  -- the append onto the old row
  have hNp : NodeAt w4 p (.slice (some ⟨rb, 0, none⟩) 256 256) (.slice none 0 0) (.slice none 0 0) := (hx4.block p (by omega) (by simp)).trans HQ.out.1
  have hop : w4.ownsRow 0 42 2 (.slice (some ⟨rb, 0, none⟩) 256 256) 256 (refCells off ks) := owns_same HQ.out.2 (hx4.block rb (by omega) (by simp))
  obtain ⟨_, hno | ⟨rb', cap', cur, he, _, hcur, hr1, hr2, hr3, hr4⟩⟩ := hop
  · simp at hno
  simp only [Value.slice.injEq, Option.some.injEq, Addr.mk.injEq, and_true, true_and] at he
  obtain ⟨rfl, rfl⟩ := he
  obtain ⟨i0, hi0, hz0, hzs, hzb⟩ := info_parts info42
  have hsrc : Src Try.prog 2 32 (.slice (some ⟨g, 0, none⟩) 128 c') 128 (refCells off (R.take 128)) w4.drew := by
    have := src_refs (a := 0) (m := 128) (owns_same HO3.out (show w4.drew.heap[g]? = w3.heap[g]? from hx4.block g hglt (by simp))) HRL.out (by omega) c'
    simpa using this
  have hcl : (refCells off (R.take 128)).length = 256 := by rw [refCells_len, List.length_take, HRL.out]; rfl
  have hap : ∀ ty, (Builtin.append_ #[32, 32] ty #[.slice (some ⟨rb, 0, none⟩) 0 256, .slice (some ⟨g, 0, none⟩) 128 c']).run Try.prog w4.drew = .ok (.slice (some ⟨rb, 0, none⟩) 128 256) (w4.drew.setRow rb (refCells off (R.take 128) ++ cur.toList.drop 256).toArray) := fun ty => by
    have h := run_append_src_row (P := Try.prog) w4.drew 32 32 ty 42 i0 Try.underlying32 hi0 rb 0 256 cur hcur _ 128 _ (by rw [hzs]; exact hsrc) (by omega) (by rw [hzs, hcl]; omega)
    rw [hzs, hcl] at h
    simpa using h
  generalize hW5 : w4.drew.setRow rb (refCells off (R.take 128) ++ cur.toList.drop 256).toArray = W5 at hap
  have hx5 : Ext [rb] w4 W5 := by rw [← hW5]; exact ((Ext.refl [rb] w4).drew).setRow (Or.inl (by simp)) _
  have hg5 : W5.heap[rb]? = some (.cells (refCells off (R.take 128) ++ cur.toList.drop 256).toArray 42 (0, 0)) := by rw [← hW5]; exact setRow_heap _ _ _ _ 42 _ hcur
  have ho5 : W5.ownsRow 0 42 2 (.slice (some ⟨rb, 0, none⟩) 128 256) 128 (refCells off (R.take 128)) :=
    ⟨hcl, Or.inr ⟨rb, 256, _, rfl, Nat.zero_le _, hg5, by omega, by decide, by simp [hcl]; omega, by simp only [List.toList_toArray]; exact List.take_left' hcl⟩⟩
  have hN5 : NodeAt W5 p (.slice (some ⟨rb, 0, none⟩) 256 256) (.slice none 0 0) (.slice none 0 0) := (hx5.block p (by omega) (by simpa using hpr)).trans hNp
  have hq5 : NodeAt W5 (w3.heap.size + 1) (.slice (some ⟨w3.heap.size, 0, none⟩) 129 256) (.slice none 0 0) (.slice none 0 0) := (hx5.block _ (by omega) (by simp; omega)).trans hN4
  have hqo5 : W5.ownsRow 0 42 2 (.slice (some ⟨w3.heap.size, 0, none⟩) 129 256) 129 (refCells off (R.drop 128)) := owns_same ho4 (hx5.block _ (by omega) (by simp; omega))
  obtain ⟨W6, hW6⟩ : ∃ W6, W5.setCell ⟨p, 1, none⟩ (.slice (some ⟨rb, 0, none⟩) 128 256) = W6 := ⟨_, rfl⟩
  have hx6 : Ext [p] W5 W6 := by rw [← hW6]; exact (Ext.refl [p] W5).setCell (Or.inl (by simp)) _
  have hs5 : w4.heap.size ≤ W5.heap.size := hx5.size
  have HN6 : Hid (NodeAt W6 p (.slice (some ⟨rb, 0, none⟩) 128 256) (.slice none 0 0) (.slice none 0 0)) := by show NodeAt _ _ _ _ _; rw [← hW6]; exact node_set1 hN5 _
  have HO6 : Hid (W6.ownsRow 0 42 2 (.slice (some ⟨rb, 0, none⟩) 128 256) 128 (refCells off (R.take 128))) := owns_same ho5 (hx6.block rb (by omega) (by simpa using fun h => hpr h.symm))
  have HQ6 : Hid (NodeAt W6 (w3.heap.size + 1) (.slice (some ⟨w3.heap.size, 0, none⟩) 129 256) (.slice none 0 0) (.slice none 0 0)) := (hx6.block _ (by omega) (by simp; omega)).trans hq5
  have HQO6 : Hid (W6.ownsRow 0 42 2 (.slice (some ⟨w3.heap.size, 0, none⟩) 129 256) 129 (refCells off (R.drop 128))) := owns_same hqo5 (hx6.block _ (by omega) (by simp; omega))
  have HX6 : Hid (Ext [p, rb] w W6) := (((hx23.out.trans hx4).mono (by simp)).trans (hx5.mono (by simp))).trans (hx6.mono (by simp))
  have hmem := List.mem_of_getElem? HX0.out
  have hd := HD.out
  have H54 := hid (record54 tb cb rb0 (off x0) cap bytes (K x0) W6 (HE.out.ext HX6.out (by simp [hd.1, hd.2.1]) (by simp [hd.2.2.1, hd.2.2.2.1]) (by simp [hd.2.2.2.2.1, hd.2.2.2.2.2])) (HKR.out.lies x0 hmem) (HKR.out.small x0 hmem))
  have hdx : (R.drop 128)[0]? = some x0 := by rw [List.getElem?_drop]; exact HX0.out
  have z1 := HQ6.out.c1
  have z2 := owns_cell HQO6.out (refCells_get off (R.drop 128) 0 x0 hdx).1
  have z3 := owns_cell HQO6.out (refCells_get off (R.drop 128) 0 x0 hdx).2
  simp only [Nat.zero_mul, Nat.zero_add] at z2 z3
  have hp1 := hNp.c1
  have hp5 := hN5.c1
  have hf5 := hN5.free 1
  have HW6 := hid hW6
  generalize off x0 = ox0 at *
  clear hNp hcur hr1 hr2 hr3 hr4 hi0 hz0 hzs hzb hsrc hcl hW5 hx5 hg5 ho5 hN5 hq5 hqo5 hW6 hx6 hdx hmem hd HE HKR HX0 HD HV HQ hN4 ho4 hx4 HO3 HR HRL hx23
  have hs4' : w3.heap.size + 2 ≤ w4.heap.size := by omega
  have hc3 : (128 : Int) ≤ (c' : Int) := by omega
  have hw3 : Hid (w.heap.size ≤ w3.heap.size) := by show w.heap.size ≤ w3.heap.size; omega
  clear hi6
  clear hs4 hs1 HW1 HB1 hc1 hc2 hil hs2 hs3 hs4' hg3 hglt hs5
  go_wp2_with fail
  have hp1' : w4.drew.cell? ⟨p, 1, none⟩ = some (.slice (some ⟨rb, 0, none⟩) 256 256) := hp1
  have HAP := hid hap
  clear hap hp1
  go_region_law (refine step_append_run rfl (.tmp 70) (.tmp 73) 32 32 rfl _ _ rfl rfl (HAP.out _) ?_)
  rw [HW6.out]
  clear HAP hp1' hp5 hf5
  go_wp2_with fail
  refine (Hid.out H54).mono ?_
  rintro e w7 ⟨kv, vv, rfl, hkv, hb7⟩
  have hstr : (convert 58 9 kv).run Try.prog w7 = .ok (.string (K x0)) w7 := hkv.str
  have hstr' : (convert 58 9 kv).run Try.prog w7.drew = .ok (.string (K x0)) w7.drew := KeyVal.str (show KeyVal w7.drew rb0 kv (K x0) from hkv)
  have h6q := lt_of_block HQ6.out
  have HF : Hid (NodeAt w7.drew p (.slice (some ⟨rb, 0, none⟩) 128 256) (.slice none 0 0) (.slice none 0 0) ∧
      w7.drew.ownsRow 0 42 2 (.slice (some ⟨rb, 0, none⟩) 128 256) 128 (refCells off (R.take 128)) ∧ NodeAt w7.drew (w3.heap.size + 1) (.slice (some ⟨w3.heap.size, 0, none⟩) 129 256) (.slice none 0 0) (.slice none 0 0) ∧
      w7.drew.ownsRow 0 42 2 (.slice (some ⟨w3.heap.size, 0, none⟩) 129 256) 129 (refCells off (R.drop 128)) ∧ w.heap.size ≤ w3.heap.size + 1 ∧ w.heap.size ≤ w3.heap.size ∧ w3.heap.size + 1 ≠ w3.heap.size ∧ Ext [p, rb] w w7.drew) :=
    ⟨(hb7.block _ (lt_of_block HN6.out)).trans HN6.out, owns_same HO6.out (show w7.drew.heap[rb]? = _ from hb7.block _ (owns_lt HO6.out)), (hb7.block _ h6q).trans HQ6.out, owns_same HQO6.out (show w7.drew.heap[w3.heap.size]? = _ from hb7.block _ (owns_lt HQO6.out)), by have := hw3.out; omega, hw3.out, by omega, (HX6.out.trans (below_ext _ hb7)).drew⟩
  clear hkv hb7 H54 HN6 HO6 HQ6 HQO6 HX6 HW6 z1 z2 z3 h6q hw3
  go_wp2_with fail
  go_region
  all_goals go_wp2
  all_goals go_ret2
  all_goals exact ⟨_, _, rfl, HF.out⟩


end Go.Proofs.Qxb6613201a
