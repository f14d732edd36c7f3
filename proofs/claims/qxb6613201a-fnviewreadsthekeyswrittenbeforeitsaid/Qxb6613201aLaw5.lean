/- The law 'FnViewReadsTheKeysWrittenBeforeIt': it returns true. -/
import Derived.Test.Qxb6613201aView
import Derived.Test.Qxb6613201aBuild2
set_option linter.unusedVariables false
set_option linter.unusedSimpArgs false
namespace Go.Proofs.Qxb6613201a
open Go.RowKit

set_option maxHeartbeats 16000000 in
set_option maxRecDepth 100000 in
theorem law5 (oa : Option Addr) (n c0 : Nat) (K : Nat → ByteArray) (w : World) (hk : KeysAt w oa n K) :
    Calls Try.prog 5 #[.slice oa n c0] w fun e w' => e = .returned (.bool true) ∧ Ext [] w w' := by
  have HK := hid hk
  have H6 := hid (bytes17 oa n c0 K w hk)
  clear hk
  go_enter Try.func5, Try.ntmps5
  go_wp2_with fail
  refine (Hid.out H6).mono ?_
  rintro e w' ⟨⟨r, rfl, hr⟩, hw⟩
  obtain rfl := hw.symm
  clear H6 hw
  cases r with
  | false =>
    clear hr
    go_wp2_with fail
    go_ret
    exact ⟨rfl, Ext.refl _ _⟩
  | true =>
    obtain ⟨hn20, hsz⟩ := hr rfl
    clear hr
    by_cases hn : n ≤ 65536
    · have hn' : (n : Int) ≤ 65536 := by omega
      have H7 := hid (stringBytes7 oa n c0 K w HK.out hn20 hsz)
      have HN := hid hn
      clear hn20 hsz hn
      go_wp2_with fail
      refine (Hid.out H7).mono ?_
      rintro e w' ⟨r, rfl, hr1, hr2, hw⟩
      obtain rfl := hw.symm
      clear hw H7
      by_cases hr : r ≤ 1048576
      · have ht := hr2 hr
        have hr' : (r : Int) ≤ 1048576 := by omega
        have H8 := hid (sorted8 oa n c0 K w HK.out HN.out)
        have HT := hid ht
        clear hr1 hr2 hr ht
        go_wp2_with fail
        refine (Hid.out H8).mono ?_
        rintro e w1 ⟨g, od, rfl, ho, hp, hs, hx1⟩
        have hodl : od.length = n := by rw [hp.length_eq]; simp
        have H9 := hid (distinct9 oa n c0 g K od w1 (HK.out.ext hx1) (by have := HN.out; omega) hodl ho (fun x hx => List.mem_range.1 (hp.mem_iff.1 hx)))
        have HO := hid (And.intro ho (And.intro hp (And.intro hs hx1)))
        clear H8 ho hp hs hx1 hodl
        go_wp2_with fail
        refine (Hid.out H9).mono ?_
        rintro e w2 ⟨⟨r2, rfl, hr2⟩, hx2⟩
        clear H9
        obtain ⟨ho, hp, hs, hx1⟩ := HO.out
        have hx02 : Ext [] w w2 := hx1.trans hx2
        cases r2 with
        | false =>
          have HX := hid hx02
          clear hr2 ho hp hs hx1 hx2 hx02 HO
          go_wp2_with fail
          go_ret
          exact ⟨rfl, HX.out⟩
        | true =>
          obtain ⟨hstr, hinj⟩ := order_strict hp hs (hr2 rfl)
          have H10 := hid (build10f oa n c0 K w2 (HK.out.ext hx02) HT.out hinj)
          have HO2 : Hid (w2.ownsRow 0 3 1 (.slice (some ⟨g, 0, none⟩) n n) n (intCells od) ∧ od.Perm (List.range n) ∧ (od.Pairwise fun a b => klt (K a) (K b) = true) ∧ Ext [] w w2) := ⟨owns_same ho (hx2.block g (owns_lt ho) (by simp)), hp, hstr, hx02⟩
          clear hr2 ho hp hs hx1 hx2 hx02 HO hstr hinj
          go_wp2_with fail
          refine (Hid.out H10).mono ?_
          rintro e w3 ⟨tb, ob, rfl, hB⟩
          clear H10
          obtain ⟨cb, rb, d, p, t, F, hT, hP, hoff, hx3, htb⟩ := hB
          obtain ⟨ho2, hp, hstr, hx2⟩ := HO2.out
          have hkd : Bt.keysT d t = od := keys_order hT.wf hP hp hstr
          have hd16 := depth_small hT.wf hP HN.out
          have H18 := hid (view18 tb p cb (offOf K n) w3 hT.tab)
          have HT3 := hid hT
          have hodl : od.length = n := by rw [hp.length_eq]; simp
          have HB3 : Hid (w3.ownsRow 0 3 1 (.slice (some ⟨g, 0, none⟩) n n) n (intCells od) ∧ w3.ownsRow 0 39 1 (.slice (some ⟨ob, 0, none⟩) n n) n (offCells K n n) ∧ Ext [] w w3 ∧ w.heap.size ≤ tb ∧ g ≠ tb ∧ ob ≠ tb) := by
            have z2 := hx2.size
            have hgl := owns_lt ho2
            refine ⟨owns_same ho2 (hx3.block g hgl (by simp)), hoff, hx2.trans hx3, by omega, by omega, ?_⟩
            intro e
            obtain ⟨cur, hcur, _⟩ := row_of hoff
            rw [e, show w3.heap[tb]? = _ from hT.tab] at hcur
            simp at hcur
          have HP := hid (And.intro hodl (And.intro hp (And.intro hkd hd16)))
          clear HO2 hT hP hoff hx3 ho2 hp hstr hx2 hkd hd16 hodl htb
          go_wp2_with fail
          refine (Hid.out H18).mono ?_
          rintro e w4 ⟨rfl, hTV, hx4⟩
          clear H18
          obtain ⟨W5, hW5⟩ : ∃ W5, w4.alloc (.cells #[.pointer (some ⟨p, 0, none⟩), .slice (some ⟨cb, 0, none⟩) 2 2] 51) = W5 := ⟨_, rfl⟩
          have hx5 : Ext [] w4 W5 := by rw [← hW5]; exact (Ext.refl [] w4).alloc _
          have hTV5 : TabV W5 tb p cb (offOf K n) := (hx5.block tb (lt_of_block hTV) (by simp)).trans hTV
          have hz5 : W5.heap.size = w4.heap.size + 1 := by rw [← hW5]; simp
          have v0 : W5.cell? ⟨w4.heap.size, 0, none⟩ = some (.pointer (some ⟨p, 0, none⟩)) := by rw [← hW5]; simp
          have v1 : W5.cell? ⟨w4.heap.size, 1, none⟩ = some (.slice (some ⟨cb, 0, none⟩) 2 2) := by rw [← hW5]; simp
          have H19 := hid (views19 tb 1 W5 hTV5.c3)
          have H20 := hid (chunks20 (.pointer (some ⟨p, 0, none⟩)) (.slice (some ⟨cb, 0, none⟩) 2 2) rfl rfl _ _ _ _ rfl rfl W5)
          have HW5 := hid hW5
          have HX35 : Hid (Ext [tb] w3 W5) := hx4.trans (hx5.mono (by simp))
          have HTV5 := hid hTV5
          clear hTV hx4 hW5 hx5 hTV5
          go_wp2_with fail
          rw [HW5.out]
          refine (Hid.out H19).mono ?_
          rintro e w' ⟨rfl, hw⟩
          obtain rfl := hw.symm
          clear hw H19 HW5
          go_wp2_with fail
          refine (Hid.out H20).mono ?_
          rintro e w6 ⟨rfl, hx6⟩
          clear H20
          obtain ⟨W7, hW7⟩ : ∃ W7, w6.alloc (.cells #[.slice none 0 0, .int .i64 (-1), .slice none 0 0, .slice none 0 0, .bool true] 34) = W7 := ⟨_, rfl⟩
          have hx7 : Ext [] w6 W7 := by rw [← hW7]; exact (Ext.refl [] w6).alloc _
          have hv0 : VisE w6.heap.size W7 (offOf K) w6.heap.size (-1) [] [] [] := by
            refine ⟨none, none, none, 0, 0, 0, ?_⟩
            rw [← hW7]
            exact ⟨heap_alloc_new w6 _, World.ownsRow_nil _ _ _ _, World.ownsRow_nil _ _ _ _, World.ownsRow_nil _ _ _ _, Nat.le_refl _, by simp [blk], by simp [blk], by simp [blk], by simp [blk], by simp [blk], by simp [blk]⟩
          have hx57 : Ext [] W5 W7 := hx6.trans hx7
          have u0 : W7.cell? ⟨w4.heap.size, 0, none⟩ = some (.pointer (some ⟨p, 0, none⟩)) := (hx57.cell (p := ⟨w4.heap.size, 0, none⟩) (World.block_lt_of_cell? _ _ v0) (by simp)).trans v0
          have u1 : W7.cell? ⟨w4.heap.size, 1, none⟩ = some (.slice (some ⟨cb, 0, none⟩) 2 2) := (hx57.cell (p := ⟨w4.heap.size, 1, none⟩) (World.block_lt_of_cell? _ _ v1) (by simp)).trans v1
          have y0 : w6.cell? ⟨w4.heap.size, 0, none⟩ = some (.pointer (some ⟨p, 0, none⟩)) := (hx6.cell (p := ⟨w4.heap.size, 0, none⟩) (World.block_lt_of_cell? _ _ v0) (by simp)).trans v0
          have y1 : w6.cell? ⟨w4.heap.size, 1, none⟩ = some (.slice (some ⟨cb, 0, none⟩) 2 2) := (hx6.cell (p := ⟨w4.heap.size, 1, none⟩) (World.block_lt_of_cell? _ _ v1) (by simp)).trans v1
          rw [← hW7] at u0 u1
          have H21 := hid (root21 (.pointer (some ⟨p, 0, none⟩)) (.slice (some ⟨cb, 0, none⟩) 2 2) rfl rfl _ _ _ _ rfl rfl W7)
          have HW7 := hid hW7
          have HX7 := hid (And.intro hx57 (And.intro hv0 (And.intro hx6 hx7)))
          clear hW7 hx7 hv0 hx57 hx6 v0 v1
          go_wp2_with fail
          rw [HW7.out]
          refine (Hid.out H21).mono ?_
          rintro e w8 ⟨rfl, hx8⟩
          clear H21 u0 u1 y0 y1 HW7
          obtain ⟨hx57, hv0, hx6, hx7⟩ := HX7.out
          obtain ⟨hodl, hp, hkd, hd16⟩ := HP.out
          have hT := HT3.out
          have hap := hT.apart
          have hz6 := hx6.size
          have hFl := mem_lt d p t F hT.mem
          have hz35 := HX35.out.size
          have hx38 : Ext [tb] w3 w8 := HX35.out.trans ((hx57.trans hx8).mono (by simp))
          have hM8 : Mem w8 (offOf K) d p t F := mem_ext hT.mem hx38 (fun b hb => by simp; intro e; exact hap.1 (e ▸ hb))
          obtain ⟨ms, hms⟩ : ∃ ms, Bt.marks ByteArray.empty d t 0 = ms := ⟨_, rfl⟩
          have hmf := Bt.marks_few (dfl := ByteArray.empty) d true true t 0 hT.wf
          rw [hkd, hms, hodl] at hmf
          have hnn := HN.out
          have H11 := visit11 w6.heap.size w6.heap.size (offOf K) K d p t F true true (-1) [] [] [] w8 0 (hv0.keep hx8) hM8 (fun b hb => by have := hFl b hb; omega) hT.wf (by omega) (Or.inl rfl) (by rw [hkd, hodl]; simp; omega) (by rw [show ([] : List Nat).length = 0 from rfl, hms]; simp; omega) rfl
          rw [show ([] : List Nat).length = 0 from rfl, hms, hkd] at H11
          have H11' : Hid (Calls Try.prog 11 #[.pointer (some ⟨p, 0, none⟩), .int .i64 0, .bool true, .bool true, .pointer (some ⟨w6.heap.size, 0, none⟩)] w8 fun e w' => e = .returned (.tuple #[]) ∧ VisE w6.heap.size w' (offOf K) w6.heap.size ((0 + d : Nat) : Int) od (ms.map Prod.fst) (ms.map Prod.snd) ∧ Below w6.heap.size w8 w') := H11
          obtain ⟨zb, hzb⟩ : ∃ zb, w6.heap.size = zb := ⟨_, rfl⟩
          have HZB := hid hzb
          have HX38 : Hid (Ext [tb] w3 w8 ∧ w3.heap.size ≤ w6.heap.size ∧ TabV w8 tb p cb (offOf K n)) := ⟨hx38, by omega, ((hx57.trans hx8).block tb (lt_of_block HTV5.out) (by simp)).trans HTV5.out⟩
          clear hx57 hv0 hx6 hx7 hodl hp hkd hd16 hT hap hz6 hFl hz35 hx38 hM8 hms hmf hnn H11 hx8 HX7 HX35 HTV5 hzb hz5
          go_wp2_with fail
          refine (Hid.out H11').mono ?_
          rintro e w9 ⟨rfl, hv, hb9⟩
          clear H11'
          rw [HZB.out] at hv
          rw [HZB.out]
          obtain ⟨ra, ca, ba, rc, cc, bc, hv⟩ := hv
          obtain ⟨f1', f2', f3', f4', f5', f6'⟩ := HB3.out
          obtain ⟨hodl, hp, hkd, hd16⟩ := HP.out
          obtain ⟨hx38, hz36, hTV8⟩ := HX38.out
          have hz38 := hx38.size
          have hz89 := hb9.size
          have hx39 : Ext [tb] w3 w9 := ⟨hb9.os.trans hx38.os, hb9.tape.trans hx38.tape, hb9.output.trans hx38.output, by omega, fun k hk hS => (hb9.block k (by omega)).trans (hx38.block k hk hS)⟩
          have hT := HT3.out
          have hap := hT.apart
          have hTV9 : TabV w9 tb p cb (offOf K n) := (hb9.block tb (by have := lt_of_block hT.tab; omega)).trans hTV8
          have g1 := owns_same f1' (hx39.block g (owns_lt f1') (by simpa using f5'))
          have g2 := owns_same f2' (hx39.block ob (owns_lt f2') (by simpa using f6'))
          have hx09 : Ext [] w w9 := f3'.trans' hx39 (fun x hx => Or.inr (by simp at hx; omega))
          have hE9 : Env w9 tb cb rb (bytesOf K n) (tot 52 K n) := by
            have hE3 := hT.env
            exact ⟨hTV9.c4, (hx39.cell (p := ⟨cb, 3, none⟩) (World.block_lt_of_cell? _ _ hE3.recs) (by simpa using fun e => hap.2.2.2.1 e.symm)).trans hE3.recs,
              fun j h => (hx39.cell (p := ⟨rb, j, none⟩) (World.block_lt_of_cell? _ _ (hE3.data j h)) (by simpa using fun e => hap.2.2.2.2 e.symm)).trans (hE3.data j h), hE3.fits, hE3.small⟩
          have z0 : w9.cell? ⟨zb, 0, none⟩ = some (.slice ra n rc) := by rw [← hodl]; simp [World.cell?, hv.here]
          have z4 : w9.cell? ⟨zb, 4, none⟩ = some (.bool true) := by simp [World.cell?, hv.here]
          have HALL := hid (And.intro hv (And.intro g1 (And.intro g2 (And.intro hx09 hE9))))
          have HZ := hid z0
          clear hv f1' f2' f3' f4' f5' f6' hodl hp hkd hd16 hx38 hz36 hTV8 hz38 hz89 hx39 hT hap hTV9 g1 g2 hx09 hE9 hb9 HB3 HT3 HX38
          go_wp2_with fail
          clear z0 z4
          go_loopw [9] (fun s9 wr => ∃ j : Nat, s9 = .int .i64 j ∧ j ≤ n ∧ Hid (Ext [] w9 wr)) (fun s9 _ => n - (intOf s9).toNat)
          case atStart => exact ⟨0, rfl, Nat.zero_le _, Ext.refl _ _⟩
          case round =>
            obtain ⟨j, rfl, hjn, hR⟩ := hrel
            rename World => wa
            have zr : wa.cell? ⟨zb, 0, none⟩ = some (.slice ra n rc) := (hR.out.cell (p := ⟨zb, 0, none⟩) (World.block_lt_of_cell? _ _ HZ.out) (by simp)).trans HZ.out
            by_cases hlt : j < n
            · obtain ⟨hv, g1, g2, hx09, hE9⟩ := HALL.out
              obtain ⟨hodl, hp, hkd, hd16⟩ := HP.out
              obtain ⟨x, hx⟩ : ∃ x, od[j]? = some x := ⟨od[j]'(by omega), List.getElem?_eq_getElem _⟩
              have hxn : x < n := List.mem_range.1 (hp.mem_iff.1 (List.mem_of_getElem? hx))
              obtain ⟨gr, rfl⟩ : ∃ gr, ra = some ⟨gr, 0, none⟩ := by
                obtain ⟨_, h2 | ⟨g', cap, cur, he, _⟩⟩ := hv.rr
                · omega
                · simp only [Value.slice.injEq] at he; exact ⟨g', he.1⟩
              have hxa := hR.out
              have c1' : wa.cell? ⟨gr, j * 2, none⟩ = some (.int .u32 1) := by
                have h := owns_cell (owns_base hv.rr) (refCells_get (offOf K) od j x hx).1
                exact (hxa.cell (p := ⟨gr, j * 2, none⟩) (World.block_lt_of_cell? _ _ h) (by simp)).trans h
              have c2' : wa.cell? ⟨gr, j * 2 + 1, none⟩ = some (.int .u32 (offOf K x)) := by
                have h := owns_cell (owns_base hv.rr) (refCells_get (offOf K) od j x hx).2
                exact (hxa.cell (p := ⟨gr, j * 2 + 1, none⟩) (World.block_lt_of_cell? _ _ h) (by simp)).trans h
              have hIs := fun (W : World) (h : Ext [] w9 W) => isOffset23 ob n x K W (owns_same g2 (h.block ob (owns_lt g2) (by simp))) hxn HN.out
              have hks : (K x).size < 268435456 := by have := tot_key (c := 16) (K := K) hxn; have := HT.out; omega
              have hKey := fun (W : World) (h : Ext [] w9 W) => key24 tb cb rb (offOf K x) (tot 52 K n) (bytesOf K n) (K x) W (hE9.ext h (by simp) (by simp) (by simp)) (bytes_rec K hxn) hks
              have hkk := HK.out.ext (hx09)
              obtain ⟨ka, rfl, hkx⟩ := hkk x hxn
              obtain ⟨o, hoo⟩ : ∃ o, offOf K x = o := ⟨_, rfl⟩
              rw [hoo] at c2' hIs hKey
              obtain ⟨R1, hR1⟩ : ∃ R1, wa.alloc (.cells #[.int .u32 1, .int .u32 (o : Int)] 42) = R1 := ⟨_, rfl⟩
              have hxR1 : Ext [] w9 R1 := by rw [← hR1]; exact hxa.alloc _
              have q0 : R1.cell? ⟨wa.heap.size, 0, none⟩ = some (.int .u32 1) := by rw [← hR1]; simp
              have q1 : R1.cell? ⟨wa.heap.size, 1, none⟩ = some (.int .u32 (o : Int)) := by rw [← hR1]; simp
              have HIS := hid hIs
              have HKEY := hid hKey
              have HC3 := hid (And.intro (owns_cell g1 (int_get hx)) hkx)
              have H22 := hid (refChunk22 1 (o : Int) R1)
              have HR1 := hid hR1
              have HXR1 := hid hxR1
              have hj' : (j : Int) < (n : Int) := by omega
              have hx' : (x : Int) < (n : Int) := by omega
              have HLT := hid hlt
              clear hv g1 g2 hx09 hE9 hodl hp hkd hd16 hx hxn hxa hks hkk hoo hR1 hxR1 hlt hjn hR hIs hKey hkx
              go_wp2_with fail
              rw [HR1.out]
              refine (Hid.out H22).mono ?_
              rintro e r2 ⟨rfl, hxr2⟩
              have s0 : r2.cell? ⟨wa.heap.size, 0, none⟩ = some (.int .u32 1) := (hxr2.cell (p := ⟨wa.heap.size, 0, none⟩) (World.block_lt_of_cell? _ _ q0) (by simp)).trans q0
              have s1 : r2.cell? ⟨wa.heap.size, 1, none⟩ = some (.int .u32 (o : Int)) := (hxr2.cell (p := ⟨wa.heap.size, 1, none⟩) (World.block_lt_of_cell? _ _ q1) (by simp)).trans q1
              have H13 := hid (refAt13 1 (o : Int) r2)
              have HXR2 : Hid (Ext [] w9 r2) := HXR1.out.trans hxr2
              clear hxr2 H22 HR1 HXR1 q0 q1 c1' c2' zr
              go_wp2_with fail
              refine (Hid.out H13).mono ?_
              rintro e r3 ⟨rfl, hxr3⟩
              have hx93 : Ext [] w9 r3 := HXR2.out.trans hxr3
              have H23 := hid (HIS.out r3 hx93)
              have p0 : r3.drew.cell? ⟨wa.heap.size, 0, none⟩ = some (.int .u32 1) := (hxr3.cell (p := ⟨wa.heap.size, 0, none⟩) (World.block_lt_of_cell? _ _ s0) (by simp)).trans s0
              have p1 : r3.drew.cell? ⟨wa.heap.size, 1, none⟩ = some (.int .u32 (o : Int)) := (hxr3.cell (p := ⟨wa.heap.size, 1, none⟩) (World.block_lt_of_cell? _ _ s1) (by simp)).trans s1
              have p2 : r3.drew.cell? ⟨g, j, none⟩ = some (.int .i64 x) := (hx93.cell (p := ⟨g, j, none⟩) (World.block_lt_of_cell? _ _ HC3.out.1) (by simp)).trans HC3.out.1
              have p3 : r3.drew.cell? (ka.add x) = some (.string (K x)) := (hx93.cell (p := ka.add x) (World.block_lt_of_cell? _ _ HC3.out.2) (by simp)).trans HC3.out.2
              have H24 : Hid (Calls Try.prog 24 #[.slice (some ⟨cb, 0, none⟩) 2 2, .agg #[.int .u32 1, .int .u32 (o : Int)]] r3.drew fun e w' => ∃ kv, e = .returned kv ∧ (convert 58 9 kv).run Try.prog w' = .ok (.string (K x)) w' ∧ Hid (Ext [] w9 w') ∧ (w'.cell? ⟨wa.heap.size, 0, none⟩ = some (.int .u32 1) ∧ w'.cell? ⟨wa.heap.size, 1, none⟩ = some (.int .u32 (o : Int)) ∧ w'.cell? ⟨g, j, none⟩ = some (.int .i64 x) ∧ w'.cell? (ka.add x) = some (.string (K x)))) := by
                refine (HKEY.out r3.drew hx93.drew).mono ?_
                rintro e w' ⟨kv, he, hkv, hb⟩
                have hx := Ext.of_below hb
                exact ⟨kv, he, hkv.str, hx93.drew.trans hx, (hx.cell (p := ⟨wa.heap.size, 0, none⟩) (World.block_lt_of_cell? _ _ p0) (by simp)).trans p0, (hx.cell (p := ⟨wa.heap.size, 1, none⟩) (World.block_lt_of_cell? _ _ p1) (by simp)).trans p1,
                  (hx.cell (p := ⟨g, j, none⟩) (World.block_lt_of_cell? _ _ p2) (by simp)).trans p2, (hx.cell (p := ka.add x) (World.block_lt_of_cell? _ _ p3) (by simp)).trans p3⟩
              clear hxr3 hx93 H13 HXR2 s0 s1 HIS HKEY HC3
              go_wp2_with fail
              refine (Hid.out H23).mono ?_
              rintro e w' ⟨rfl, hw⟩
              obtain rfl := hw.symm
              clear hw H23
              go_wp2_with fail
              go_region_held (fun w' => w'.cell? ⟨wa.heap.size, 0, none⟩ = some (.int .u32 1) ∧ w'.cell? ⟨wa.heap.size, 1, none⟩ = some (.int .u32 (o : Int)) ∧ w'.cell? ⟨g, j, none⟩ = some (.int .i64 x) ∧ w'.cell? (ka.add x) = some (.string (K x))) (first | (assumption) | (go_keep))
                (first
                  | (go_at_call 24; refine (Hid.out H24).mono ?_; rintro e r4 ⟨kv, rfl, hstr, hR4, hS4⟩))
              all_goals go_wp2_with fail
              all_goals go_roundw
              all_goals first
                | exact ⟨j + 1, by simp, HLT.out, hR4⟩
                | (simp [intOf]; have := HLT.out; omega)
            · obtain rfl : n = j := by omega
              have HX := hid (HALL.out.2.2.2.1.trans hR.out)
              clear hR hlt hjn
              go_wp2_with fail
              go_ret
              exact ⟨rfl, HX.out⟩
      · have hr' : (1048576 : Int) < (r : Int) := by omega
        clear hr1 hr2 hr
        go_wp2_with fail
        go_ret
        exact ⟨rfl, Ext.refl _ _⟩
    · have hn' : (65536 : Int) < (n : Int) := by omega
      clear hn hn20 hsz
      go_wp2_with fail
      go_ret
      exact ⟨rfl, Ext.refl _ _⟩
end Go.Proofs.Qxb6613201a
