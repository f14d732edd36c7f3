/- The law 'FnAddIndexWalksKeysInOrder': it returns true. -/
import Derived.Test.Qxb6613201aLawA
set_option linter.unusedVariables false
set_option linter.unusedSimpArgs false
namespace Go.Proofs.Qxb6613201a
open Go.RowKit

set_option maxHeartbeats 16000000 in
set_option maxRecDepth 100000 in
theorem law3 (oa : Option Addr) (n c0 : Nat) (K : Nat → ByteArray) (w : World) (hk : KeysAt w oa n K) :
    Calls Try.prog 3 #[.slice oa n c0] w fun e w' => e = .returned (.bool true) ∧ Ext [] w w' := by
  have HK := hid hk
  have H6 := hid (bytes6 oa n c0 K w hk)
  clear hk
  go_enter Try.func3, Try.ntmps3
  go_wp2_with fail
  refine (Hid.out H6).mono ?_
  rintro e w' ⟨⟨r, rfl, hr⟩, hw⟩
  obtain rfl := hw.symm
  clear H6 hw
  cases r with
  | false =>
    clear hr
    go_wp2_with fail
    go_ret
    exact ⟨rfl, Ext.refl _ _⟩
  | true =>
    obtain ⟨hn20, hsz⟩ := hr rfl
    clear hr
    by_cases hn : n ≤ 65536
    · have hn' : (n : Int) ≤ 65536 := by omega
      have H7 := hid (stringBytes7 oa n c0 K w HK.out hn20 hsz)
      have HN := hid hn
      clear hn20 hsz hn
      go_wp2_with fail
      refine (Hid.out H7).mono ?_
      rintro e w' ⟨r, rfl, hr1, hr2, hw⟩
      obtain rfl := hw.symm
      clear hw H7
      by_cases hr : r ≤ 1048576
      · have ht := hr2 hr
        have hr' : (r : Int) ≤ 1048576 := by omega
        have H8 := hid (sorted8 oa n c0 K w HK.out HN.out)
        have HT := hid ht
        clear hr1 hr2 hr ht
        go_wp2_with fail
        refine (Hid.out H8).mono ?_
        rintro e w1 ⟨g, od, rfl, ho, hp, hs, hx1⟩
        have hodl : od.length = n := by rw [hp.length_eq]; simp
        have H9 := hid (distinct9 oa n c0 g K od w1 (HK.out.ext hx1) (by have := HN.out; omega) hodl ho (fun x hx => List.mem_range.1 (hp.mem_iff.1 hx)))
        have HO := hid (And.intro ho (And.intro hp (And.intro hs hx1)))
        clear H8 ho hp hs hx1 hodl
        go_wp2_with fail
        refine (Hid.out H9).mono ?_
        rintro e w2 ⟨⟨r2, rfl, hr2⟩, hx2⟩
        clear H9
        obtain ⟨ho, hp, hs, hx1⟩ := HO.out
        have hx02 : Ext [] w w2 := hx1.trans hx2
        cases r2 with
        | false =>
          have HX := hid hx02
          clear hr2 ho hp hs hx1 hx2 hx02 HO
          go_wp2_with fail
          go_ret
          exact ⟨rfl, HX.out⟩
        | true =>
          obtain ⟨hstr, hinj⟩ := order_strict hp hs (hr2 rfl)
          have H10 := hid (build10 oa n c0 K w2 (HK.out.ext hx02) HT.out hinj)
          have HO2 : Hid (w2.ownsRow 0 3 1 (.slice (some ⟨g, 0, none⟩) n n) n (intCells od) ∧ od.Perm (List.range n) ∧ (od.Pairwise fun a b => klt (K a) (K b) = true) ∧ Ext [] w w2) := ⟨owns_same ho (hx2.block g (owns_lt ho) (by simp)), hp, hstr, hx02⟩
          clear hr2 ho hp hs hx1 hx2 hx02 HO hstr hinj
          go_wp2_with fail
          refine (Hid.out H10).mono ?_
          rintro e w3 ⟨tb, ob, rfl, hB⟩
          clear H10
          obtain ⟨cb, rb, d, p, t, F, hT, hP, hoff, hx3⟩ := hB
          obtain ⟨ho2, hp, hstr, hx2⟩ := HO2.out
          have hkd : Bt.keysT d t = od := keys_order hT.wf hP hp hstr
          have hd16 := depth_small hT.wf hP HN.out
          obtain ⟨W4, hW4⟩ : ∃ W4, w3.alloc (.cells #[.slice none 0 0, .int .i64 (-1), .slice none 0 0, .slice none 0 0, .bool true] 34) = W4 := ⟨_, rfl⟩
          have hx4 : Ext [] w3 W4 := by rw [← hW4]; exact (Ext.refl [] w3).alloc _
          have hv0 : VisE w3.heap.size W4 (offOf K) w3.heap.size (-1) [] [] [] := by
            refine ⟨none, none, none, 0, 0, 0, ?_⟩
            rw [← hW4]
            exact ⟨heap_alloc_new w3 _, World.ownsRow_nil _ _ _ _, World.ownsRow_nil _ _ _ _, World.ownsRow_nil _ _ _ _, Nat.le_refl _, by simp [blk], by simp [blk], by simp [blk], by simp [blk], by simp [blk], by simp [blk]⟩
          obtain ⟨ms, hms⟩ : ∃ ms, Bt.marks ByteArray.empty d t 0 = ms := ⟨_, rfl⟩
          have hmf := Bt.marks_few (dfl := ByteArray.empty) d true true t 0 hT.wf
          have hmp := Bt.marks_part (dfl := ByteArray.empty) d true true t 0 hT.wf
          have hodl : od.length = n := by rw [hp.length_eq]; simp
          rw [hkd, hms, hodl] at hmf
          rw [hkd, hms] at hmp
          have hnn := HN.out
          have hT4 := hT.ext hx4
          have H11 := visit11 w3.heap.size w3.heap.size (offOf K) K d p t F true true (-1) [] [] [] W4 0 hv0 hT4.mem (mem_lt d p t F hT.mem) hT.wf (by omega) (Or.inl rfl) (by rw [hkd, hodl]; simp; omega) (by rw [show ([] : List Nat).length = 0 from rfl, hms]; simp; omega) rfl
          rw [show ([] : List Nat).length = 0 from rfl, hms, hkd] at H11
          have H11' : Hid (Calls Try.prog 11 #[.pointer (some ⟨p, 0, none⟩), .int .i64 0, .bool true, .bool true, .pointer (some ⟨w3.heap.size, 0, none⟩)] W4 fun e w' => e = .returned (.tuple #[]) ∧ VisE w3.heap.size w' (offOf K) w3.heap.size ((0 + d : Nat) : Int) od (ms.map Prod.fst) (ms.map Prod.snd) ∧ Below w3.heap.size W4 w') := H11
          have t0 := hT4.tab.c0
          have HF4 : Hid (w3.ownsRow 0 3 1 (.slice (some ⟨g, 0, none⟩) n n) n (intCells od) ∧ w3.ownsRow 0 39 1 (.slice (some ⟨ob, 0, none⟩) n n) n (offCells K n n) ∧ Ext [] w W4 ∧ Below w3.heap.size w3 W4 ∧ Ext [] w w3 ∧ True) :=
            ⟨owns_same ho2 (hx3.block g (owns_lt ho2) (by simp)), hoff, (hx2.trans hx3).trans hx4, hx4.below, hx2.trans hx3, trivial⟩
          have HP := hid (And.intro hodl (And.intro hp (And.intro hmf hmp)))
          have HW4 := hid hW4
          obtain ⟨zb, hzb⟩ : ∃ zb, w3.heap.size = zb := ⟨_, rfl⟩
          have HZB := hid hzb
          clear HO2 hT hP hoff hx3 ho2 hp hstr hx2 hkd hd16 hW4 hx4 hv0 hms hmf hmp hodl hnn hT4 H11 hzb
          go_wp2_with fail
          rw [HW4.out]
          refine (root12 tb _ W4 t0).mono ?_
          rintro e w' ⟨rfl, hw⟩
          obtain rfl := hw.symm
          clear t0 hw HW4
          go_wp2_with fail
          refine (Hid.out H11').mono ?_
          rintro e w5 ⟨rfl, hv, hb5⟩
          clear H11'
          rw [HZB.out] at hv
          rw [HZB.out]
          obtain ⟨ra, ca, ba, rc, cc, bc, hv⟩ := hv
          obtain ⟨f1', f2', f3', f4', f5', _⟩ := HF4.out
          obtain ⟨hodl, hp, hmf, hmp⟩ := HP.out
          have hb35 : Below w3.heap.size w3 w5 := f4'.trans hb5
          have hx5 : Ext [] w w5 := by
            have h1 := f3'
            refine ⟨hb5.os.trans h1.os, hb5.tape.trans h1.tape, hb5.output.trans h1.output, Nat.le_trans h1.size hb5.size, fun k hk _ => ?_⟩
            exact (hb5.block k (Nat.lt_of_lt_of_le hk f5'.size)).trans (h1.block k hk (by simp))
          have g1 := owns_same f1' (hb35.block g (owns_lt f1'))
          have g2 := owns_same f2' (hb35.block ob (owns_lt f2'))
          obtain ⟨M, hM⟩ : ∃ M, ms.length = M := ⟨_, rfl⟩
          have z0 : w5.cell? ⟨zb, 0, none⟩ = some (.slice ra n rc) := by rw [← hodl]; simp [World.cell?, hv.here]
          have z2 : w5.cell? ⟨zb, 2, none⟩ = some (.slice ca M cc) := by rw [← hM]; simp [World.cell?, hv.here]
          have z3 : w5.cell? ⟨zb, 3, none⟩ = some (.slice ba M bc) := by rw [← hM]; simp [World.cell?, hv.here]
          have z4 : w5.cell? ⟨zb, 4, none⟩ = some (.bool true) := by simp [World.cell?, hv.here]
          have hM' : (M : Int) ≤ 65536 := by have := HN.out; omega
          have HALL := hid (And.intro hv (And.intro g1 (And.intro g2 (And.intro hx5 hM))))
          have HZ := hid (And.intro z0 (And.intro z2 z3))
          clear hv f1' f2' f3' f4' f5' hodl hp hmf hmp hb35 hx5 g1 g2 hM hb5 HF4
          go_wp2_with fail
          clear z0 z2 z3 z4
          go_loopw [7] (fun s7 wr => ∃ j : Nat, s7 = .int .i64 j ∧ j ≤ n ∧ Hid (Ext [] w5 wr)) (fun s7 _ => n - (intOf s7).toNat)
          case atStart => exact ⟨0, rfl, Nat.zero_le _, Ext.refl _ _⟩
          case round =>
            obtain ⟨j, rfl, hjn, hR⟩ := hrel
            rename World => w6
            by_cases hlt : j < n
            · obtain ⟨hv, g1, g2, hx5, hM⟩ := HALL.out
              obtain ⟨hodl, hp, hmf, hmp⟩ := HP.out
              obtain ⟨x, hx⟩ : ∃ x, od[j]? = some x := ⟨od[j]'(by omega), List.getElem?_eq_getElem _⟩
              have hxn : x < n := List.mem_range.1 (hp.mem_iff.1 (List.mem_of_getElem? hx))
              obtain ⟨gr, rfl⟩ : ∃ gr, ra = some ⟨gr, 0, none⟩ := by
                obtain ⟨_, h2 | ⟨g', cap, cur, he, _⟩⟩ := hv.rr
                · omega
                · simp only [Value.slice.injEq] at he; exact ⟨g', he.1⟩
              have hx6 := hR.out
              have c0' : w6.drew.cell? ⟨zb, 0, none⟩ = some (.slice (some ⟨gr, 0, none⟩) n rc) := (hx6.cell (p := ⟨zb, 0, none⟩) (World.block_lt_of_cell? _ _ HZ.out.1) (by simp)).trans HZ.out.1
              have c1' : w6.drew.cell? ⟨gr, j * 2, none⟩ = some (.int .u32 1) := by
                have h := owns_cell (owns_base hv.rr) (refCells_get (offOf K) od j x hx).1
                exact (hx6.cell (p := ⟨gr, j * 2, none⟩) (World.block_lt_of_cell? _ _ h) (by simp)).trans h
              have c2' : w6.drew.cell? ⟨gr, j * 2 + 1, none⟩ = some (.int .u32 (offOf K x)) := by
                have h := owns_cell (owns_base hv.rr) (refCells_get (offOf K) od j x hx).2
                exact (hx6.cell (p := ⟨gr, j * 2 + 1, none⟩) (World.block_lt_of_cell? _ _ h) (by simp)).trans h
              have c3' : w6.drew.cell? ⟨g, j, none⟩ = some (.int .i64 x) := by
                have h := owns_cell g1 (int_get hx)
                exact (hx6.cell (p := ⟨g, j, none⟩) (World.block_lt_of_cell? _ _ h) (by simp)).trans h
              have c4' : w6.drew.cell? ⟨ob, x, none⟩ = some (.int .u32 (offOf K x)) := by
                have h := owns_cell g2 (offCells_get K n x hxn)
                exact (hx6.cell (p := ⟨ob, x, none⟩) (World.block_lt_of_cell? _ _ h) (by simp)).trans h
              obtain ⟨o, hoo⟩ : ∃ o, offOf K x = o := ⟨_, rfl⟩
              rw [hoo] at c2' c4'
              have hj' : (j : Int) < (n : Int) := by omega
              have hx' : (x : Int) < (n : Int) := by omega
              have H13 : Hid (Calls Try.prog 13 #[.agg #[.int .u32 1, .int .u32 (o : Int)]] w6.drew fun e w' => e = .returned (.int .u32 (o : Int)) ∧ Hid (Ext [] w5 w') ∧ (w'.cell? ⟨zb, 0, none⟩ = some (.slice (some ⟨gr, 0, none⟩) n rc) ∧ w'.cell? ⟨gr, j * 2, none⟩ = some (.int .u32 1) ∧ w'.cell? ⟨gr, j * 2 + 1, none⟩ = some (.int .u32 (o : Int)) ∧ w'.cell? ⟨g, j, none⟩ = some (.int .i64 x) ∧ w'.cell? ⟨ob, x, none⟩ = some (.int .u32 (o : Int)))) := by
                refine (refAt13 1 (o : Int) w6.drew).mono ?_
                rintro e w' ⟨he, hx'⟩
                exact ⟨he, hx6.drew.trans hx', (hx'.cell (p := ⟨zb, 0, none⟩) (World.block_lt_of_cell? _ _ c0') (by simp)).trans c0', (hx'.cell (p := ⟨gr, j * 2, none⟩) (World.block_lt_of_cell? _ _ c1') (by simp)).trans c1',
                  (hx'.cell (p := ⟨gr, j * 2 + 1, none⟩) (World.block_lt_of_cell? _ _ c2') (by simp)).trans c2', (hx'.cell (p := ⟨g, j, none⟩) (World.block_lt_of_cell? _ _ c3') (by simp)).trans c3', (hx'.cell (p := ⟨ob, x, none⟩) (World.block_lt_of_cell? _ _ c4') (by simp)).trans c4'⟩
              have HLT := hid hlt
              clear hv g1 g2 hx5 hM hodl hp hmf hmp hx hxn hx6 hoo hlt hjn hR
              go_wp2_with fail
              go_region_held3 (fun w' => w'.cell? ⟨zb, 0, none⟩ = some (.slice (some ⟨gr, 0, none⟩) n rc) ∧ w'.cell? ⟨gr, j * 2, none⟩ = some (.int .u32 1) ∧ w'.cell? ⟨gr, j * 2 + 1, none⟩ = some (.int .u32 (o : Int)) ∧ w'.cell? ⟨g, j, none⟩ = some (.int .i64 x) ∧ w'.cell? ⟨ob, x, none⟩ = some (.int .u32 (o : Int))) (first | (assumption) | (go_keep))
                (first
                  | (go_at_call 13; refine (Hid.out H13).mono ?_; rintro e w7 ⟨rfl, hR7, hS7⟩))
              clear hS7 H13 c0' c1' c2' c3' c4'
              go_wp2_with fail
              go_roundw
              case measure => simp [intOf]; have := HLT.out; omega
              case rel => exact ⟨j + 1, by simp, HLT.out, hR7⟩
            · obtain rfl : n = j := by omega
              have hx6 := hR.out
              have z0 : w6.cell? ⟨zb, 0, none⟩ = some (.slice ra n rc) := (hx6.cell (p := ⟨zb, 0, none⟩) (World.block_lt_of_cell? _ _ HZ.out.1) (by simp)).trans HZ.out.1
              have z2 : w6.cell? ⟨zb, 2, none⟩ = some (.slice ca M cc) := (hx6.cell (p := ⟨zb, 2, none⟩) (World.block_lt_of_cell? _ _ HZ.out.2.1) (by simp)).trans HZ.out.2.1
              have z3 : w6.cell? ⟨zb, 3, none⟩ = some (.slice ba M bc) := (hx6.cell (p := ⟨zb, 3, none⟩) (World.block_lt_of_cell? _ _ HZ.out.2.2) (by simp)).trans HZ.out.2.2
              have HX6 := hid hx6
              clear hx6 hjn hlt hR z0
              go_wp2_with fail
              go_loop [8] (fun s8 => ∃ c : Nat, s8 = .int .i64 c ∧ c ≤ M) (fun s8 => M - (intOf s8).toNat)
              case atStart => exact ⟨0, rfl, Nat.zero_le _⟩
              case round =>
                obtain ⟨c, rfl, hcM⟩ := hrel
                by_cases hlt : c < M
                · obtain ⟨hv, g1, g2, hx5, hM⟩ := HALL.out
                  obtain ⟨hodl, hp, hmf, hmp⟩ := HP.out
                  obtain ⟨pb, hpb⟩ : ∃ pb, ms[c]? = some pb := ⟨ms[c]'(by omega), List.getElem?_eq_getElem _⟩
                  obtain ⟨j, x, y, e1, e2, e3, e4, e5⟩ := hmp pb (List.mem_of_getElem? hpb)
                  obtain ⟨pp, b⟩ := pb
                  obtain ⟨gc, rfl⟩ : ∃ gr, ca = some ⟨gr, 0, none⟩ := by
                    obtain ⟨_, h2 | ⟨g', cap, cur, he, _⟩⟩ := hv.rcu
                    · have h3 := h2.2; rw [List.length_map] at h3; omega
                    · simp only [Value.slice.injEq] at he; exact ⟨g', he.1⟩
                  obtain ⟨gb, rfl⟩ : ∃ gr, ba = some ⟨gr, 0, none⟩ := by
                    obtain ⟨_, h2 | ⟨g', cap, cur, he, _⟩⟩ := hv.rbo
                    · have h3 := h2.2; rw [List.length_map] at h3; omega
                    · simp only [Value.slice.injEq] at he; exact ⟨g', he.1⟩
                  have hx6 := HX6.out
                  have k1 : w6.cell? ⟨gc, c, none⟩ = some (.int .i64 pp) := by
                    have h := owns_cell (owns_base hv.rcu) (int_get (show (ms.map Prod.fst)[c]? = some pp by simp [hpb]))
                    exact (hx6.cell (p := ⟨gc, c, none⟩) (World.block_lt_of_cell? _ _ h) (by simp)).trans h
                  have k2 : w6.cell? ⟨gb, c, none⟩ = some (.string b) := by
                    have h := owns_cell (owns_base hv.rbo) (str_get (show (ms.map Prod.snd)[c]? = some b by simp [hpb]))
                    exact (hx6.cell (p := ⟨gb, c, none⟩) (World.block_lt_of_cell? _ _ h) (by simp)).trans h
                  have hpp : pp = j + 1 := by simpa using e1
                  have hjl := (List.getElem?_eq_some_iff.1 e3).1
                  have k3 : w6.cell? ⟨g, pp - 1, none⟩ = some (.int .i64 x) := by
                    have h := owns_cell g1 (int_get e2)
                    rw [hpp, Nat.add_sub_cancel]
                    exact (hx6.cell (p := ⟨g, j, none⟩) (World.block_lt_of_cell? _ _ h) (by simp)).trans h
                  have k4 : w6.cell? ⟨g, pp, none⟩ = some (.int .i64 y) := by
                    have h := owns_cell g1 (int_get e3)
                    rw [hpp]
                    exact (hx6.cell (p := ⟨g, j + 1, none⟩) (World.block_lt_of_cell? _ _ h) (by simp)).trans h
                  have hxn : x < n := List.mem_range.1 (hp.mem_iff.1 (List.mem_of_getElem? e2))
                  have hyn : y < n := List.mem_range.1 (hp.mem_iff.1 (List.mem_of_getElem? e3))
                  have hk6 := HK.out.ext (hx5.trans hx6)
                  obtain ⟨ka, rfl, hkx⟩ := hk6 x hxn
                  obtain ⟨ka', ee, hky⟩ := hk6 y hyn
                  obtain rfl := Option.some.inj ee
                  have b1 : (0 : Int) < (pp : Int) := by omega
                  have b2 : (pp : Int) < (n : Int) := by omega
                  have b3 : IntKind.wrap .i64 ((pp : Int) - 1) = (pp : Int) - 1 := by rw [IntKind.wrap_i64] <;> omega
                  have b4 : ((pp : Int) - 1).toNat = pp - 1 := by omega
                  have b5 : (0 : Int) ≤ (pp : Int) - 1 := by omega
                  have b6 : (pp : Int) - 1 < (n : Int) := by omega
                  have b7 : (1 : Int) ≤ (pp : Int) := by omega
                  have b8 : (x : Int) < (n : Int) := by omega
                  have b9 : (y : Int) < (n : Int) := by omega
                  have hlt' : (c : Int) < (M : Int) := by omega
                  have e4' : Op.bytesLess (K x).toList b.toList = true := e4
                  have HLT := hid hlt
                  rcases cmp3 b (K y) with ⟨hA1, hA2, hcmp, hA3⟩ | ⟨hA1, hA2, hcmp, hA3⟩ | ⟨hA1, hA2, hcmp, hA3⟩
                  · clear hv g1 g2 hx5 hM hodl hp hmf hmp hpb e1 e2 e3 e4 e5 hpp hjl hxn hyn hk6 ee hx6 hcmp hlt hcM
                    go_wp2_with fail
                    go_round
                    case measure => simp [intOf]; have := HLT.out; omega
                    case rel => exact ⟨c + 1, by simp, HLT.out⟩
                  · clear hv g1 g2 hx5 hM hodl hp hmf hmp hpb e1 e2 e3 e4 e5 hpp hjl hxn hyn hk6 ee hx6 hcmp hlt hcM
                    go_wp2_with fail
                    go_round
                    case measure => simp [intOf]; have := HLT.out; omega
                    case rel => exact ⟨c + 1, by simp, HLT.out⟩
                  · exfalso
                    simp only at e5
                    rw [hcmp] at e5
                    cases e5
                · obtain rfl : M = c := by omega
                  clear hcM hlt
                  go_wp2_with fail
                  go_ret
                  exact ⟨rfl, HALL.out.2.2.2.1.trans HX6.out⟩
      · have hr' : (1048576 : Int) < (r : Int) := by omega
        clear hr1 hr2 hr
        go_wp2_with fail
        go_ret
        exact ⟨rfl, Ext.refl _ _⟩
    · have hn' : (65536 : Int) < (n : Int) := by omega
      clear hn hn20 hsz
      go_wp2_with fail
      go_ret
      exact ⟨rfl, Ext.refl _ _⟩
end Go.Proofs.Qxb6613201a
