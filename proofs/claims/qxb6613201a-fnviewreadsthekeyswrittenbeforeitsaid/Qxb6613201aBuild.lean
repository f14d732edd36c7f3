/- 'ZZNewTable', 'zzBuild'. -/
import Derived.Test.Qxb6613201aRecs2
set_option linter.unusedVariables false
set_option linter.unusedSimpArgs false
namespace Go.Proofs.Qxb6613201a
open Go.RowKit

theorem Tree.drew {w : World} {off : Nat → Nat} {K : Nat → ByteArray} {bytes : List UInt8} {tb cb rb0 cap n d p : Nat} {t : Bt.T ByteArray d} {F : List Nat} (h : Tree w off K bytes tb cb rb0 cap n d p t F) : Tree w.drew off K bytes tb cb rb0 cap n d p t F :=
  ⟨h.tab, h.env.below ((Below.refl _ _).drew), mem_same d p t F h.mem (fun _ _ => rfl), h.wf, h.nodup, h.apart, h.low⟩
theorem Tree.ext {w w' : World} {off : Nat → Nat} {K : Nat → ByteArray} {bytes : List UInt8} {tb cb rb0 cap n d p : Nat} {t : Bt.T ByteArray d} {F : List Nat} (h : Tree w off K bytes tb cb rb0 cap n d p t F) (hx : Ext [] w w') : Tree w' off K bytes tb cb rb0 cap n d p t F :=
  ⟨(hx.block tb (lt_of_block h.tab) (by simp)).trans h.tab, h.env.ext hx (by simp) (by simp) (by simp), mem_ext h.mem hx (by simp), h.wf, h.nodup, h.apart, Nat.lt_of_lt_of_le h.low hx.size⟩

theorem u8_get {bs : List UInt8} {j : Nat} (h : j < bs.length) : (u8Cells bs)[j]? = some (.int .u8 bs[j].toNat) := by simp [u8Cells, h]

set_option maxHeartbeats 2000000 in
set_option maxRecDepth 100000 in
theorem newTable26 (rb cap : Nat) (off : Nat → Nat) (K : Nat → ByteArray) (bytes : List UInt8) (w : World) (ho : w.ownsRow 0 5 1 (.slice (some ⟨rb, 0, none⟩) bytes.length cap) bytes.length (u8Cells bytes)) (hcap : cap < 4294967296) :
    Calls Try.prog 26 #[.slice (some ⟨rb, 0, none⟩) bytes.length cap] w fun e w' => ∃ tb cb p F, e = .returned (.pointer (some ⟨tb, 0, none⟩)) ∧ Tree w' off K bytes tb cb rb cap bytes.length 0 p ([] : List Nat) F ∧ Ext [] w w' ∧ w.heap.size ≤ tb ∧ (∀ b ∈ F, w.heap.size ≤ b) := by
  have hrlt := owns_lt ho
  obtain ⟨m, hm⟩ : ∃ m, bytes.length = m := ⟨_, rfl⟩
  obtain ⟨_, _, hfit, _⟩ := row_of ho
  have HO := hid ho
  obtain ⟨W1, hW1⟩ : ∃ W1, (w.alloc (.cells #[.slice none 0 0, .int .i64 0, .int .i64 0, .slice (some ⟨rb, 0, none⟩) m cap, .int .i64 m, .int .i64 0] 83)).alloc
    (.cells #[.pointer none, .int .i64 0, .slice none 0 0, .int .u64 0, .slice (some ⟨w.heap.size, 0, none⟩) 2 2, .int .u64 0, .slice none 0 0, .int .u32 1, .int .i64 m, .int .i64 0, .bool false] 74) = W1 := ⟨_, rfl⟩
  have hx1 : Ext [] w W1 := by rw [← hW1]; exact ((Ext.refl [] w).alloc _).alloc _
  have hz1 : W1.heap.size = w.heap.size + 2 := by rw [← hW1]; simp
  have r1 : W1.heap[w.heap.size]? = some (.cells #[.slice none 0 0, .int .i64 0, .int .i64 0, .slice (some ⟨rb, 0, none⟩) m cap, .int .i64 m, .int .i64 0] 83 (0, 0)) := by rw [← hW1]; exact f2 w _ _
  have r2 : W1.heap[w.heap.size + 1]? = some (.cells #[.pointer none, .int .i64 0, .slice none 0 0, .int .u64 0, .slice (some ⟨w.heap.size, 0, none⟩) 2 2, .int .u64 0, .slice none 0 0, .int .u32 1, .int .i64 m, .int .i64 0, .bool false] 74 (0, 0)) := by rw [← hW1]; exact f3 w _ _
  have hv : W1.cell? ⟨w.heap.size + 1, 3, none⟩ = some (.int .u64 0) := by simp [World.cell?, r2]
  have H37 := hid (newLeaf37 (w.heap.size + 1) 0 (.slice none 0 0) [] W1 hv (by omega) rfl (fun w' _ => Src.ofNil w' Try.underlying32 0))
  have HM := hid hm
  have HW1 := hid hW1
  have HR := hid (And.intro r1 r2)
  have HX1 := hid hx1
  have HC := hid hcap
  have HFI := hid hfit
  rw [hm]
  clear ho hm hW1 r1 r2 hx1 hv hcap hfit
  go_enter Try.func26, Try.ntmps26
  go_wp2_with fail
  rw [HW1.out]
  refine (Hid.out H37).mono ?_
  rintro e w2 ⟨rfl, hN, hoL, hx2, hz2⟩
  have hT2 : w2.heap[w.heap.size + 1]? = some (.cells #[.pointer none, .int .i64 0, .slice none 0 0, .int .u64 0, .slice (some ⟨w.heap.size, 0, none⟩) 2 2, .int .u64 0, .slice none 0 0, .int .u32 1, .int .i64 m, .int .i64 0, .bool false] 74 (0, 0)) := (hx2.block _ (by omega) (by simp)).trans HR.out.2
  have k1 : w2.cell? ⟨w.heap.size + 1, 0, none⟩ = some (.pointer none) := by simp [World.cell?, hT2]
  have k2 : w2.frozen? ⟨w.heap.size + 1, 0, none⟩ = false := by simp [World.frozen?, hT2]
  have hset := setCell_block (j := 0) hT2 (.pointer (some ⟨W1.heap.size + 1, 0, none⟩))
  have HF : Hid (∃ cb p F, Tree (w2.setCell ⟨w.heap.size + 1, 0, none⟩ (.pointer (some ⟨W1.heap.size + 1, 0, none⟩))) off K bytes (w.heap.size + 1) cb rb cap bytes.length 0 p ([] : List Nat) F ∧ Ext [] w (w2.setCell ⟨w.heap.size + 1, 0, none⟩ (.pointer (some ⟨W1.heap.size + 1, 0, none⟩))) ∧ w.heap.size ≤ w.heap.size + 1 ∧ (∀ b ∈ F, w.heap.size ≤ b)) := by
    show ∃ cb p F, _
    obtain ⟨W3, hW3⟩ : ∃ W3, w2.setCell ⟨w.heap.size + 1, 0, none⟩ (.pointer (some ⟨W1.heap.size + 1, 0, none⟩)) = W3 := ⟨_, rfl⟩
    have hx3 : Ext [w.heap.size + 1] w2 W3 := by rw [← hW3]; exact (Ext.refl _ w2).setCell (Or.inl (by simp)) _
    rw [hW3] at hset ⊢
    have hz3 := hx3.size
    have hE : Ext [] w W3 := (HX1.out.trans hx2).trans' hx3 (fun x hx => Or.inr (by simp at hx; omega))
    have hT3 : TabAt W3 (w.heap.size + 1) (W1.heap.size + 1) w.heap.size bytes.length := by rw [HM.out]; exact hset
    have hC3 : W3.heap[w.heap.size]? = some (.cells #[.slice none 0 0, .int .i64 0, .int .i64 0, .slice (some ⟨rb, 0, none⟩) m cap, .int .i64 m, .int .i64 0] 83 (0, 0)) := (hx3.block _ (by omega) (by simp)).trans ((hx2.block _ (by omega) (by simp)).trans HR.out.1)
    have hO3 := owns_same HO.out (hE.block rb hrlt (by simp))
    refine ⟨w.heap.size, W1.heap.size + 1, [W1.heap.size + 1, W1.heap.size], ⟨hT3, ⟨hT3.c4, ?_, fun j h => owns_cell hO3 (u8_get h), by rw [HM.out]; have := HFI.out; rw [HM.out] at this; exact this, HC.out⟩, ⟨W1.heap.size, ?_, ?_, rfl⟩, ⟨List.Pairwise.nil, by simp, by simp, by simp⟩, by simp, by simp; omega, by omega⟩, hE, by omega, ?_⟩
    · rw [HM.out]; simp [World.cell?, hC3]
    · exact (hx3.block _ (by omega) (by simp; omega)).trans hN
    · exact owns_same hoL (hx3.block _ (by omega) (by simp; omega))
    · intro b hb; simp at hb; omega
  clear hN hoL hx2 hz2 hT2 hset H37 HR HX1 HO HW1 hz1 hrlt HFI HC
  go_wp2_with fail
  go_ret
  obtain ⟨cb, p, F, h⟩ := HF.out
  exact ⟨_, cb, p, F, rfl, by rw [HM.out] at h; exact h⟩

/-- What 'zzBuild' leaves: the tree of all keys, and the offsets. -/
def Built (K : Nat → ByteArray) (n : Nat) (w w' : World) (tb ob : Nat) : Prop :=
  ∃ (cb rb d p : Nat) (t : Bt.T ByteArray d) (F : List Nat), Tree w' (offOf K) K (bytesOf K n) tb cb rb (tot 52 K n) (offOf K n) d p t F ∧ (Bt.keysT d t).Perm (List.range n) ∧ w'.ownsRow 0 39 1 (.slice (some ⟨ob, 0, none⟩) n n) n (offCells K n n) ∧ Ext [] w w'

set_option maxHeartbeats 4000000 in
set_option maxRecDepth 100000 in
theorem build10 (oa : Option Addr) (n c0 : Nat) (K : Nat → ByteArray) (w : World) (hk : KeysAt w oa n K) (ht : tot 16 K n ≤ 1048576) (hd : ∀ i j, i < n → j < n → K i = K j → i = j) :
    Calls Try.prog 10 #[.slice oa n c0] w fun e w' => ∃ tb ob, e = .returned (.tuple #[.pointer (some ⟨tb, 0, none⟩), .slice (some ⟨ob, 0, none⟩) n n]) ∧ Built K n w w' tb ob := by
  have hn : n ≤ 65536 := by have := tot_low 16 K n; omega
  have ht52 : tot 52 K n ≤ 3407872 := by rw [show 52 = 16 + 36 from rfl, tot_diff]; omega
  have HKs : Hid (Keys (bytesOf K n) (offOf K) K (List.range n)) := ⟨fun k hk => bytes_rec K (List.mem_range.1 hk), fun k hk => by have := tot_key (c := 16) (K := K) (List.mem_range.1 hk); omega⟩
  have H25 := hid (records25 oa n c0 K w hk ht)
  have HK := hid hk
  have HD := hid hd
  have HT := hid ht52
  clear hk ht hd ht52
  go_enter Try.func10, Try.ntmps10
  go_wp2_with fail
  refine (Hid.out H25).mono ?_
  rintro e w1 ⟨rb, ob, rfl, hR⟩
  obtain ⟨o1, o2, x1, b1, b2, b3⟩ := hR
  have hcap := HT.out
  have H26 := hid (newTable26 rb (tot 52 K n) (offOf K) K (bytesOf K n) w1 o1 (by omega))
  rw [show (bytesOf K n).length = offOf K n from rfl] at H26
  have H1 := hid (And.intro o2 (And.intro x1 (And.intro b1 (And.intro b2 b3))))
  clear o1 o2 x1 b1 b2 b3 H25 hcap
  go_wp2_with fail
  refine (Hid.out H26).mono ?_
  rintro e w2 ⟨tb, cb, p0, F0, rfl, hT0, x2, ht0, hF0⟩
  obtain ⟨o2, x1, b1, b2, b3⟩ := H1.out
  have z1 := x1.size
  have hoblt := owns_lt o2
  have h0 : Hid (∃ (d p : Nat) (t : Bt.T ByteArray d) (F : List Nat), Tree w2 (offOf K) K (bytesOf K n) tb cb rb (tot 52 K n) (offOf K n) d p t F ∧ (Bt.keysT d t).Perm (List.range 0) ∧ w2.ownsRow 0 39 1 (.slice (some ⟨ob, 0, none⟩) n n) n (offCells K n n) ∧ Ext [] w w2 ∧ ob ∉ F ∧ ob ≠ tb ∧ (∀ b ∈ F, w.heap.size ≤ b) ∧ w.heap.size ≤ tb) :=
    ⟨0, p0, [], F0, hT0, List.Perm.refl _, owns_same o2 (x2.block ob hoblt (by simp)), x1.trans x2, fun h => by have := hF0 _ h; omega, by omega, fun b hb => by have := hF0 b hb; omega, by omega⟩
  clear o2 x1 b1 b2 b3 z1 hoblt hT0 x2 ht0 hF0 H1 H26
  go_wp2_with fail
  go_loopw [7] (fun s7 wr => ∃ i : Nat, s7 = .int .i64 i ∧ i ≤ n ∧ Hid (∃ (d p : Nat) (t : Bt.T ByteArray d) (F : List Nat), Tree wr (offOf K) K (bytesOf K n) tb cb rb (tot 52 K n) (offOf K n) d p t F ∧ (Bt.keysT d t).Perm (List.range i) ∧ wr.ownsRow 0 39 1 (.slice (some ⟨ob, 0, none⟩) n n) n (offCells K n n) ∧ Ext [] w wr ∧ ob ∉ F ∧ ob ≠ tb ∧ (∀ b ∈ F, w.heap.size ≤ b) ∧ w.heap.size ≤ tb))
    (fun s7 _ => n - (intOf s7).toNat)
  case atStart => exact ⟨0, rfl, Nat.zero_le _, h0.out⟩
  case round =>
    obtain ⟨i, rfl, hin, hR⟩ := hrel
    rename World => w3
    clear h0
    by_cases hlt : i < n
    · obtain ⟨d, p, t, F, hT, hP, ho, hx, hoF, hot, hFb, htb⟩ := hR.out
      obtain ⟨ka, rfl, hc⟩ := (HK.out.ext hx) i hlt
      have hkB : (ka.add i).block < w.heap.size := by
        obtain ⟨ka', e, h⟩ := HK.out i hlt
        obtain rfl := Option.some.inj e
        exact World.block_lt_of_cell? _ _ h
      obtain ⟨o, hoo⟩ : ∃ o, offOf K i = o := ⟨_, rfl⟩
      have hoc : w3.drew.cell? ⟨ob, i, none⟩ = some (.int .u32 o) := by rw [← hoo]; exact owns_cell ho (offCells_get K n i hlt)
      have hcd : w3.drew.cell? (ka.add i) = some (.string (K i)) := hc
      have hz := hx.size
      have hKk : Keys (bytesOf K n) (offOf K) K (i :: Bt.keysT d t) := HKs.out.sub (fun x hx => by
        rcases List.mem_cons.1 hx with rfl | hx
        · exact List.mem_range.2 hlt
        · have := List.mem_range.1 (hP.mem_iff.1 hx); exact List.mem_range.2 (by omega))
      have H27 : Hid (Calls Try.prog 27 #[.pointer (some ⟨tb, 0, none⟩), .string (K i), .int .u32 1, .int .u32 (o : Int)] w3.drew fun e w' => e = .returned (.tuple #[]) ∧ Hid (∃ (d p : Nat) (t : Bt.T ByteArray d) (F : List Nat), Tree w' (offOf K) K (bytesOf K n) tb cb rb (tot 52 K n) (offOf K n) d p t F ∧ (Bt.keysT d t).Perm (List.range (i + 1)) ∧ w'.ownsRow 0 39 1 (.slice (some ⟨ob, 0, none⟩) n n) n (offCells K n n) ∧ Ext [] w w' ∧ ob ∉ F ∧ ob ≠ tb ∧ (∀ b ∈ F, w.heap.size ≤ b) ∧ w.heap.size ≤ tb) ∧
          (w'.cell? ⟨ob, i, none⟩ = some (.int .u32 o) ∧ w'.cell? (ka.add i) = some (.string (K i)))) := by
        rw [← hoo]
        refine (ZZAdd27 tb cb rb (tot 52 K n) (offOf K n) (bytesOf K n) (offOf K) K i d p t F w3.drew hT.drew hKk (fun x hx e => ?_)).mono ?_
        · have h1 := List.mem_range.1 (hP.mem_iff.1 hx)
          have := HD.out x i (by omega) hlt e
          omega
        · rintro e w' ⟨he, d', p', t', F', hT', hP', hF', hx'⟩
          have hz3 : w3.drew.heap.size = w3.heap.size := rfl
          have hlto : ob < w3.heap.size := owns_lt ho
          have hoF' : ob ∉ F' := fun h => by rcases hF' _ h with h | h; exact hoF h; omega
          have hkn : (ka.add i).block ∉ tb :: F := by
            intro h
            rcases List.mem_cons.1 h with h | h
            · omega
            · have := hFb _ h; omega
          have hon : ob ∉ tb :: F := by
            intro h
            rcases List.mem_cons.1 h with h | h
            · exact hot h
            · exact hoF h
          refine ⟨he, ⟨d', p', t', F', hT', ?_, owns_same ho (hx'.block ob hlto hon), hx.drew.trans' hx' (fun x hx => Or.inr ?_), hoF', hot, fun b hb => ?_, htb⟩, ?_, ?_⟩
          · refine hP'.trans ?_
            rw [List.range_succ]
            exact (List.Perm.cons _ hP).trans (List.perm_append_singleton _ _).symm
          · rcases List.mem_cons.1 hx with h | h
            · omega
            · exact hFb _ h
          · rcases hF' b hb with h | h
            · exact hFb b h
            · omega
          · rw [hoo]; exact (hx'.cell (p := ⟨ob, i, none⟩) (World.block_lt_of_cell? _ _ hoc) hon).trans hoc
          · exact (hx'.cell (p := ka.add i) (World.block_lt_of_cell? _ _ hcd) hkn).trans hcd
      have HO := hid hoo
      have hlt' : (i : Int) < (n : Int) := by omega
      have HLT := hid hlt
      clear hT hP ho hx hoF hot hFb htb hc hkB hoo hz hKk hR HKs HD HK hin hlt
      go_wp2_with fail
      go_region_held3 (fun w' => w'.cell? ⟨ob, i, none⟩ = some (.int .u32 o) ∧ w'.cell? (ka.add i) = some (.string (K i))) (first | (assumption) | (go_keep))
        (first
          | (go_at_call 27; refine (Hid.out H27).mono ?_; rintro e w4 ⟨rfl, hR4, hS4⟩))
      clear hS4 H27 hoc hcd
      go_wp2_with fail
      go_roundw
      case measure => simp [intOf]; have := HLT.out; omega
      case rel => exact ⟨i + 1, by simp, HLT.out, hR4.out⟩
    · obtain rfl : n = i := by omega
      have HE : Hid (Built K n w w3 tb ob) := by
        obtain ⟨d, p, t, F, hT, hP, ho, hx, _⟩ := hR.out
        exact ⟨cb, rb, d, p, t, F, hT, hP, ho, hx⟩
      clear hR
      go_wp2_with fail
      go_ret2
      exact ⟨tb, ob, rfl, HE.out⟩
end Go.Proofs.Qxb6613201a
