/- 'zzBuild' once more: the table is new. -/
import Derived.Test.Qxb6613201aBuild
set_option linter.unusedVariables false
set_option linter.unusedSimpArgs false
namespace Go.Proofs.Qxb6613201a
open Go.RowKit

/-- What 'zzBuild' leaves: the tree of all keys, and the offsets. -/
def BuiltF (K : Nat → ByteArray) (n : Nat) (w w' : World) (tb ob : Nat) : Prop :=
  ∃ (cb rb d p : Nat) (t : Bt.T ByteArray d) (F : List Nat), Tree w' (offOf K) K (bytesOf K n) tb cb rb (tot 52 K n) (offOf K n) d p t F ∧ (Bt.keysT d t).Perm (List.range n) ∧ w'.ownsRow 0 39 1 (.slice (some ⟨ob, 0, none⟩) n n) n (offCells K n n) ∧ Ext [] w w' ∧ w.heap.size ≤ tb

set_option maxHeartbeats 4000000 in
set_option maxRecDepth 100000 in
theorem build10f (oa : Option Addr) (n c0 : Nat) (K : Nat → ByteArray) (w : World) (hk : KeysAt w oa n K) (ht : tot 16 K n ≤ 1048576) (hd : ∀ i j, i < n → j < n → K i = K j → i = j) :
    Calls Try.prog 10 #[.slice oa n c0] w fun e w' => ∃ tb ob, e = .returned (.tuple #[.pointer (some ⟨tb, 0, none⟩), .slice (some ⟨ob, 0, none⟩) n n]) ∧ BuiltF K n w w' tb ob := by
  have hn : n ≤ 65536 := by have := tot_low 16 K n; omega
  have ht52 : tot 52 K n ≤ 3407872 := by rw [show 52 = 16 + 36 from rfl, tot_diff]; omega
  have HKs : Hid (Keys (bytesOf K n) (offOf K) K (List.range n)) := ⟨fun k hk => bytes_rec K (List.mem_range.1 hk), fun k hk => by have := tot_key (c := 16) (K := K) (List.mem_range.1 hk); omega⟩
  have H25 := hid (records25 oa n c0 K w hk ht)
  have HK := hid hk
  have HD := hid hd
  have HT := hid ht52
  clear hk ht hd ht52
  go_enter Try.func10, Try.ntmps10
  go_wp2_with fail
  refine (Hid.out H25).mono ?_
  rintro e w1 ⟨rb, ob, rfl, hR⟩
  obtain ⟨o1, o2, x1, b1, b2, b3⟩ := hR
  have hcap := HT.out
  have H26 := hid (newTable26 rb (tot 52 K n) (offOf K) K (bytesOf K n) w1 o1 (by omega))
  rw [show (bytesOf K n).length = offOf K n from rfl] at H26
  have H1 := hid (And.intro o2 (And.intro x1 (And.intro b1 (And.intro b2 b3))))
  clear o1 o2 x1 b1 b2 b3 H25 hcap
  go_wp2_with fail
  refine (Hid.out H26).mono ?_
  rintro e w2 ⟨tb, cb, p0, F0, rfl, hT0, x2, ht0, hF0⟩
  obtain ⟨o2, x1, b1, b2, b3⟩ := H1.out
  have z1 := x1.size
  have hoblt := owns_lt o2
  have h0 : Hid (∃ (d p : Nat) (t : Bt.T ByteArray d) (F : List Nat), Tree w2 (offOf K) K (bytesOf K n) tb cb rb (tot 52 K n) (offOf K n) d p t F ∧ (Bt.keysT d t).Perm (List.range 0) ∧ w2.ownsRow 0 39 1 (.slice (some ⟨ob, 0, none⟩) n n) n (offCells K n n) ∧ Ext [] w w2 ∧ ob ∉ F ∧ ob ≠ tb ∧ (∀ b ∈ F, w.heap.size ≤ b) ∧ w.heap.size ≤ tb) :=
    ⟨0, p0, [], F0, hT0, List.Perm.refl _, owns_same o2 (x2.block ob hoblt (by simp)), x1.trans x2, fun h => by have := hF0 _ h; omega, by omega, fun b hb => by have := hF0 b hb; omega, by omega⟩
  clear o2 x1 b1 b2 b3 z1 hoblt hT0 x2 ht0 hF0 H1 H26
  go_wp2_with fail
  go_loopw [7] (fun s7 wr => ∃ i : Nat, s7 = .int .i64 i ∧ i ≤ n ∧ Hid (∃ (d p : Nat) (t : Bt.T ByteArray d) (F : List Nat), Tree wr (offOf K) K (bytesOf K n) tb cb rb (tot 52 K n) (offOf K n) d p t F ∧ (Bt.keysT d t).Perm (List.range i) ∧ wr.ownsRow 0 39 1 (.slice (some ⟨ob, 0, none⟩) n n) n (offCells K n n) ∧ Ext [] w wr ∧ ob ∉ F ∧ ob ≠ tb ∧ (∀ b ∈ F, w.heap.size ≤ b) ∧ w.heap.size ≤ tb))
    (fun s7 _ => n - (intOf s7).toNat)
  case atStart => exact ⟨0, rfl, Nat.zero_le _, h0.out⟩
  case round =>
    obtain ⟨i, rfl, hin, hR⟩ := hrel
    rename World => w3
    clear h0
    by_cases hlt : i < n
    · obtain ⟨d, p, t, F, hT, hP, ho, hx, hoF, hot, hFb, htb⟩ := hR.out
      obtain ⟨ka, rfl, hc⟩ := (HK.out.ext hx) i hlt
      have hkB : (ka.add i).block < w.heap.size := by
        obtain ⟨ka', e, h⟩ := HK.out i hlt
        obtain rfl := Option.some.inj e
        exact World.block_lt_of_cell? _ _ h
      obtain ⟨o, hoo⟩ : ∃ o, offOf K i = o := ⟨_, rfl⟩
      have hoc : w3.drew.cell? ⟨ob, i, none⟩ = some (.int .u32 o) := by rw [← hoo]; exact owns_cell ho (offCells_get K n i hlt)
      have hcd : w3.drew.cell? (ka.add i) = some (.string (K i)) := hc
      have hz := hx.size
      have hKk : Keys (bytesOf K n) (offOf K) K (i :: Bt.keysT d t) := HKs.out.sub (fun x hx => by
        rcases List.mem_cons.1 hx with rfl | hx
        · exact List.mem_range.2 hlt
        · have := List.mem_range.1 (hP.mem_iff.1 hx); exact List.mem_range.2 (by omega))
      have H27 : Hid (Calls Try.prog 27 #[.pointer (some ⟨tb, 0, none⟩), .string (K i), .int .u32 1, .int .u32 (o : Int)] w3.drew fun e w' => e = .returned (.tuple #[]) ∧ Hid (∃ (d p : Nat) (t : Bt.T ByteArray d) (F : List Nat), Tree w' (offOf K) K (bytesOf K n) tb cb rb (tot 52 K n) (offOf K n) d p t F ∧ (Bt.keysT d t).Perm (List.range (i + 1)) ∧ w'.ownsRow 0 39 1 (.slice (some ⟨ob, 0, none⟩) n n) n (offCells K n n) ∧ Ext [] w w' ∧ ob ∉ F ∧ ob ≠ tb ∧ (∀ b ∈ F, w.heap.size ≤ b) ∧ w.heap.size ≤ tb) ∧
          (w'.cell? ⟨ob, i, none⟩ = some (.int .u32 o) ∧ w'.cell? (ka.add i) = some (.string (K i)))) := by
        rw [← hoo]
        refine (ZZAdd27 tb cb rb (tot 52 K n) (offOf K n) (bytesOf K n) (offOf K) K i d p t F w3.drew hT.drew hKk (fun x hx e => ?_)).mono ?_
        · have h1 := List.mem_range.1 (hP.mem_iff.1 hx)
          have := HD.out x i (by omega) hlt e
          omega
        · rintro e w' ⟨he, d', p', t', F', hT', hP', hF', hx'⟩
          have hz3 : w3.drew.heap.size = w3.heap.size := rfl
          have hlto : ob < w3.heap.size := owns_lt ho
          have hoF' : ob ∉ F' := fun h => by rcases hF' _ h with h | h; exact hoF h; omega
          have hkn : (ka.add i).block ∉ tb :: F := by
            intro h
            rcases List.mem_cons.1 h with h | h
            · omega
            · have := hFb _ h; omega
          have hon : ob ∉ tb :: F := by
            intro h
            rcases List.mem_cons.1 h with h | h
            · exact hot h
            · exact hoF h
          refine ⟨he, ⟨d', p', t', F', hT', ?_, owns_same ho (hx'.block ob hlto hon), hx.drew.trans' hx' (fun x hx => Or.inr ?_), hoF', hot, fun b hb => ?_, htb⟩, ?_, ?_⟩
          · refine hP'.trans ?_
            rw [List.range_succ]
            exact (List.Perm.cons _ hP).trans (List.perm_append_singleton _ _).symm
          · rcases List.mem_cons.1 hx with h | h
            · omega
            · exact hFb _ h
          · rcases hF' b hb with h | h
            · exact hFb b h
            · omega
          · rw [hoo]; exact (hx'.cell (p := ⟨ob, i, none⟩) (World.block_lt_of_cell? _ _ hoc) hon).trans hoc
          · exact (hx'.cell (p := ka.add i) (World.block_lt_of_cell? _ _ hcd) hkn).trans hcd
      have HO := hid hoo
      have hlt' : (i : Int) < (n : Int) := by omega
      have HLT := hid hlt
      clear hT hP ho hx hoF hot hFb htb hc hkB hoo hz hKk hR HKs HD HK hin hlt
      go_wp2_with fail
      go_region_held3 (fun w' => w'.cell? ⟨ob, i, none⟩ = some (.int .u32 o) ∧ w'.cell? (ka.add i) = some (.string (K i))) (first | (assumption) | (go_keep))
        (first
          | (go_at_call 27; refine (Hid.out H27).mono ?_; rintro e w4 ⟨rfl, hR4, hS4⟩))
      clear hS4 H27 hoc hcd
      go_wp2_with fail
      go_roundw
      case measure => simp [intOf]; have := HLT.out; omega
      case rel => exact ⟨i + 1, by simp, HLT.out, hR4.out⟩
    · obtain rfl : n = i := by omega
      have HE : Hid (BuiltF K n w w3 tb ob) := by
        obtain ⟨d, p, t, F, hT, hP, ho, hx, _, _, _, htb⟩ := hR.out
        exact ⟨cb, rb, d, p, t, F, hT, hP, ho, hx, htb⟩
      clear hR
      go_wp2_with fail
      go_ret2
      exact ⟨tb, ob, rfl, HE.out⟩
end Go.Proofs.Qxb6613201a
