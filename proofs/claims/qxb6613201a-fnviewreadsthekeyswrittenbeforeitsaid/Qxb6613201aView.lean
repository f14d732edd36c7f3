/- The view: 'ZZView', 'ZZViews', 'ZZViewRoot', 'ZZViewChunks', 'ZZChunkListKey', 'zzIsOffset'. -/
import Derived.Test.Qxb6613201aLawA
set_option linter.unusedVariables false
set_option linter.unusedSimpArgs false
namespace Go.Proofs.Qxb6613201a
open Go.RowKit

theorem add50 (a : Addr) (w : World) (h : w.cell? a = some (.int .u64 0)) (hf : w.frozen? a = false) : (Extern.Atomic.update (Op.intArith .add) .u64 true #[.pointer (some a), .int .u64 1]).run Try.prog w = .ok (.int .u64 1) (w.setCell a (.int .u64 1)) := by
  have e : Extern.Atomic.update (Op.intArith .add) .u64 true #[.pointer (some a), .int .u64 1] = (do
    let b ← asAddr (.pointer (some a))
    let old ← Extern.Atomic.read (.int .u64) b
    let new ← Op.intArith .add .u64 (← asInt old) (← asInt (.int .u64 1))
    store b new .atomic
    pure (if true then new else old)) := rfl
  rw [e]
  simp [asAddr, Extern.Atomic.read, run_load, h, asInt, asIntOf, Op.intArith, IntKind.wrap, IntKind.signed, IntKind.bits]
  rw [run_store _ _ _ _ _ rfl]
  simp [h, hf]
theorem add41 (b o : Nat) (w : World) (h : w.cell? ⟨b, o, none⟩ = some (.int .u64 0)) (hf : w.frozen? ⟨b, o, none⟩ = false) : Calls Try.prog 41 #[.pointer (some ⟨b, o, none⟩), .int .u64 1] w fun e w' => e = .returned (.int .u64 1) ∧ w' = w.setCell ⟨b, o, none⟩ (.int .u64 1) := by
  have h50 := @run_callFunc_extern Try.prog 50 _ (Extern.Atomic.update (Op.intArith .add) .u64 true) Try.func50 (by kernel_rfl) (by kernel_rfl) (by kernel_rfl) (by kernel_rfl)
  have hl := add50 ⟨b, o, none⟩ w h hf
  go_enter Try.func41, Try.ntmps41
  go_wp2
  go_ret
  exact ⟨rfl, rfl⟩

/-- The table behind one view. -/
def TabV (w : World) (tb p cb n : Nat) : Prop :=
  w.heap[tb]? = some (.cells #[.pointer (some ⟨p, 0, none⟩), .int .i64 0, .slice none 0 0, .int .u64 1, .slice (some ⟨cb, 0, none⟩) 2 2, .int .u64 0, .slice none 0 0, .int .u32 1, .int .i64 n, .int .i64 0, .bool false] 74 (0, 0))
theorem TabV.c0 {w : World} {tb p cb n : Nat} (h : TabV w tb p cb n) : w.cell? ⟨tb, 0, none⟩ = some (.pointer (some ⟨p, 0, none⟩)) := by simp [World.cell?, show w.heap[tb]? = _ from h]
theorem TabV.c3 {w : World} {tb p cb n : Nat} (h : TabV w tb p cb n) : w.cell? ⟨tb, 3, none⟩ = some (.int .u64 1) := by simp [World.cell?, show w.heap[tb]? = _ from h]
theorem TabV.c4 {w : World} {tb p cb n : Nat} (h : TabV w tb p cb n) : w.cell? ⟨tb, 4, none⟩ = some (.slice (some ⟨cb, 0, none⟩) 2 2) := by simp [World.cell?, show w.heap[tb]? = _ from h]

set_option maxHeartbeats 2000000 in
set_option maxRecDepth 100000 in
theorem view33 (tb p cb n : Nat) (w : World) (hT : TabAt w tb p cb n) :
    Calls Try.prog 33 #[.pointer (some ⟨tb, 0, none⟩)] w fun e w' => e = .returned (.agg #[.pointer (some ⟨p, 0, none⟩), .slice (some ⟨cb, 0, none⟩) 2 2]) ∧ TabV w' tb p cb n ∧ Ext [tb] w w' := by
  have htl : tb < w.heap.size := lt_of_block hT
  obtain ⟨W1, hW1⟩ : ∃ W1, w.alloc (.cells #[.pointer none, .slice none 0 0] 51) = W1 := ⟨_, rfl⟩
  have hx1 : Ext [] w W1 := by rw [← hW1]; exact (Ext.refl [] w).alloc _
  have hT1 : TabAt W1 tb p cb n := (hx1.block tb htl (by simp)).trans hT
  have hs1 : W1.heap.size = w.heap.size + 1 := by rw [← hW1]; simp
  have hn1 : W1.heap[w.heap.size]? = some (.cells #[.pointer none, .slice none 0 0] 51 (0, 0)) := by rw [← hW1]; exact heap_alloc_new w _
  have H41 := hid (add41 tb 3 W1 hT1.c3 (hT1.free 3))
  obtain ⟨W2, hW2⟩ : ∃ W2, W1.setCell ⟨tb, 3, none⟩ (.int .u64 1) = W2 := ⟨_, rfl⟩
  have hT2 : TabV W2 tb p cb n := by rw [← hW2]; exact setCell_block hT1 _
  have hx2 : Ext [tb] W1 W2 := by rw [← hW2]; exact (Ext.refl [tb] W1).setCell (Or.inl (by simp)) _
  have hn2 : W2.heap[w.heap.size]? = some (.cells #[.pointer none, .slice none 0 0] 51 (0, 0)) := (hx2.block _ (by omega) (by simp; omega)).trans hn1
  rw [hW2] at H41
  have HW1 := hid hW1
  have HX : Hid (Ext [tb] w W2) := (hx1.mono (by simp)).trans hx2
  have k0 : W2.drew.cell? ⟨tb, 0, none⟩ = some (.pointer (some ⟨p, 0, none⟩)) := hT2.c0
  have k4 : W2.drew.cell? ⟨tb, 4, none⟩ = some (.slice (some ⟨cb, 0, none⟩) 2 2) := hT2.c4
  have n0 : W2.drew.cell? ⟨w.heap.size, 0, none⟩ = some (.pointer none) := by show W2.cell? _ = _; simp [World.cell?, hn2]
  have n1 : W2.drew.cell? ⟨w.heap.size, 1, none⟩ = some (.slice none 0 0) := by show W2.cell? _ = _; simp [World.cell?, hn2]
  have f0 : W2.drew.frozen? ⟨w.heap.size, 0, none⟩ = false := by show W2.frozen? _ = _; simp [World.frozen?, hn2]
  have f1 : W2.drew.frozen? ⟨w.heap.size, 1, none⟩ = false := by show W2.frozen? _ = _; simp [World.frozen?, hn2]
  have n0p : W2.cell? ⟨w.heap.size, 0, none⟩ = some (.pointer none) := n0
  have n1p : W2.cell? ⟨w.heap.size, 1, none⟩ = some (.slice none 0 0) := n1
  have f0p : W2.frozen? ⟨w.heap.size, 0, none⟩ = false := f0
  have f1p : W2.frozen? ⟨w.heap.size, 1, none⟩ = false := f1
  have HT2 := hid hT2
  clear hT hW1 hx1 hT1 hn1 hW2 hT2 hx2 hn2
  go_enter Try.func33, Try.ntmps33
  go_wp2_with fail
  rw [HW1.out]
  refine (Hid.out H41).mono ?_
  rintro e w' ⟨rfl, rfl⟩
  go_wp2_with fail
  go_region
  all_goals go_wp2_with fail
  all_goals refine bodyPost_ret (v := .agg #[.pointer (some ⟨p, 0, none⟩), .slice (some ⟨cb, 0, none⟩) 2 2]) (by simp [results, Try.results33, go_sem, n0p, n1p]; try rfl) rfl ?_
  all_goals exact ⟨rfl, (Below.heap_setCell _ ⟨w.heap.size, 1, none⟩ _ tb (by show tb ≠ w.heap.size; omega)).trans ((Below.heap_setCell _ ⟨w.heap.size, 0, none⟩ _ tb (by show tb ≠ w.heap.size; omega)).trans HT2.out),
    ((HX.out.setCell (Or.inr (Nat.le_refl _)) _).setCell (Or.inr (Nat.le_refl _)) _).drew⟩

set_option maxHeartbeats 2000000 in
set_option maxRecDepth 100000 in
theorem view18 (tb p cb n : Nat) (w : World) (hT : TabAt w tb p cb n) :
    Calls Try.prog 18 #[.pointer (some ⟨tb, 0, none⟩)] w fun e w' => e = .returned (.agg #[.pointer (some ⟨p, 0, none⟩), .slice (some ⟨cb, 0, none⟩) 2 2]) ∧ TabV w' tb p cb n ∧ Ext [tb] w w' := by
  have htl : tb < w.heap.size := lt_of_block hT
  obtain ⟨W1, hW1⟩ : ∃ W1, w.alloc (.cells #[.pointer none, .slice none 0 0] 51) = W1 := ⟨_, rfl⟩
  have hx1 : Ext [] w W1 := by rw [← hW1]; exact (Ext.refl [] w).alloc _
  have hT1 : TabAt W1 tb p cb n := (hx1.block tb htl (by simp)).trans hT
  have hs1 : W1.heap.size = w.heap.size + 1 := by rw [← hW1]; simp
  have hn1 : W1.heap[w.heap.size]? = some (.cells #[.pointer none, .slice none 0 0] 51 (0, 0)) := by rw [← hW1]; exact heap_alloc_new w _
  have H33 := hid (view33 tb p cb n W1 hT1)
  have HW1 := hid hW1
  have HX1 := hid hx1
  have HN1 := hid hn1
  clear hT hW1 hx1 hT1 hn1
  go_enter Try.func18, Try.ntmps18
  go_wp2_with fail
  rw [HW1.out]
  refine (Hid.out H33).mono ?_
  rintro e W2 ⟨rfl, hT2, hx2⟩
  have hn2 : W2.heap[w.heap.size]? = some (.cells #[.pointer none, .slice none 0 0] 51 (0, 0)) := (hx2.block _ (by omega) (by simp; omega)).trans HN1.out
  have n0p : W2.cell? ⟨w.heap.size, 0, none⟩ = some (.pointer none) := by simp [World.cell?, hn2]
  have n1p : W2.cell? ⟨w.heap.size, 1, none⟩ = some (.slice none 0 0) := by simp [World.cell?, hn2]
  have f0p : W2.frozen? ⟨w.heap.size, 0, none⟩ = false := by simp [World.frozen?, hn2]
  have f1p : W2.frozen? ⟨w.heap.size, 1, none⟩ = false := by simp [World.frozen?, hn2]
  have HT2 := hid hT2
  have HX : Hid (Ext [tb] w W2) := (HX1.out.mono (by simp)).trans hx2
  clear hT2 hx2 hn2 H33 HX1 HN1 HW1
  go_wp2_with fail
  refine bodyPost_ret (v := .agg #[.pointer (some ⟨p, 0, none⟩), .slice (some ⟨cb, 0, none⟩) 2 2]) (by simp [results, Try.results18, go_sem, n0p, n1p]; try rfl) rfl ?_
  exact ⟨rfl, (Below.heap_setCell _ ⟨w.heap.size, 1, none⟩ _ tb (by show tb ≠ w.heap.size; omega)).trans ((Below.heap_setCell _ ⟨w.heap.size, 0, none⟩ _ tb (by show tb ≠ w.heap.size; omega)).trans HT2.out),
    (HX.out.setCell (Or.inr (Nat.le_refl _)) _).setCell (Or.inr (Nat.le_refl _)) _⟩
theorem views19 (tb : Nat) (k : Int) (w : World) (h : w.cell? ⟨tb, 3, none⟩ = some (.int .u64 k)) : Calls Try.prog 19 #[.pointer (some ⟨tb, 0, none⟩)] w fun e w' => e = .returned (.int .u64 k) ∧ w' = w := by
  have H := hid (load34 tb 3 k w h)
  go_enter Try.func19, Try.ntmps19
  go_wp2_with fail
  refine (Hid.out H).mono ?_
  rintro e w' ⟨rfl, hw⟩
  obtain rfl := hw.symm
  go_wp2_with fail
  go_ret
  exact ⟨rfl, rfl⟩
theorem chunks20 (a b : Value) (ha : a.oneCell' = true) (hb : b.oneCell' = true) (p q : Option Addr) (n c : Nat) (e1 : a = .pointer p) (e2 : b = .slice q n c) (w : World) : Calls Try.prog 20 #[.agg #[a, b]] w fun e w' => e = .returned b ∧ Ext [] w w' := by
  subst e1 e2
  have hx : Hid (Ext [] w (w.alloc (.cells #[.pointer p, .slice q n c] 51))) := (Ext.refl [] w).alloc _
  go_enter Try.func20, Try.ntmps20
  go_wp2
  go_ret
  exact ⟨rfl, hx.out⟩
theorem root21 (a b : Value) (ha : a.oneCell' = true) (hb : b.oneCell' = true) (p q : Option Addr) (n c : Nat) (e1 : a = .pointer p) (e2 : b = .slice q n c) (w : World) : Calls Try.prog 21 #[.agg #[a, b]] w fun e w' => e = .returned a ∧ Ext [] w w' := by
  subst e1 e2
  have hx : Hid (Ext [] w (w.alloc (.cells #[.pointer p, .slice q n c] 51))) := (Ext.refl [] w).alloc _
  go_enter Try.func21, Try.ntmps21
  go_wp2
  go_ret
  exact ⟨rfl, hx.out⟩
set_option maxHeartbeats 1000000 in
set_option maxRecDepth 100000 in
theorem key24 (tb cb rb off cap : Nat) (bytes : List UInt8) (K : ByteArray) (w : World) (E : Env w tb cb rb bytes cap) (hR : RecAt bytes off K) (hK : K.size < 268435456) :
    Calls Try.prog 24 #[.slice (some ⟨cb, 0, none⟩) 2 2, .agg #[.int .u32 1, .int .u32 off]] w fun e w' => ∃ kv, e = .returned kv ∧ KeyVal w' rb kv K ∧ Below w.heap.size w w' := by
  obtain ⟨W1, hW1⟩ : ∃ W1, w.alloc (.cells #[.int .u32 1, .int .u32 (off : Int)] 42) = W1 := ⟨_, rfl⟩
  have hb1 : Below w.heap.size w W1 := by rw [← hW1]; exact (Below.refl _ _).alloc (Nat.le_refl _) _
  have x0 : W1.cell? ⟨w.heap.size, 0, none⟩ = some (.int .u32 1) := by rw [← hW1]; simp
  have x1 : W1.cell? ⟨w.heap.size, 1, none⟩ = some (.int .u32 (off : Int)) := by rw [← hW1]; simp
  have H := hid (record35 tb cb rb off cap bytes K W1 (E.below hb1) hR hK)
  have HW1 := hid hW1
  have HB1 := hid hb1
  clear E hR hK hW1 hb1
  go_enter Try.func24, Try.ntmps24
  go_wp2_with fail
  rw [HW1.out]
  refine (Hid.out H).mono ?_
  rintro e w2 ⟨kv, vv, rfl, hkv, hb2⟩
  have HKV := hid hkv
  have HB2 : Hid (Below w.heap.size w w2) := HB1.out.trans (hb2.mono HB1.out.size)
  clear hkv hb2 H x0 x1 HW1
  go_wp2_with fail
  go_ret
  exact ⟨_, rfl, HKV.out, HB2.out⟩

theorem off_lt (K : Nat → ByteArray) {i j : Nat} (h : i < j) : offOf K i < offOf K j := by
  induction j with
  | zero => omega
  | succ j ih =>
    have h1 := off_succ K j
    by_cases e : i = j
    · subst e; omega
    · have := ih (by omega); omega

set_option maxHeartbeats 2000000 in
set_option maxRecDepth 100000 in
theorem isOffset23 (ob n x : Nat) (K : Nat → ByteArray) (w : World) (ho : w.ownsRow 0 39 1 (.slice (some ⟨ob, 0, none⟩) n n) n (offCells K n n)) (hx : x < n) (hn : n ≤ 65536) :
    Calls Try.prog 23 #[.slice (some ⟨ob, 0, none⟩) n n, .int .u32 (offOf K x)] w fun e w' => e = .returned (.bool true) ∧ w' = w := by
  have HC : Hid (∀ j, j < n → w.cell? ⟨ob, j, none⟩ = some (.int .u32 (offOf K j))) := fun j hj => owns_cell ho (offCells_get K n j hj)
  have HX := hid (And.intro hx hn)
  have hni : (n : Int) ≤ 65536 := by omega
  obtain ⟨o, hoo⟩ : ∃ o, offOf K x = o := ⟨_, rfl⟩
  have HO := hid hoo
  rw [hoo]
  clear ho hx hn hoo
  go_enter Try.func23, Try.ntmps23
  go_wp2_with fail
  go_loop [5, 6] (fun s5 s6 => ∃ lo hi : Nat, s5 = .int .i64 lo ∧ s6 = .int .i64 hi ∧ lo ≤ x ∧ x ≤ hi ∧ hi ≤ n) (fun s5 s6 => (intOf s6).toNat - (intOf s5).toNat)
  case atStart => exact ⟨0, n, rfl, rfl, Nat.zero_le _, by have := HX.out; omega, Nat.le_refl _⟩
  case round =>
    obtain ⟨lo, hi, rfl, rfl, h1, h2, h3⟩ := hrel
    by_cases hlt : lo < hi
    · obtain ⟨mid, hmid⟩ : ∃ mid, lo + (hi - lo) / 2 = mid := ⟨_, rfl⟩
      have hm1 : mid < n := by omega
      have hcm := HC.out mid hm1
      obtain ⟨om, hom⟩ : ∃ om, offOf K mid = om := ⟨_, rfl⟩
      rw [hom] at hcm
      have hlt' : (lo : Int) < (hi : Int) := by omega
      have hhn : (hi : Int) ≤ (n : Int) := by omega
      have hmi : (lo : Int) + ((hi : Int) - (lo : Int)) / 2 = (mid : Int) := by omega
      have hmn : (mid : Int) < (n : Int) := by omega
      by_cases hc : om < o
      · have hc' : (om : Int) < (o : Int) := by omega
        have hmx : mid < x := by
          rcases Nat.lt_or_ge mid x with h | h
          · exact h
          · have h0 := HO.out
            rcases Nat.lt_or_ge x mid with h' | h'
            · have := off_lt K h'; omega
            · obtain rfl : mid = x := by omega
              omega
        have HR : Hid (mid + 1 ≤ x ∧ x ≤ hi ∧ hi ≤ n ∧ lo < mid + 1 ∧ lo < hi) := ⟨by omega, h2, h3, by omega, hlt⟩
        clear h1 h2 h3 hlt hmid hm1 hom hc hmx
        go_wp2_with fail
        go_round
        case measure => simp [intOf]; have := HR.out; omega
        case rel => exact ⟨mid + 1, hi, by simp, rfl, HR.out.1, HR.out.2.1, HR.out.2.2.1⟩
      · have hc' : (o : Int) ≤ (om : Int) := by omega
        have hmx : x ≤ mid := by
          rcases Nat.lt_or_ge mid x with h | h
          · have h0 := HO.out
            have := off_lt K h; omega
          · exact h
        have HR : Hid (lo ≤ x ∧ x ≤ mid ∧ mid ≤ n ∧ mid < hi ∧ lo < hi) := ⟨h1, hmx, by omega, by omega, hlt⟩
        clear h1 h2 h3 hlt hmid hm1 hom hc hmx
        go_wp2_with fail
        go_round
        case measure => simp [intOf]; have := HR.out; omega
        case rel => exact ⟨lo, mid, rfl, rfl, HR.out.1, HR.out.2.1, HR.out.2.2.1⟩
    · obtain rfl : lo = x := by omega
      have hxx := HX.out.1
      have hcm := HC.out lo hxx
      rw [HO.out] at hcm
      have hlt' : (hi : Int) ≤ (lo : Int) := by omega
      have hln : (lo : Int) < (n : Int) := by omega
      have hd : decide ((lo : Int) < (n : Int)) = true := by simpa using hln
      clear h1 h2 h3 hlt hxx
      go_wp2_with fail
      go_ret
      exact ⟨rfl, rfl⟩
end Go.Proofs.Qxb6613201a
