/- 'zzRecords'. -/
import Derived.Test.Qxb6613201aRecs
set_option linter.unusedVariables false
set_option linter.unusedSimpArgs false
namespace Go.Proofs.Qxb6613201a
open Go.RowKit

theorem owns_free {w : World} {e : TypeId} {z b n c : Nat} {xs : List Value} (h : w.ownsRow 0 e z (.slice (some ⟨b, 0, none⟩) n c) n xs) (j : Nat) : w.frozen? ⟨b, j, none⟩ = false := by
  obtain ⟨cur, hg, _⟩ := row_of h
  simp [World.frozen?, hg]
theorem owns_set {w : World} {e : TypeId} {b n c j : Nat} {xs : List Value} (h : w.ownsRow 0 e 1 (.slice (some ⟨b, 0, none⟩) n c) n xs) (hj : j < n) (v : Value) : (w.setCell ⟨b, j, none⟩ v).ownsRow 0 e 1 (.slice (some ⟨b, 0, none⟩) n c) n (xs.set j v) := by
  obtain ⟨cur, hg, h1, h2, h3, h4⟩ := row_of h
  refine ⟨by rw [List.length_set]; exact h.1, Or.inr ⟨b, c, _, rfl, Nat.zero_le _, setCell_block hg v, h1, h2, by simpa using h3, ?_⟩⟩
  rw [← h4]
  simp [List.take_set]
/-- 'make([]T, l, c)', T of one cell. -/
theorem make_own (t e : TypeId) (i : TypeInfo) (z : Value) (l c : Nat) (ht : Try.prog.underlying t = some (.slice e)) (hi : Try.prog.info? e = some i) (hz : i.zero = some z) (hzc : z.cells = #[z]) (hs : i.size = 1) (hb : i.bytes ≤ 64) (hlc : l ≤ c) (hc : c ≤ 16777216) (w : World) :
    ∃ W : World, (Instr.makeSlice t (.int .i64 l) (.int .i64 c)).run Try.prog w = .ok (.slice (some ⟨w.heap.size, 0, none⟩) l c) W ∧ W.ownsRow 0 e 1 (.slice (some ⟨w.heap.size, 0, none⟩) l c) l (List.replicate l z) ∧ Ext [] w W ∧ W.heap.size = w.heap.size + 1 := by
  have h1 : i.bytes * c ≤ 64 * 16777216 := Nat.mul_le_mul hb hc
  have hr := run_make (P := Try.prog) w t e i z ht hi hz .i64 .i64 l c (by omega) (by omega) (by rw [← Int.natCast_mul]; omega) (by omega)
  refine ⟨_, by simpa using hr, ?_, (Ext.refl [] w).alloc _, by simp⟩
  refine ⟨by simp, Or.inr ⟨w.heap.size, c, _, rfl, Nat.zero_le _, heap_alloc_new w _, hlc, by unfold maxLen; omega, by simp [size_madeCells, hs], ?_⟩⟩
  rw [hzc, hs]
  apply List.ext_getElem
  · simp [madeCells]; omega
  · intro j h1 h2
    simp [madeCells, Nat.mod_one]

/-- The keys, as the functions read them. -/
def KeysAt (w : World) (oa : Option Addr) (n : Nat) (K : Nat → ByteArray) : Prop := ∀ j, j < n → ∃ a, oa = some a ∧ w.cell? (a.add j) = some (.string (K j))
theorem KeysAt.ext {w w' : World} {oa : Option Addr} {n : Nat} {K : Nat → ByteArray} (h : KeysAt w oa n K) (hx : Ext [] w w') : KeysAt w' oa n K := fun j hj => by
  obtain ⟨a, h1, h2⟩ := h j hj
  exact ⟨a, h1, (hx.cell (p := a.add j) (World.block_lt_of_cell? _ _ h2) (by simp)).trans h2⟩

def tot (c : Nat) (K : Nat → ByteArray) : Nat → Nat
  | 0 => 0
  | i + 1 => tot c K i + (c + (K i).size)
theorem tot_mono {c : Nat} {K : Nat → ByteArray} {i n : Nat} (h : i ≤ n) : tot c K i ≤ tot c K n := by
  induction n with
  | zero => obtain rfl : i = 0 := by omega
            exact Nat.le_refl _
  | succ n ih =>
    by_cases e : i = n + 1
    · subst e; exact Nat.le_refl _
    · exact Nat.le_trans (ih (by omega)) (by simp [tot])
theorem tot_key {c : Nat} {K : Nat → ByteArray} {i n : Nat} (h : i < n) : tot c K i + (c + (K i).size) ≤ tot c K n := tot_mono (i := i + 1) h
theorem tot_diff (c e : Nat) (K : Nat → ByteArray) (n : Nat) : tot (c + e) K n = tot c K n + e * n := by
  induction n with
  | zero => simp [tot]
  | succ n ih => simp only [tot, ih, Nat.mul_add, Nat.mul_one]; omega
theorem tot_low (c : Nat) (K : Nat → ByteArray) (n : Nat) : c * n ≤ tot c K n := by
  induction n with
  | zero => simp [tot]
  | succ n ih => simp only [tot, Nat.mul_add, Nat.mul_one]; omega

def bytesOf (K : Nat → ByteArray) : Nat → List UInt8
  | 0 => []
  | i + 1 => bytesOf K i ++ recOf (K i)
def offOf (K : Nat → ByteArray) (i : Nat) : Nat := (bytesOf K i).length
theorem off_succ (K : Nat → ByteArray) (i : Nat) : offOf K (i + 1) = offOf K i + (33 + (Lib.uvarint (K i).size).length + (K i).size) := by
  simp only [offOf, bytesOf, List.length_append, recOf_len]
theorem off_le {K : Nat → ByteArray} {n : Nat} (hs : ∀ i, i < n → (K i).size < 268435456) : ∀ i, i ≤ n → offOf K i ≤ tot 52 K i := by
  intro i hi
  induction i with
  | zero => exact Nat.le_refl _
  | succ i ih =>
    have h1 := ih (by omega)
    have h2 := Lib.uvarint_length64 (x := (K i).size) (by have := hs i (by omega); omega)
    rw [off_succ, tot]
    omega
theorem bytes_rec (K : Nat → ByteArray) {i n : Nat} (h : i < n) : RecAt (bytesOf K n) (offOf K i) (K i) := by
  induction n with
  | zero => omega
  | succ n ih =>
    by_cases e : i = n
    · subst e
      exact ⟨[], by simp [bytesOf, offOf]⟩
    · obtain ⟨rest, hr⟩ := ih (by omega)
      have hl : offOf K i ≤ (bytesOf K n).length := by
        have := congrArg List.length hr
        rw [List.length_drop, List.length_append, recOf_len] at this
        omega
      exact ⟨rest ++ recOf (K n), by rw [bytesOf, List.drop_append_of_le_length hl, hr]; simp⟩
/-- The offsets, as far as they are written. -/
def offCells (K : Nat → ByteArray) (n i : Nat) : List Value := (List.range n).map fun j => .int .u32 (if j < i then (offOf K j : Nat) else (0 : Nat) : Nat)
theorem offCells_zero (K : Nat → ByteArray) (n : Nat) : offCells K n 0 = List.replicate n (.int .u32 0) := by
  apply List.ext_getElem
  · simp [offCells]
  · intro j h1 h2; simp [offCells]
theorem offCells_set (K : Nat → ByteArray) (n i : Nat) (h : i < n) : (offCells K n i).set i (.int .u32 (offOf K i)) = offCells K n (i + 1) := by
  apply List.ext_getElem
  · simp [offCells]
  · intro j h1 h2
    rw [List.getElem_set]
    by_cases e : i = j
    · subst e; simp [offCells]
    · rw [if_neg e]
      simp only [offCells, List.getElem_map, List.getElem_range]
      by_cases h3 : j < i
      · simp [h3, show j < i + 1 by omega]
      · simp [h3, show ¬ j < i + 1 by omega]
theorem offCells_get (K : Nat → ByteArray) (n j : Nat) (h : j < n) : (offCells K n n)[j]? = some (.int .u32 (offOf K j)) := by simp [offCells, h]

/-- What 'zzRecords' leaves. -/
def RecsOut (K : Nat → ByteArray) (n : Nat) (w w' : World) (rb ob : Nat) : Prop :=
  w'.ownsRow 0 5 1 (.slice (some ⟨rb, 0, none⟩) (offOf K n) (tot 52 K n)) (offOf K n) (u8Cells (bytesOf K n)) ∧ w'.ownsRow 0 39 1 (.slice (some ⟨ob, 0, none⟩) n n) n (offCells K n n) ∧ Ext [] w w' ∧ w.heap.size ≤ rb ∧ w.heap.size ≤ ob ∧ rb ≠ ob

set_option maxHeartbeats 4000000 in
set_option maxRecDepth 100000 in
theorem records25 (oa : Option Addr) (n c0 : Nat) (K : Nat → ByteArray) (w : World) (hk : KeysAt w oa n K) (ht : tot 16 K n ≤ 1048576) :
    Calls Try.prog 25 #[.slice oa n c0] w fun e w' => ∃ rb ob, e = .returned (.tuple #[.slice (some ⟨rb, 0, none⟩) (offOf K n) (tot 52 K n), .slice (some ⟨ob, 0, none⟩) n n]) ∧ RecsOut K n w w' rb ob := by
  have hn : n ≤ 65536 := by have := tot_low 16 K n; omega
  have hks : ∀ i, i < n → (K i).size ≤ 1048576 := fun i hi => by have := tot_key (c := 16) (K := K) hi; omega
  have ht52 : tot 52 K n ≤ 3407872 := by rw [show 52 = 16 + 36 from rfl, tot_diff]; omega
  have HK := hid hk
  have HT := hid ht52
  have HKS := hid hks
  clear hk hks ht ht52
  go_enter Try.func25, Try.ntmps25
  go_wp2
  go_loop [4, 5] (fun s4 s5 => ∃ i : Nat, s4 = .int .i64 (tot 52 K i : Nat) ∧ s5 = .int .i64 i ∧ i ≤ n) (fun s4 s5 => n - (intOf s5).toNat)
  case atStart => exact ⟨0, rfl, rfl, Nat.zero_le _⟩
  case round =>
    obtain ⟨i, rfl, rfl, hin⟩ := hrel
    by_cases hlt : i < n
    · obtain ⟨ka, rfl, hc⟩ := HK.out i hlt
      have h1 := tot_key (c := 52) (K := K) hlt
      have h2 := HT.out
      have h3 := HKS.out i hlt
      have hsucc : tot 52 K (i + 1) = tot 52 K i + (52 + (K i).size) := rfl
      have HS := hid hsucc
      clear hsucc
      have hlt' : (i : Int) < (n : Int) := by omega
      go_wp2
      go_round
      case measure => simp [intOf]; omega
      case rel => exact ⟨i + 1, by rw [HS.out]; simp, by simp, by omega⟩
    · obtain rfl : n = i := by omega
      obtain ⟨cap, hcap⟩ : ∃ cap, tot 52 K n = cap := ⟨_, rfl⟩
      rw [hcap] at HT
      have HCAP := hid hcap
      obtain ⟨i0, hi0, hz0, hzs, hzb⟩ := info_parts info5
      obtain ⟨j0, hj0, jz0, jzs, jzb⟩ := info_parts info39
      have ht := HT.out
      obtain ⟨W1, hmk1, ho1, hx1, hz1⟩ := make_own 58 5 i0 _ 0 cap Try.underlying58 hi0 hz0 rfl hzs (by omega) (by omega) (by omega) w
      obtain ⟨W2, hmk2, ho2, hx2, hz2⟩ := make_own 29 39 j0 _ n n Try.underlying29 hj0 jz0 rfl jzs (by omega) (by omega) (by omega) W1
      obtain ⟨rb, hrb⟩ : ∃ rb, w.heap.size = rb := ⟨_, rfl⟩
      obtain ⟨ob, hob⟩ : ∃ ob, W1.heap.size = ob := ⟨_, rfl⟩
      rw [hrb] at hmk1 ho1
      rw [hob] at hmk2 ho2
      replace hmk1 : (Instr.makeSlice 58 (.int .i64 0) (.int .i64 (cap : Int))).run Try.prog w = .ok (.slice (some ⟨rb, 0, none⟩) 0 cap) W1 := hmk1
      have HB : Hid (w.heap.size = rb ∧ ob = rb + 1) := ⟨hrb, by omega⟩
      have h0 : Hid (W2.ownsRow 0 5 1 (.slice (some ⟨rb, 0, none⟩) 0 cap) 0 (u8Cells (bytesOf K 0)) ∧ W2.ownsRow 0 39 1 (.slice (some ⟨ob, 0, none⟩) n n) n (offCells K n 0) ∧ Ext [] w W2) :=
        ⟨owns_same ho1 (hx2.block rb (by omega) (by simp)), by rw [offCells_zero]; exact ho2, hx1.trans hx2⟩
      clear hcap hrb hob hi0 hz0 hzs hzb hj0 jz0 jzs jzb ho1 hx1 hz1 ho2 hx2 hz2 ht
      rw [HCAP.out]
      go_wp2_with fail
      go_loopw [6, 8] (fun s6 s8 wr => ∃ i : Nat, s6 = .slice (some ⟨rb, 0, none⟩) (offOf K i) cap ∧ s8 = .int .i64 i ∧ i ≤ n ∧ Hid (wr.ownsRow 0 5 1 (.slice (some ⟨rb, 0, none⟩) (offOf K i) cap) (offOf K i) (u8Cells (bytesOf K i)) ∧ wr.ownsRow 0 39 1 (.slice (some ⟨ob, 0, none⟩) n n) n (offCells K n i) ∧ Ext [] w wr))
        (fun s6 s8 _ => n - (intOf s8).toNat)
      case atStart => exact ⟨0, rfl, rfl, Nat.zero_le _, h0.out⟩
      case round =>
        obtain ⟨i, rfl, rfl, hin, hR⟩ := hrel
        rename World => w1
        by_cases hlt : i < n
        · obtain ⟨ka, rfl, hc⟩ := (HK.out.ext hR.out.2.2) i hlt
          obtain ⟨o, ho⟩ : ∃ o, offOf K i = o := ⟨_, rfl⟩
          have hks := HKS.out i hlt
          have hfit : o + (33 + (Lib.uvarint (K i).size).length + (K i).size) ≤ cap := by
            rw [← ho, ← off_succ, ← HCAP.out]
            exact Nat.le_trans (off_le (n := n) (fun i hi => by have := HKS.out i hi; omega) (i + 1) (by omega)) (tot_mono (by omega))
          have hu := Lib.uvarint_pos (K i).size
          obtain ⟨r1, r2, r3⟩ := hR.out
          have hb := HB.out
          have hct := HT.out
          rw [ho] at r1
          have hoc : w1.cell? ⟨ob, i, none⟩ = some (.int .u32 0) := owns_cell r2 (by simp [offCells, hlt])
          have hof := owns_free r2 i
          obtain ⟨W3, hW3⟩ : ∃ W3, w1.setCell ⟨ob, i, none⟩ (.int .u32 (o : Int)) = W3 := ⟨_, rfl⟩
          have hx3 : Ext [ob] w1 W3 := by rw [← hW3]; exact (Ext.refl [ob] w1).setCell (Or.inl (by simp)) _
          have hoff3 : W3.ownsRow 0 39 1 (.slice (some ⟨ob, 0, none⟩) n n) n (offCells K n (i + 1)) := by rw [← hW3, ← offCells_set K n i hlt, ho]; exact owns_set r2 hlt _
          have hrec3 : W3.ownsRow 0 5 1 (.slice (some ⟨rb, 0, none⟩) o cap) o (u8Cells (bytesOf K i)) := owns_same r1 (hx3.block rb (owns_lt r1) (by simp; omega))
          have H3 := hid (And.intro hoff3 (And.intro hrec3 hx3))
          have HO := hid ho
          have HW3 := hid hW3
          have hFIT := hid hfit
          have hR3 := hid r3
          have ho32 : (o : Int) < 4294967296 := by omega
          rw [ho]
          clear hR h0 r1 r2 r3 hb hct hx3 hoff3 hrec3 ho hW3 hfit hu
          have hlt' : (i : Int) < (n : Int) := by omega
          go_wp2_with fail
          rw [HW3.out]
          clear hoc hof HW3 hmk1 hmk2
          go_loopw [6, 9] (fun s6 s9 wz => ∃ j : Nat, s6 = .slice (some ⟨rb, 0, none⟩) (o + j) cap ∧ s9 = .int .i64 j ∧ j ≤ 32 ∧ Hid (wz.ownsRow 0 5 1 (.slice (some ⟨rb, 0, none⟩) (o + j) cap) (o + j) (u8Cells (bytesOf K i ++ List.replicate j 0)) ∧ Ext [rb] W3 wz))
            (fun s6 s9 _ => 32 - (intOf s9).toNat)
          case atStart => exact ⟨0, rfl, rfl, by omega, by simpa using H3.out.2.1, Ext.refl _ _⟩
          case round =>
            obtain ⟨j, rfl, rfl, hj, hz⟩ := hrel
            rename World => wz
            by_cases hj' : j < 32
            · have hfit := hFIT.out
              obtain ⟨W, hap, ho', hx'⟩ := push1 hz.out.1 (show o + j < cap by omega) 0
              have HAP : Hid (∀ ty, (Builtin.append_ #[58, 58] ty #[.slice (some ⟨rb, 0, none⟩) (o + j) cap, .slice (some ⟨wz.heap.size, 0, none⟩) 1 1]).run Try.prog (wz.alloc (.cells #[.int .u8 0] 5)) = .ok (.slice (some ⟨rb, 0, none⟩) (o + j + 1) cap) W) := hap
              have HE : Hid (W.ownsRow 0 5 1 (.slice (some ⟨rb, 0, none⟩) (o + (j + 1)) cap) (o + (j + 1)) (u8Cells (bytesOf K i ++ List.replicate (j + 1) 0)) ∧ Ext [rb] W3 W) :=
                ⟨by rw [List.replicate_succ', ← List.append_assoc]; exact ho', hz.out.2.trans hx'⟩
              have hji : (j : Int) < 32 := by omega
              have HJ := hid hj'
              clear hap ho' hx' hfit hz hj hj' hks hc hin hlt hlt' ho32 hn
              go_wp2_with (first | (at_builtin; refine wpList_append_run _ rfl (.tmp 45) (.tmp 46) 58 58 rfl _ _ rfl rfl (HAP.out _) ?_))
              go_roundw
              case measure => simp [intOf]; have := HJ.out; omega
              case rel => exact ⟨j + 1, rfl, by simp, HJ.out, HE.out⟩
            · obtain rfl : j = 32 := by omega
              obtain ⟨z1, z2⟩ := hz.out
              have hfit := hFIT.out
              have hu := Lib.uvarint_pos (K i).size
              obtain ⟨s, hs⟩ : ∃ s, (K i).size = s := ⟨_, rfl⟩
              have hks' := hks
              rw [hs] at hks' hfit hu
              have H1 := hid (put36 rb (o + 32) cap s (bytesOf K i ++ List.replicate 32 0) wz z1 (by omega) (by omega))
              obtain ⟨L, hL⟩ : ∃ L, (Lib.uvarint s).length = L := ⟨_, rfl⟩
              rw [hL] at H1 hfit
              have hb := HB.out
              have x1 : Ext [rb, ob] w1 wz := (H3.out.2.2.mono (by simp)).trans (z2.mono (by simp))
              have hkB : (ka.add i).block < w.heap.size := by
                obtain ⟨ka', e, h⟩ := HK.out i hlt
                obtain rfl := Option.some.inj e
                exact World.block_lt_of_cell? _ _ h
              have hR3s := hR3.out.size
              have hkc : wz.cell? (ka.add i) = some (.string (K i)) := (x1.cell (p := ka.add i) (by omega) (by simp; omega)).trans hc
              have HKC := hid (And.intro hc hkB)
              have HX1 := hid x1
              have HY1 := hid z2
              have hs64 : (s : Int) < 9223372036854775808 := by omega
              have HS := hid hs
              have HL := hid hL
              clear z1 z2 hz hfit hu hb x1 hc hks hL hkB hR3s
              go_wp2_with fail
              refine (Hid.out H1).mono ?_
              rintro e w4 ⟨rfl, p1, p2⟩
              have hfit := hFIT.out
              rw [HS.out, HL.out] at hfit
              have hb := HB.out
              have x2 : Ext [rb, ob] w1 w4 := HX1.out.trans (p2.mono (by simp))
              have hR3s := hR3.out.size
              have hkB := HKC.out.2
              have hkc4 : w4.cell? (ka.add i) = some (.string (K i)) := (x2.cell (p := ka.add i) (by omega) (by simp; omega)).trans HKC.out.1
              have H2 := hid (put36 rb (o + 32 + L) cap 0 _ w4 p1 (by omega) (by rw [Lib.uvarint_small (by omega)]; simp; omega))
              rw [Lib.uvarint_small (x := 0) (by omega)] at H2
              have HX2 := hid x2
              have HY2 : Hid (Ext [rb] W3 w4) := HY1.out.trans p2
              clear H1 p1 p2 hb x2 hR3s hkB hkc hfit hs
              go_wp2_with fail
              refine (Hid.out H2).mono ?_
              rintro e w5 ⟨rfl, p1, p2⟩
              have hfit := hFIT.out
              rw [HS.out, HL.out] at hfit
              have hb := HB.out
              have x3 : Ext [rb, ob] w1 w5 := HX2.out.trans (p2.mono (by simp))
              have hR3s := hR3.out.size
              have hkB := HKC.out.2
              have hkc5 : w5.cell? (ka.add i) = some (.string (K i)) := (x3.cell (p := ka.add i) (by omega) (by simp; omega)).trans HKC.out.1
              obtain ⟨i1, hi1, hz1, hzs1, hzb1⟩ := info_parts info5
              obtain ⟨W6, hap, q1, q2⟩ := appendRow 58 9 5 i1 Try.underlying58 hi1 hzs1 p1 (Src.ofString w5 Try.underlying9 (K i)) (by rw [HS.out]; simp; omega)
              have HAP := hid hap
              have hoff : offOf K (i + 1) = o + 32 + L + [Nat.toUInt8 0].length + (K i).size := by rw [off_succ, HO.out, HS.out, HL.out]; simp; omega
              have x4 : Ext [rb, ob] w1 W6 := x3.trans (q2.mono (by simp))
              have HE : Hid (W6.ownsRow 0 5 1 (.slice (some ⟨rb, 0, none⟩) (offOf K (i + 1)) cap) (offOf K (i + 1)) (u8Cells (bytesOf K (i + 1))) ∧ W6.ownsRow 0 39 1 (.slice (some ⟨ob, 0, none⟩) n n) n (offCells K n (i + 1)) ∧ Ext [] w W6) := by
                refine ⟨?_, ?_, ?_⟩
                · rw [hoff]
                  have e1 : u8Cells (bytesOf K i ++ List.replicate 32 0 ++ Lib.uvarint s ++ [Nat.toUInt8 0]) ++ byteCells (K i) = u8Cells (bytesOf K (i + 1)) := by
                    simp [u8Cells, bytesOf, recOf, byteCells, HS.out]
                  rw [← e1]; exact q1
                · have y4 : Ext [rb] W3 W6 := (HY2.out.trans p2).trans q2
                  exact owns_same H3.out.1 (y4.block ob (owns_lt H3.out.1) (by simp; omega))
                · exact hR3.out.trans' x4 (fun x hx => Or.inr (by simp at hx; omega))
              have HOFF := hid hoff
              clear hap q1 q2 hoff x4 hi1 hz1 hzs1 hzb1 H2 p1 p2 hb x3 hR3s hkB hkc4 hfit HX1 HX2
              go_wp2_with (first | (at_builtin; refine wpList_append_run _ rfl (.tmp 58) (.tmp 62) 58 9 rfl _ _ rfl rfl (HAP.out _) ?_))
              go_roundw
              case measure => simp [intOf]; omega
              case rel => exact ⟨i + 1, by rw [HOFF.out]; rfl, by simp, by omega, HE.out⟩
        · obtain rfl : n = i := by omega
          have HE : Hid (RecsOut K n w w1 rb ob) := by
            have := HB.out
            show RecsOut K n w w1 rb ob
            unfold RecsOut
            rw [HCAP.out]
            exact ⟨hR.out.1, hR.out.2.1, hR.out.2.2, by omega, by omega, by omega⟩
          go_wp2_with fail
          go_ret2
          exact ⟨rb, ob, by rw [HCAP.out]; rfl, HE.out⟩
end Go.Proofs.Qxb6613201a
