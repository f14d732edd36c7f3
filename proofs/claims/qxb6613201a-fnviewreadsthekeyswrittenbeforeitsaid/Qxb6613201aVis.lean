/- What 'zzVisit' gathers, and how it grows; the small readers. -/
import Derived.Test.Qxb6613201aBytes
import Derived.Lib.SmallJoins
import Derived.ArgAppend
set_option linter.unusedVariables false
set_option linter.unusedSimpArgs false
namespace Go.Proofs.Qxb6613201a
open Go.RowKit

def blk : Option Addr → List Nat
  | none => []
  | some a => [a.block]

theorem owns_base {w : World} {B e z n : Nat} {v : Value} {xs : List Value} (h : w.ownsRow B e z v n xs) : w.ownsRow 0 e z v n xs := by
  obtain ⟨h1, h2 | ⟨g, cap, cur, he, h0, hr⟩⟩ := h
  · exact ⟨h1, Or.inl h2⟩
  · exact ⟨h1, Or.inr ⟨g, cap, cur, he, Nat.zero_le _, hr⟩⟩
theorem owns_blk {w : World} {B e z n n' c : Nat} {ra : Option Addr} {xs : List Value} (h : w.ownsRow B e z (.slice ra n' c) n xs) : ∀ k ∈ blk ra, B ≤ k ∧ k < w.heap.size := by
  intro k hk
  cases ra with
  | none => cases hk
  | some a =>
    simp only [blk, List.mem_singleton] at hk
    subst hk
    exact h.lt _ rfl
theorem owns_keep {w w' : World} {B e z n n' c : Nat} {ra : Option Addr} {xs : List Value} (h : w.ownsRow B e z (.slice ra n' c) n xs) (hb : ∀ k ∈ blk ra, w'.heap[k]? = w.heap[k]?) : w'.ownsRow B e z (.slice ra n' c) n xs := by
  obtain ⟨h1, h2 | ⟨g, cap, cur, he, h0, hg, hr⟩⟩ := h
  · exact ⟨h1, Or.inl h2⟩
  · refine ⟨h1, Or.inr ⟨g, cap, cur, he, h0, ?_, hr⟩⟩
    simp only [Value.slice.injEq] at he
    obtain ⟨rfl, _, _⟩ := he
    rw [hb g (by simp [blk])]; exact hg

/-- append of one element, wherever it goes. -/
theorem grow1 (t e : TypeId) (i : TypeInfo) (z : Value) (size bytes : Nat) (ht : Try.prog.underlying t = some (.slice e)) (hi : Try.prog.info? e = some i) (hz : i.zero = some z) (hsize : i.size = size) (hby : i.bytes = bytes) (hzs : z.cells.size = size) (hsz : 0 < size) (hb : bytes ≤ 64)
    {B n rc : Nat} {w : World} {ra : Option Addr} {xs : List Value} (ho : w.ownsRow B e size (.slice ra n rc) n xs) (hB : B ≤ w.heap.size) (news : List Value) (hl : news.length = size) (h1 : ∀ u ∈ news, u.oneCell' = true) (hn : n ≤ 131072) (ty : TypeId) :
    ∃ ra' rc' W', (Builtin.append_ #[t, t] ty #[.slice ra n rc, .slice (some ⟨w.heap.size, 0, none⟩) 1 1]).run Try.prog (w.alloc (.cells news.toArray e)).drew = .ok (.slice ra' (n + 1) rc') W' ∧ W'.ownsRow B e size (.slice ra' (n + 1) rc') (n + 1) (xs ++ news) ∧ Ext (blk ra) w W' ∧ (∀ k ∈ blk ra', k ∈ blk ra ∨ w.heap.size ≤ k) := by
  have hx0 : Ext [] w (w.alloc (.cells news.toArray e)).drew := ((Ext.refl [] w).alloc _).drew
  obtain ⟨W, hW⟩ : ∃ W, (w.alloc (.cells news.toArray e)).drew = W := ⟨_, rfl⟩
  have hnew : W.heap[w.heap.size]? = some (.cells news.toArray e (0, 0)) := by rw [← hW]; exact heap_alloc_new w _
  rw [hW] at hx0 ⊢
  have hnews : ∀ j u, news[j]? = some u → W.cell? ((⟨w.heap.size, 0, none⟩ : Addr).add j) = some u := fun j u hj => by
    rw [Addr.add_lit, Nat.zero_add]
    exact cell_row hnew hj
  have hm : n + 1 ≤ maxLen := by unfold maxLen; omega
  have hbytes : (n + 1) * bytes ≤ 140737488355328 := by
    have : (n + 1) * bytes ≤ 131073 * 64 := Nat.mul_le_mul (by omega) hb
    omega
  have hlb := owns_blk ho
  have hoW : W.ownsRow B e size (.slice ra n rc) n xs := owns_keep ho (fun k hk => hx0.block k (hlb k hk).2 (by simp))
  have hz0 := hx0.size
  have fresh : ∀ (v' : Value) (W' : World), W'.ownsRow W.heap.size e size v' (n + 1) (xs ++ news) → W.grownBy W' none → ∃ ra' rc', v' = .slice ra' (n + 1) rc' ∧ W'.ownsRow B e size (.slice ra' (n + 1) rc') (n + 1) (xs ++ news) ∧ Ext (blk ra) w W' ∧ (∀ k ∈ blk ra', k ∈ blk ra ∨ w.heap.size ≤ k) := by
    intro v' W' hr hg
    obtain ⟨hr1, h2 | ⟨g, cap, cur, he, h0, hrest⟩⟩ := hr
    · omega
    · refine ⟨some ⟨g, 0, none⟩, cap, he, ⟨hr1, Or.inr ⟨g, cap, cur, rfl, by omega, hrest⟩⟩, ((hx0.grown hg (by simp)).mono (by simp)), fun k hk => Or.inr ?_⟩
      simp only [blk, List.mem_singleton] at hk
      rw [hk]
      omega
  cases ra with
  | none =>
    obtain ⟨rfl, rfl⟩ : n = 0 ∧ rc = 0 := by
      obtain ⟨_, h2 | ⟨g, cap, cur, he, _⟩⟩ := ho
      · simp at h2; exact ⟨h2.2, h2.1.2⟩
      · simp at he
    obtain rfl : xs = [] := by have := ho.1; simp at this; exact this
    obtain ⟨v', W', hrun, hr, hg, _⟩ := run_append_own (P := Try.prog) W W.heap.size t ty e i z size bytes ht hi hz hsize hby hzs hsz (.slice none 0 0) 0 [] (World.ownsRow_nil W _ e size) ⟨w.heap.size, 0, none⟩ 1 1 news (by omega) hnews h1 hm hbytes (Nat.le_refl _)
    obtain ⟨ra', rc', rfl, h2, h3, h4⟩ := fresh v' W' hr hg
    exact ⟨ra', rc', W', hrun, h2, h3, h4⟩
  | some a =>
    obtain ⟨g, hg0, hBg⟩ : ∃ g, a = ⟨g, 0, none⟩ ∧ B ≤ g := by
      obtain ⟨_, h2 | ⟨g, cap, cur, he, h0, _⟩⟩ := ho
      · simp at h2
      · simp only [Value.slice.injEq, Option.some.injEq] at he; exact ⟨g, he.1, h0⟩
    subst hg0
    obtain ⟨cur, hg, r1, r2, r3, r4⟩ := row_of (owns_base hoW)
    by_cases hroom : n < rc
    · have hs : Src Try.prog i.size t (.slice (some ⟨w.heap.size, 0, none⟩) 1 1) 1 news W := Src.ofSlice W ht _ 1 1 news (by omega) hnews h1
      have hrun := run_append_src_row (P := Try.prog) W t t ty e i ht hi g n rc cur hg _ 1 news hs (by omega) (by rw [hsize, hl, r3, ← Nat.succ_mul]; exact Nat.mul_le_mul_right _ hroom)
      rw [hsize] at hrun
      refine ⟨_, _, _, hrun, ⟨by rw [List.length_append, ho.1, hl, Nat.succ_mul], Or.inr ⟨g, rc, _, rfl, hBg, setRow_heap _ _ _ _ e _ hg, by omega, r2, ?_, ?_⟩⟩, (hx0.mono (by simp)).setRow (Or.inl (by simp [blk])) _, fun k hk => Or.inl hk⟩
      · have : n * size + size ≤ cur.size := by rw [r3, ← Nat.succ_mul]; exact Nat.mul_le_mul_right _ hroom
        simp; omega
      · have hle : n * size + size ≤ cur.size := by rw [r3, ← Nat.succ_mul]; exact Nat.mul_le_mul_right _ hroom
        rw [List.toList_toArray, List.take_left' (by rw [List.length_append, List.length_take, hl, Array.length_toList, Nat.succ_mul]; omega), r4]
    · obtain ⟨v', W', hrun, hr, hg'⟩ := run_append_arg_grows (P := Try.prog) W t ty e i z size bytes ht hi hz hsize hby hzs hsz ⟨g, 0, none⟩ n rc xs ho.1 (fun j u hj => by rw [Addr.add_lit, Nat.zero_add]; exact owns_cell (owns_base hoW) hj) ⟨w.heap.size, 0, none⟩ 1 1 news (by omega) hnews (by omega) hm hbytes
      obtain ⟨ra', rc', rfl, h2, h3, h4⟩ := fresh v' W' hr hg'
      exact ⟨ra', rc', W', hrun, h2, h3, h4⟩

/-- The walker at block zb. -/
structure Vis (B : Nat) (w : World) (off : Nat → Nat) (zb : Nat) (ra ca ba : Option Addr) (rc cc bc : Nat) (ld : Int) (ks cuts : List Nat) (bds : List ByteArray) : Prop where
  here : w.heap[zb]? = some (.cells #[.slice ra ks.length rc, .int .i64 ld, .slice ca cuts.length cc, .slice ba bds.length bc, .bool true] 34 (0, 0))
  rr : w.ownsRow B 42 2 (.slice ra ks.length rc) ks.length (refCells off ks)
  rcu : w.ownsRow B 3 1 (.slice ca cuts.length cc) cuts.length (intCells cuts)
  rbo : w.ownsRow B 9 1 (.slice ba bds.length bc) bds.length (strCells bds)
  low : B ≤ zb
  zr : zb ∉ blk ra
  zc : zb ∉ blk ca
  zo : zb ∉ blk ba
  d1 : ∀ k ∈ blk ra, k ∉ blk ca
  d2 : ∀ k ∈ blk ra, k ∉ blk ba
  d3 : ∀ k ∈ blk ca, k ∉ blk ba

theorem Vis.keep {B : Nat} {w w' : World} {off : Nat → Nat} {zb : Nat} {ra ca ba : Option Addr} {rc cc bc : Nat} {ld : Int} {ks cuts : List Nat} {bds : List ByteArray} (h : Vis B w off zb ra ca ba rc cc bc ld ks cuts bds) (hx : Ext [] w w') : Vis B w' off zb ra ca ba rc cc bc ld ks cuts bds :=
  { h with
    here := (hx.block zb (lt_of_block h.here) (by simp)).trans h.here
    rr := owns_keep h.rr (fun k hk => hx.block k (owns_blk h.rr k hk).2 (by simp))
    rcu := owns_keep h.rcu (fun k hk => hx.block k (owns_blk h.rcu k hk).2 (by simp))
    rbo := owns_keep h.rbo (fun k hk => hx.block k (owns_blk h.rbo k hk).2 (by simp)) }

theorem refCells_snoc (off : Nat → Nat) (ks : List Nat) (k : Nat) : refCells off ks ++ [.int .u32 1, .int .u32 (off k)] = refCells off (ks ++ [k]) := by simp [refCells]
theorem intCells_snoc (ks : List Nat) (k : Nat) : intCells ks ++ [.int .i64 (k : Int)] = intCells (ks ++ [k]) := by simp [intCells]
theorem strCells_snoc (ks : List ByteArray) (k : ByteArray) : strCells ks ++ [.string k] = strCells (ks ++ [k]) := by simp [strCells]

theorem Vis.pushR {B : Nat} {w : World} {off : Nat → Nat} {zb : Nat} {ra ca ba : Option Addr} {rc cc bc : Nat} {ld : Int} {ks cuts : List Nat} {bds : List ByteArray} (h : Vis B w off zb ra ca ba rc cc bc ld ks cuts bds) (hn : ks.length ≤ 131072) (x : Nat) :
    ∃ a' c' W', (Builtin.append_ #[32, 32] 32 #[.slice ra ks.length rc, .slice (some ⟨w.heap.size, 0, none⟩) 1 1]).run Try.prog (w.alloc (.cells #[.int .u32 1, .int .u32 (off x)] 42)).drew = .ok (.slice a' (ks.length + 1) c') W' ∧ W'.cell? ⟨zb, 0, none⟩ = some (.slice ra ks.length rc) ∧ W'.frozen? ⟨zb, 0, none⟩ = false ∧
      Vis B (W'.setCell ⟨zb, 0, none⟩ (.slice a' (ks.length + 1) c')) off zb a' ca ba c' cc bc ld (ks ++ [x]) cuts bds ∧ Below B w (W'.setCell ⟨zb, 0, none⟩ (.slice a' (ks.length + 1) c')) := by
  obtain ⟨i0, hi0, hz0, hzs, hzb⟩ := info_parts info42
  have hBw : B ≤ w.heap.size := Nat.le_of_lt (Nat.lt_of_le_of_lt h.low (lt_of_block h.here))
  obtain ⟨a', c', W', hrun, ho, hx, hf⟩ := grow1 32 42 i0 _ 2 _ Try.underlying32 hi0 hz0 hzs hzb rfl (by decide) (by decide) h.rr hBw [.int .u32 1, .int .u32 (off x)] rfl (by intro u hu; simp at hu; first | (rw [hu]; rfl) | (rcases hu with rfl | rfl <;> rfl)) hn 32
  have hzl := lt_of_block h.here
  have hW : W'.heap[zb]? = some (.cells #[.slice ra ks.length rc, .int .i64 ld, .slice ca cuts.length cc, .slice ba bds.length bc, .bool true] 34 (0, 0)) := (hx.block zb hzl h.zr).trans h.here
  have hlr := owns_blk h.rr
  have hlc := owns_blk h.rcu
  have hlb := owns_blk h.rbo
  have hset := setCell_block (j := 0) hW (.slice a' (ks.length + 1) c')
  have hz' : zb ∉ blk a' := fun hh => by rcases hf _ hh with h1 | h1; exact h.zr h1; omega
  have hsame : ∀ k, k ≠ zb → (W'.setCell ⟨zb, 0, none⟩ (.slice a' (ks.length + 1) c')).heap[k]? = W'.heap[k]? := fun k hk => Below.heap_setCell W' ⟨zb, 0, none⟩ _ k hk
  refine ⟨a', c', W', hrun, by simp [World.cell?, hW], by simp [World.frozen?, hW], ?_, ?_⟩
  · have hl : (ks ++ [x]).length = ks.length + 1 := by simp
    refine ⟨by rw [hl]; exact hset, by rw [hl, ← refCells_snoc]; exact owns_keep ho (fun k hk => hsame k (fun e => by subst e; exact hz' hk)), owns_keep h.rcu (fun k hk => (hsame k (fun e => by subst e; exact h.zc hk)).trans (hx.block k (hlc k hk).2 (fun h' => h.d1 k h' hk))), owns_keep h.rbo (fun k hk => (hsame k (fun e => by subst e; exact h.zo hk)).trans (hx.block k (hlb k hk).2 (fun h' => h.d2 k h' hk))), h.low, hz', h.zc, h.zo, fun k hk hk' => by rcases hf k hk with h1 | h1; exact h.d1 k h1 hk'; have := (hlc k hk').2; omega, fun k hk hk' => by rcases hf k hk with h1 | h1; exact h.d2 k h1 hk'; have := (hlb k hk').2; omega, h.d3⟩
  · have hx' : Ext (zb :: blk ra) w (W'.setCell ⟨zb, 0, none⟩ (.slice a' (ks.length + 1) c')) := (hx.mono (fun k hk => List.mem_cons_of_mem _ hk)).setCell (Or.inl (by simp)) _
    exact hx'.belowB hBw (fun k hk => by
      rcases List.mem_cons.1 hk with rfl | hk
      · exact h.low
      · exact (owns_blk h.rr k hk).1)

theorem Vis.pushC {B : Nat} {w : World} {off : Nat → Nat} {zb : Nat} {ra ca ba : Option Addr} {rc cc bc : Nat} {ld : Int} {ks cuts : List Nat} {bds : List ByteArray} (h : Vis B w off zb ra ca ba rc cc bc ld ks cuts bds) (hn : cuts.length ≤ 131072) (x : Nat) :
    ∃ a' c' W', (Builtin.append_ #[25, 25] 25 #[.slice ca cuts.length cc, .slice (some ⟨w.heap.size, 0, none⟩) 1 1]).run Try.prog (w.alloc (.cells #[.int .i64 (x : Int)] 3)).drew = .ok (.slice a' (cuts.length + 1) c') W' ∧ W'.cell? ⟨zb, 2, none⟩ = some (.slice ca cuts.length cc) ∧ W'.frozen? ⟨zb, 2, none⟩ = false ∧
      Vis B (W'.setCell ⟨zb, 2, none⟩ (.slice a' (cuts.length + 1) c')) off zb ra a' ba rc c' bc ld ks (cuts ++ [x]) bds ∧ Below B w (W'.setCell ⟨zb, 2, none⟩ (.slice a' (cuts.length + 1) c')) := by
  obtain ⟨i0, hi0, hz0, hzs, hzb⟩ := info_parts info3
  have hBw : B ≤ w.heap.size := Nat.le_of_lt (Nat.lt_of_le_of_lt h.low (lt_of_block h.here))
  obtain ⟨a', c', W', hrun, ho, hx, hf⟩ := grow1 25 3 i0 _ 1 _ Try.underlying25 hi0 hz0 hzs hzb rfl (by decide) (by decide) h.rcu hBw [.int .i64 (x : Int)] rfl (by intro u hu; simp at hu; first | (rw [hu]; rfl) | (rcases hu with rfl | rfl <;> rfl)) hn 25
  have hzl := lt_of_block h.here
  have hW : W'.heap[zb]? = some (.cells #[.slice ra ks.length rc, .int .i64 ld, .slice ca cuts.length cc, .slice ba bds.length bc, .bool true] 34 (0, 0)) := (hx.block zb hzl h.zc).trans h.here
  have hlr := owns_blk h.rr
  have hlc := owns_blk h.rcu
  have hlb := owns_blk h.rbo
  have hset := setCell_block (j := 2) hW (.slice a' (cuts.length + 1) c')
  have hz' : zb ∉ blk a' := fun hh => by rcases hf _ hh with h1 | h1; exact h.zc h1; omega
  have hsame : ∀ k, k ≠ zb → (W'.setCell ⟨zb, 2, none⟩ (.slice a' (cuts.length + 1) c')).heap[k]? = W'.heap[k]? := fun k hk => Below.heap_setCell W' ⟨zb, 2, none⟩ _ k hk
  refine ⟨a', c', W', hrun, by simp [World.cell?, hW], by simp [World.frozen?, hW], ?_, ?_⟩
  · have hl : (cuts ++ [x]).length = cuts.length + 1 := by simp
    refine ⟨by rw [hl]; exact hset, owns_keep h.rr (fun k hk => (hsame k (fun e => by subst e; exact h.zr hk)).trans (hx.block k (hlr k hk).2 (fun h' => h.d1 k hk h'))), by rw [hl, ← intCells_snoc]; exact owns_keep ho (fun k hk => hsame k (fun e => by subst e; exact hz' hk)), owns_keep h.rbo (fun k hk => (hsame k (fun e => by subst e; exact h.zo hk)).trans (hx.block k (hlb k hk).2 (fun h' => h.d3 k h' hk))), h.low, h.zr, hz', h.zo, fun k hk hk' => by rcases hf k hk' with h1 | h1; exact h.d1 k hk h1; have := (hlr k hk).2; omega, h.d2, fun k hk hk' => by rcases hf k hk with h1 | h1; exact h.d3 k h1 hk'; have := (hlb k hk').2; omega⟩
  · have hx' : Ext (zb :: blk ca) w (W'.setCell ⟨zb, 2, none⟩ (.slice a' (cuts.length + 1) c')) := (hx.mono (fun k hk => List.mem_cons_of_mem _ hk)).setCell (Or.inl (by simp)) _
    exact hx'.belowB hBw (fun k hk => by
      rcases List.mem_cons.1 hk with rfl | hk
      · exact h.low
      · exact (owns_blk h.rcu k hk).1)

theorem Vis.pushB {B : Nat} {w : World} {off : Nat → Nat} {zb : Nat} {ra ca ba : Option Addr} {rc cc bc : Nat} {ld : Int} {ks cuts : List Nat} {bds : List ByteArray} (h : Vis B w off zb ra ca ba rc cc bc ld ks cuts bds) (hn : bds.length ≤ 131072) (x : ByteArray) :
    ∃ a' c' W', (Builtin.append_ #[22, 22] 22 #[.slice ba bds.length bc, .slice (some ⟨w.heap.size, 0, none⟩) 1 1]).run Try.prog (w.alloc (.cells #[.string x] 9)).drew = .ok (.slice a' (bds.length + 1) c') W' ∧ W'.cell? ⟨zb, 3, none⟩ = some (.slice ba bds.length bc) ∧ W'.frozen? ⟨zb, 3, none⟩ = false ∧
      Vis B (W'.setCell ⟨zb, 3, none⟩ (.slice a' (bds.length + 1) c')) off zb ra ca a' rc cc c' ld ks cuts (bds ++ [x]) ∧ Below B w (W'.setCell ⟨zb, 3, none⟩ (.slice a' (bds.length + 1) c')) := by
  obtain ⟨i0, hi0, hz0, hzs, hzb⟩ := info_parts info9
  have hBw : B ≤ w.heap.size := Nat.le_of_lt (Nat.lt_of_le_of_lt h.low (lt_of_block h.here))
  obtain ⟨a', c', W', hrun, ho, hx, hf⟩ := grow1 22 9 i0 _ 1 _ Try.underlying22 hi0 hz0 hzs hzb rfl (by decide) (by decide) h.rbo hBw [.string x] rfl (by intro u hu; simp at hu; first | (rw [hu]; rfl) | (rcases hu with rfl | rfl <;> rfl)) hn 22
  have hzl := lt_of_block h.here
  have hW : W'.heap[zb]? = some (.cells #[.slice ra ks.length rc, .int .i64 ld, .slice ca cuts.length cc, .slice ba bds.length bc, .bool true] 34 (0, 0)) := (hx.block zb hzl h.zo).trans h.here
  have hlr := owns_blk h.rr
  have hlc := owns_blk h.rcu
  have hlb := owns_blk h.rbo
  have hset := setCell_block (j := 3) hW (.slice a' (bds.length + 1) c')
  have hz' : zb ∉ blk a' := fun hh => by rcases hf _ hh with h1 | h1; exact h.zo h1; omega
  have hsame : ∀ k, k ≠ zb → (W'.setCell ⟨zb, 3, none⟩ (.slice a' (bds.length + 1) c')).heap[k]? = W'.heap[k]? := fun k hk => Below.heap_setCell W' ⟨zb, 3, none⟩ _ k hk
  refine ⟨a', c', W', hrun, by simp [World.cell?, hW], by simp [World.frozen?, hW], ?_, ?_⟩
  · have hl : (bds ++ [x]).length = bds.length + 1 := by simp
    refine ⟨by rw [hl]; exact hset, owns_keep h.rr (fun k hk => (hsame k (fun e => by subst e; exact h.zr hk)).trans (hx.block k (hlr k hk).2 (fun h' => h.d2 k hk h'))), owns_keep h.rcu (fun k hk => (hsame k (fun e => by subst e; exact h.zc hk)).trans (hx.block k (hlc k hk).2 (fun h' => h.d3 k hk h'))), by rw [hl, ← strCells_snoc]; exact owns_keep ho (fun k hk => hsame k (fun e => by subst e; exact hz' hk)), h.low, h.zr, h.zc, hz', h.d1, fun k hk hk' => by rcases hf k hk' with h1 | h1; exact h.d2 k hk h1; have := (hlr k hk).2; omega, fun k hk hk' => by rcases hf k hk' with h1 | h1; exact h.d3 k hk h1; have := (hlc k hk).2; omega⟩
  · have hx' : Ext (zb :: blk ba) w (W'.setCell ⟨zb, 3, none⟩ (.slice a' (bds.length + 1) c')) := (hx.mono (fun k hk => List.mem_cons_of_mem _ hk)).setCell (Or.inl (by simp)) _
    exact hx'.belowB hBw (fun k hk => by
      rcases List.mem_cons.1 hk with rfl | hk
      · exact h.low
      · exact (owns_blk h.rbo k hk).1)

/-- The depth of the leaves, set the first time. -/
theorem Vis.setD {B : Nat} {w : World} {off : Nat → Nat} {zb : Nat} {ra ca ba : Option Addr} {rc cc bc : Nat} {ld : Int} {ks cuts : List Nat} {bds : List ByteArray} (h : Vis B w off zb ra ca ba rc cc bc ld ks cuts bds) (d : Int) :
    Vis B (w.setCell ⟨zb, 1, none⟩ (.int .i64 d)) off zb ra ca ba rc cc bc d ks cuts bds ∧ Below B w (w.setCell ⟨zb, 1, none⟩ (.int .i64 d)) := by
  have hBw : B ≤ w.heap.size := Nat.le_of_lt (Nat.lt_of_le_of_lt h.low (lt_of_block h.here))
  have hset := setCell_block (j := 1) h.here (.int .i64 d)
  have hsame : ∀ k, k ≠ zb → (w.setCell ⟨zb, 1, none⟩ (.int .i64 d)).heap[k]? = w.heap[k]? := fun k hk => Below.heap_setCell w ⟨zb, 1, none⟩ _ k hk
  refine ⟨{ h with
    here := hset
    rr := owns_keep h.rr (fun k hk => hsame k (fun e => by subst e; exact h.zr hk))
    rcu := owns_keep h.rcu (fun k hk => hsame k (fun e => by subst e; exact h.zc hk))
    rbo := owns_keep h.rbo (fun k hk => hsame k (fun e => by subst e; exact h.zo hk)) }, ?_⟩
  have hx' : Ext [zb] w (w.setCell ⟨zb, 1, none⟩ (.int .i64 d)) := (Ext.refl [zb] w).setCell (Or.inl (by simp)) _
  exact hx'.belowB hBw (fun k hk => by simp at hk; subst hk; exact h.low)

section small
theorem children28 (p : Nat) (v : Value) (w : World) (h : w.cell? ⟨p, 2, none⟩ = some v) : Calls Try.prog 28 #[.pointer (some ⟨p, 0, none⟩)] w fun e w' => e = .returned v ∧ w' = w := by
  go_enter Try.func28, Try.ntmps28
  go_wp2
  go_ret
  exact ⟨rfl, rfl⟩
theorem refs29 (p : Nat) (v : Value) (w : World) (h : w.cell? ⟨p, 1, none⟩ = some v) : Calls Try.prog 29 #[.pointer (some ⟨p, 0, none⟩)] w fun e w' => e = .returned v ∧ w' = w := by
  go_enter Try.func29, Try.ntmps29
  go_wp2
  go_ret
  exact ⟨rfl, rfl⟩
theorem bounds30 (p : Nat) (v : Value) (w : World) (h : w.cell? ⟨p, 3, none⟩ = some v) : Calls Try.prog 30 #[.pointer (some ⟨p, 0, none⟩)] w fun e w' => e = .returned v ∧ w' = w := by
  go_enter Try.func30, Try.ntmps30
  go_wp2
  go_ret
  exact ⟨rfl, rfl⟩
theorem root12 (p : Nat) (v : Value) (w : World) (h : w.cell? ⟨p, 0, none⟩ = some v) : Calls Try.prog 12 #[.pointer (some ⟨p, 0, none⟩)] w fun e w' => e = .returned v ∧ w' = w := by
  go_enter Try.func12, Try.ntmps12
  go_wp2
  go_ret
  exact ⟨rfl, rfl⟩
theorem refAt13 (a b : Int) (w : World) : Calls Try.prog 13 #[.agg #[.int .u32 a, .int .u32 b]] w fun e w' => e = .returned (.int .u32 b) ∧ Ext [] w w' := by
  have hx : Hid (Ext [] w (w.alloc (.cells #[.int .u32 a, .int .u32 b] 42))) := (Ext.refl [] w).alloc _
  go_enter Try.func13, Try.ntmps13
  go_wp2
  go_ret
  exact ⟨rfl, hx.out⟩
theorem refChunk22 (a b : Int) (w : World) : Calls Try.prog 22 #[.agg #[.int .u32 a, .int .u32 b]] w fun e w' => e = .returned (.int .u32 a) ∧ Ext [] w w' := by
  have hx : Hid (Ext [] w (w.alloc (.cells #[.int .u32 a, .int .u32 b] 42))) := (Ext.refl [] w).alloc _
  go_enter Try.func22, Try.ntmps22
  go_wp2
  go_ret
  exact ⟨rfl, hx.out⟩
end small
end Go.Proofs.Qxb6613201a
