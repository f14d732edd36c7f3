/- '(*table).add', 'ZZAdd': one key more in the table. -/
import Derived.Test.Qxb6613201aInsert2
set_option linter.unusedVariables false
set_option linter.unusedSimpArgs false
namespace Go.Proofs.Qxb6613201a
open Go.RowKit

/-- The table at block tb: its fields. -/
def TabAt (w : World) (tb p cb n : Nat) : Prop :=
  w.heap[tb]? = some (.cells #[.pointer (some ⟨p, 0, none⟩), .int .i64 0, .slice none 0 0, .int .u64 0, .slice (some ⟨cb, 0, none⟩) 2 2, .int .u64 0, .slice none 0 0, .int .u32 1, .int .i64 n, .int .i64 0, .bool false] 74 (0, 0))
theorem TabAt.c0 {w : World} {tb p cb n : Nat} (h : TabAt w tb p cb n) : w.cell? ⟨tb, 0, none⟩ = some (.pointer (some ⟨p, 0, none⟩)) := by simp [World.cell?, show w.heap[tb]? = _ from h]
theorem TabAt.c3 {w : World} {tb p cb n : Nat} (h : TabAt w tb p cb n) : w.cell? ⟨tb, 3, none⟩ = some (.int .u64 0) := by simp [World.cell?, show w.heap[tb]? = _ from h]
theorem TabAt.c4 {w : World} {tb p cb n : Nat} (h : TabAt w tb p cb n) : w.cell? ⟨tb, 4, none⟩ = some (.slice (some ⟨cb, 0, none⟩) 2 2) := by simp [World.cell?, show w.heap[tb]? = _ from h]
theorem TabAt.free {w : World} {tb p cb n : Nat} (h : TabAt w tb p cb n) (j : Nat) : w.frozen? ⟨tb, j, none⟩ = false := by simp [World.frozen?, show w.heap[tb]? = _ from h]
theorem TabAt.set {w : World} {tb p cb n : Nat} (h : TabAt w tb p cb n) (q : Nat) : TabAt (w.setCell ⟨tb, 0, none⟩ (.pointer (some ⟨q, 0, none⟩))) tb q cb n := setCell_block h _

/-- The table holds a tree of the keys ks. -/
structure Tree (w : World) (off : Nat → Nat) (K : Nat → ByteArray) (bytes : List UInt8) (tb cb rb0 cap n d p : Nat) (t : Bt.T ByteArray d) (F : List Nat) : Prop where
  tab : TabAt w tb p cb n
  env : Env w tb cb rb0 bytes cap
  mem : Mem w off d p t F
  wf : Bt.Wf klt K d true true t
  nodup : F.Nodup
  apart : tb ∉ F ∧ cb ∉ F ∧ rb0 ∉ F ∧ tb ≠ cb ∧ tb ≠ rb0
  low : rb0 < w.heap.size

theorem wf_root {K : Nat → ByteArray} {d : Nat} {t u : Bt.T ByteArray d} {b : ByteArray} (h1 : Bt.Wf klt K d false false t) (h2 : Bt.Wf klt K d false true u) (h3 : ∀ x ∈ Bt.keysT d t, klt (K x) b = true) (h4 : ∀ x ∈ Bt.keysT d u, klt (K x) b = false) :
    Bt.Wf klt K (d + 1) true true (([t, u], [b]) : Bt.T ByteArray (d + 1)) := by
  refine ⟨rfl, by simp, by simp, by simp, fun i c hc => ?_, fun i b' hb => ?_⟩
  · match i, hc with
    | 0, hc => obtain rfl : t = c := by simpa using hc
               exact h1
    | 1, hc => obtain rfl : u = c := by simpa using hc
               exact h2
    | i + 2, hc => simp at hc
  · match i, hb with
    | 0, hb =>
      obtain rfl : b = b' := by simpa using hb
      refine ⟨fun j c hc hj => ?_, fun j c hc hj => ?_⟩
      · obtain rfl : j = 0 := by omega
        obtain rfl : t = c := by simpa using hc
        exact h3
      · match j, hc with
        | 1, hc => obtain rfl : u = c := by simpa using hc
                   exact h4
        | j + 2, hc => simp at hc
    | i + 1, hb => simp at hb

/-- What 'add' leaves. -/
def Added (w w' : World) (off : Nat → Nat) (K : Nat → ByteArray) (bytes : List UInt8) (tb cb rb0 cap n k : Nat) (ks F : List Nat) : Prop :=
  ∃ (d p : Nat) (t : Bt.T ByteArray d) (F' : List Nat), Tree w' off K bytes tb cb rb0 cap n d p t F' ∧ (Bt.keysT d t).Perm (k :: ks) ∧ (∀ b ∈ F', b ∈ F ∨ w.heap.size ≤ b) ∧ Ext (tb :: F) w w'

set_option maxHeartbeats 4000000 in
set_option maxRecDepth 100000 in
theorem add38 (tb cb rb0 cap n : Nat) (bytes : List UInt8) (off : Nat → Nat) (K : Nat → ByteArray) (k d p : Nat) (t : Bt.T ByteArray d) (F : List Nat) (w : World) (hT : Tree w off K bytes tb cb rb0 cap n d p t F) (hK : Keys bytes off K (k :: Bt.keysT d t)) (hne : ∀ x ∈ Bt.keysT d t, K x ≠ K k) :
    Calls Try.prog 38 #[.pointer (some ⟨tb, 0, none⟩), .string (K k), .agg #[.int .u32 1, .int .u32 (off k)]] w fun e w' => e = .returned (.tuple #[]) ∧ Added w w' off K bytes tb cb rb0 cap n k (Bt.keysT d t) F := by
  have htlt : tb < w.heap.size := lt_of_block hT.tab
  have hclt : cb < w.heap.size := World.block_lt_of_cell? _ _ hT.env.recs
  have hap := hT.apart
  have hrlt := hT.low
  obtain ⟨W1, hW1⟩ : ∃ W1, w.alloc (.cells #[.int .u32 1, .int .u32 (off k : Int)] 42) = W1 := ⟨_, rfl⟩
  have hb1 : Below w.heap.size w W1 := by rw [← hW1]; exact (Below.refl _ _).alloc (Nat.le_refl _) _
  have hs1 : W1.heap.size = w.heap.size + 1 := by rw [← hW1]; simp
  have d2 : W1.drew.cell? ⟨w.heap.size, 0, none⟩ = some (.int .u32 1) := by rw [← hW1]; simp
  have d3 : W1.drew.cell? ⟨w.heap.size, 1, none⟩ = some (.int .u32 (off k : Int)) := by rw [← hW1]; simp
  have d0 : W1.drew.cell? ⟨tb, 0, none⟩ = some (.pointer (some ⟨p, 0, none⟩)) := (hb1.cell (p := ⟨tb, 0, none⟩) htlt).trans hT.tab.c0
  have hFl := mem_lt d p t F hT.mem
  have hwF : w.heap.size ∉ F := fun h => Nat.lt_irrefl _ (hFl _ h)
  have hsp := Bt.ins_spec kOrd d true true t k hT.wf hne
  have hbd := hb1.drew
  have H45 : Hid (Calls Try.prog 45 #[.pointer (some ⟨tb, 0, none⟩), .pointer (some ⟨p, 0, none⟩), .string (K k), .agg #[.int .u32 1, .int .u32 (off k)], .bool true] W1.drew fun e w' =>
      ∃ op bd, e = .returned (.tuple #[ptrO op, .string bd]) ∧ Hid (Ext F w w' ∧ InsOut w w' off d p F (.returned (.tuple #[ptrO op, .string bd])) (Bt.ins klt K d true t k)) ∧
        (w'.cell? ⟨tb, 0, none⟩ = some (.pointer (some ⟨p, 0, none⟩)) ∧ w'.cell? ⟨w.heap.size, 0, none⟩ = some (.int .u32 1) ∧ w'.cell? ⟨w.heap.size, 1, none⟩ = some (.int .u32 (off k : Int)))) := by
    refine (insert_calls tb cb rb0 cap bytes off K k d p t F true true W1.drew (hT.env.below hbd) ((hbd.cell (p := ⟨tb, 3, none⟩) htlt).trans hT.tab.c3) hK hT.wf (mem_ext hT.mem (Ext.of_below hbd) (by simp)) hT.nodup hap.1 hap.2.1 hap.2.2.1).mono ?_
    rintro e' w' ⟨hx, ho⟩
    have hz : w.heap.size ≤ W1.drew.heap.size := hbd.size
    have hS : (w'.cell? ⟨tb, 0, none⟩ = some (.pointer (some ⟨p, 0, none⟩)) ∧ w'.cell? ⟨w.heap.size, 0, none⟩ = some (.int .u32 1) ∧ w'.cell? ⟨w.heap.size, 1, none⟩ = some (.int .u32 (off k : Int))) :=
      ⟨(hx.cell (p := ⟨tb, 0, none⟩) (World.block_lt_of_cell? _ _ d0) hap.1).trans d0, (hx.cell (p := ⟨w.heap.size, 0, none⟩) (World.block_lt_of_cell? _ _ d2) hwF).trans d2, (hx.cell (p := ⟨w.heap.size, 1, none⟩) (World.block_lt_of_cell? _ _ d3) hwF).trans d3⟩
    have hx' : Ext F w w' := (below_ext F hbd).trans hx
    generalize Bt.ins klt K d true t k = r at ho ⊢
    obtain ⟨c', o⟩ := r
    cases o with
    | none =>
      obtain ⟨he, F', a1, a2, a3⟩ := ho
      exact ⟨none, ⟨#[]⟩, he, ⟨hx', rfl, F', a1, a2, fun b hb => by rcases a3 b hb with h | h; exact Or.inl h; exact Or.inr (by omega)⟩, hS⟩
    | some bu =>
      obtain ⟨bd, u⟩ := bu
      obtain ⟨q, F', G2, he, a1, a2, a3, a4⟩ := ho
      exact ⟨some q, bd, he, ⟨hx', q, F', G2, rfl, a1, a2, a3, fun b hb => by rcases a4 b hb with h | h; exact Or.inl h; exact Or.inr (by omega)⟩, hS⟩
  have HT := hid hT
  have HSP := hid hsp
  have HFL := hid hFl
  have HW1 := hid hW1
  clear hT hK hne hsp hFl hwF hbd hW1 hb1 hs1
  go_enter Try.func38, Try.ntmps38
  go_wp2_with fail
  rw [HW1.out]
  go_region_held3 (fun w' => w'.cell? ⟨tb, 0, none⟩ = some (.pointer (some ⟨p, 0, none⟩)) ∧ w'.cell? ⟨w.heap.size, 0, none⟩ = some (.int .u32 1) ∧ w'.cell? ⟨w.heap.size, 1, none⟩ = some (.int .u32 (off k : Int))) (first | (assumption) | (go_keep))
    (first
      | (go_at_call 45; refine (Hid.out H45).mono ?_; rintro e w2 ⟨op, bd, rfl, hR, hS⟩))
  have n0 := hS.1
  clear hS H45 d0 d2 d3 HW1
  have hR' := hR.out
  have hSP := HSP.out
  clear hR HSP
  generalize Bt.ins klt K d true t k = r at hR' hSP
  obtain ⟨c', o⟩ := r
  cases op with
  | none =>
    simp only [ptrO]
    cases o with
    | some bu =>
      obtain ⟨bd', u⟩ := bu
      obtain ⟨_, q, F', G2, hq, _⟩ := hR'
      simp [ptrO] at hq
    | none =>
      obtain ⟨hx, _, F', hM', hF', hb'⟩ := hR'
      have HF : Hid (Added w w2 off K bytes tb cb rb0 cap n k (Bt.keysT d t) F) := by
        have hT := HT.out
        have e1 : tb ∉ F' := fun h => by rcases hb' _ h with h | h; exact hap.1 h; omega
        have e2 : cb ∉ F' := fun h => by rcases hb' _ h with h | h; exact hap.2.1 h; omega
        have e3 : rb0 ∉ F' := fun h => by rcases hb' _ h with h | h; exact hap.2.2.1 h; omega
        exact ⟨d, p, c', F', ⟨(hx.block tb htlt hap.1).trans hT.tab, hT.env.ext hx hap.1 hap.2.1 hap.2.2.1, hM', hSP.1, hF', ⟨e1, e2, e3, hap.2.2.2⟩, Nat.lt_of_lt_of_le hrlt hx.size⟩, hSP.2, hb', hx.mono (fun x hx => List.mem_cons_of_mem _ hx)⟩
      clear hx hM' hF' hb' hSP HT HFL
      go_wp2_with fail
      refine bodyPost_end (results_none rfl _ _ _) rfl ?_
      exact ⟨rfl, HF.out⟩
  | some qn =>
    simp only [ptrO]
    cases o with
    | none =>
      obtain ⟨_, hq, _⟩ := hR'
      simp [ptrO] at hq
    | some bu =>
      obtain ⟨bd', u⟩ := bu
      obtain ⟨hx, q, F', G2, hq, hM', hMu, hFG, hb'⟩ := hR'
      simp only [ptrO, Ending.returned.injEq, Value.tuple.injEq, Array.mk.injEq, List.cons.injEq, Value.pointer.injEq, Option.some.injEq, Addr.mk.injEq, and_true, Value.string.injEq] at hq
      obtain ⟨rfl, rfl⟩ := hq
      have hz2 := hx.size
      have hT := HT.out
      have hT2 : TabAt w2 tb p cb n := (hx.block tb htlt hap.1).trans hT.tab
      obtain ⟨W3, hW3⟩ : ∃ W3, (w2.alloc (.cells #[.pointer (some ⟨p, 0, none⟩), .pointer (some ⟨qn, 0, none⟩)] 36)).alloc (.cells #[.string bd] 9) = W3 := ⟨_, rfl⟩
      have hx3 : Ext [] w2 W3 := by rw [← hW3]; exact ((Ext.refl [] w2).alloc _).alloc _
      have hz3 : W3.heap.size = w2.heap.size + 2 := by rw [← hW3]; simp
      have r1 : W3.heap[w2.heap.size]? = some (.cells #[.pointer (some ⟨p, 0, none⟩), .pointer (some ⟨qn, 0, none⟩)] 36 (0, 0)) := by rw [← hW3]; exact f2 w2 _ _
      have r2 : W3.heap[w2.heap.size + 1]? = some (.cells #[.string bd] 9 (0, 0)) := by rw [← hW3]; exact f3 w2 _ _
      have o1 : W3.ownsRow 0 36 1 (.slice (some ⟨w2.heap.size, 0, none⟩) 2 2) 2 (ptrCells [p, qn]) := ⟨rfl, Or.inr ⟨_, 2, _, rfl, Nat.zero_le _, r1, by decide, by decide, rfl, rfl⟩⟩
      have o2 : W3.ownsRow 0 9 1 (.slice (some ⟨w2.heap.size + 1, 0, none⟩) 1 1) 1 (strCells [bd]) := ⟨rfl, Or.inr ⟨_, 1, _, rfl, Nat.zero_le _, r2, by decide, by decide, rfl, rfl⟩⟩
      have hv3 : W3.cell? ⟨tb, 3, none⟩ = some (.int .u64 0) := (hx3.cell (p := ⟨tb, 3, none⟩) (by show tb < w2.heap.size; omega) (by simp)).trans hT2.c3
      have H46 := hid (newInner46 tb 2 1 (.slice (some ⟨w2.heap.size, 0, none⟩) 2 2) (.slice (some ⟨w2.heap.size + 1, 0, none⟩) 1 1) (ptrCells [p, qn]) (strCells [bd]) W3 hv3 (by omega) (by omega) rfl rfl
        (fun w' hb => src_ptrs (a := 0) (m := 2) (owns_same o1 (hb.block _ (by omega))) rfl (by omega) 2) (fun w' hb => src_strs (a := 0) (m := 1) (owns_same o2 (hb.block _ (by omega))) rfl (by omega) 1))
      have HW3 := hid hW3
      have HT2 := hid hT2
      have HX := hid hx
      have HX3 := hid hx3
      have HM := hid (And.intro hM' (And.intro hMu (And.intro hFG hb')))
      have HSP := hid hSP
      clear hW3 hT2 hx hx3 hM' hMu hFG hb' hSP o1 o2 r1 r2 hv3 hT
      go_wp2_with fail
      rw [HW3.out]
      refine (Hid.out H46).mono ?_
      rintro e w4 ⟨q, rfl, hI⟩
      obtain ⟨ga, gb, hNq, hoa, hob, hx4, hq1, hq2, hq3, hq4, hq5, hq6, hq7, hq8, hq9⟩ := hI
      have hz4 := hx4.size
      have hx24 : Ext [] w2 w4 := HX3.out.trans hx4
      have hT4 : TabAt w4 tb p cb n := (hx24.block tb (by omega) (by simp)).trans HT2.out
      have t0 := hT4.c0
      have t1 := hT4.free 0
      have HF : Hid (Added w (w4.setCell ⟨tb, 0, none⟩ (.pointer (some ⟨q, 0, none⟩))) off K bytes tb cb rb0 cap n k (Bt.keysT d t) F) := by
        have hT := HT.out
        have hx := HX.out
        have hT5 := hT4.set q
        obtain ⟨W5, hW5⟩ : ∃ W5, w4.setCell ⟨tb, 0, none⟩ (.pointer (some ⟨q, 0, none⟩)) = W5 := ⟨_, rfl⟩
        have hx5 : Ext [tb] w4 W5 := by rw [← hW5]; exact (Ext.refl [tb] w4).setCell (Or.inl (by simp)) _
        rw [hW5] at hT5
        show Added w (w4.setCell ⟨tb, 0, none⟩ (.pointer (some ⟨q, 0, none⟩))) off K bytes tb cb rb0 cap n k (Bt.keysT d t) F
        rw [hW5]
        obtain ⟨hM', hMu, hFG, hb'⟩ := HM.out
        obtain ⟨s1, s2, s3, s4, s5⟩ := HSP.out
        have l1 := mem_lt d _ _ _ hM'
        have l2 := mem_lt d _ _ _ hMu
        have e1 : ∀ b ∈ F' ++ G2, b ≠ tb := fun b hb e => by subst e; rcases hb' _ hb with h | h; exact hap.1 h; omega
        have e2 : ∀ b ∈ F' ++ G2, b ≠ cb := fun b hb e => by subst e; rcases hb' _ hb with h | h; exact hap.2.1 h; omega
        have e3 : ∀ b ∈ F' ++ G2, b ≠ rb0 := fun b hb e => by subst e; rcases hb' _ hb with h | h; exact hap.2.2.1 h; omega
        have l3 : ∀ b ∈ F' ++ G2, b < w2.heap.size := fun b hb => by rcases List.mem_append.1 hb with h | h; exact l1 b h; exact l2 b h
        have hxx : Ext (tb :: F) w W5 := ((hx.mono (fun x hx => List.mem_cons_of_mem _ hx)).trans (hx24.mono (by simp))).trans (hx5.mono (by simp))
        have hx25 : Ext [tb] w2 W5 := (hx24.mono (by simp)).trans hx5
        refine ⟨d + 1, q, ([c', u], [bd]), q :: ga :: gb :: (F' ++ G2), ⟨hT5, ?_, ?_, wf_root s1 s2 s4 s5, ?_, ?_, ?_⟩, ?_, ?_, hxx⟩
        · have hE4 : Env w4 tb cb rb0 bytes cap := hT.env.ext (hx.trans (hx24.mono (by simp))) hap.1 hap.2.1 hap.2.2.1
          exact ⟨hT5.c4, (hx5.cell (p := ⟨cb, 3, none⟩) (World.block_lt_of_cell? _ _ hE4.recs) (by simpa using fun e => hap.2.2.2.1 e.symm)).trans hE4.recs,
            fun j h => (hx5.cell (p := ⟨rb0, j, none⟩) (World.block_lt_of_cell? _ _ (hE4.data j h)) (by simpa using fun e => hap.2.2.2.2 e.symm)).trans (hE4.data j h), hE4.fits, hE4.small⟩
        · refine ⟨ga, gb, [p, qn], [F', G2], (hx5.block q (by omega) (by simp; omega)).trans hNq, owns_same hoa (hx5.block ga (by omega) (by simp; omega)), owns_same hob (hx5.block gb (by omega) (by simp; omega)), ⟨rfl, rfl, ?_⟩, by simp⟩
          intro j q' c G h1 h2 h3
          match j, h1, h2, h3 with
          | 0, h1, h2, h3 =>
            obtain rfl : p = q' := by simpa using h1
            obtain rfl : c' = c := by simpa using h2
            obtain rfl : F' = G := by simpa using h3
            exact mem_ext hM' hx25 (fun b hb => by simpa using e1 b (List.mem_append.2 (Or.inl hb)))
          | 1, h1, h2, h3 =>
            obtain rfl : qn = q' := by simpa using h1
            obtain rfl : u = c := by simpa using h2
            obtain rfl : G2 = G := by simpa using h3
            exact mem_ext hMu hx25 (fun b hb => by simpa using e1 b (List.mem_append.2 (Or.inr hb)))
          | j + 2, h1, h2, h3 => simp at h1
        · rw [List.nodup_cons, List.nodup_cons, List.nodup_cons]
          simp only [List.mem_cons, not_or]
          exact ⟨⟨hq7, hq8, fun h => by have := l3 _ h; omega⟩, ⟨hq9, fun h => by have := l3 _ h; omega⟩, fun h => by have := l3 _ h; omega, hFG⟩
        · simp only [List.mem_cons, not_or]
          exact ⟨⟨by omega, by omega, by omega, fun h => e1 _ h rfl⟩, ⟨by omega, by omega, by omega, fun h => e2 _ h rfl⟩, ⟨by omega, by omega, by omega, fun h => e3 _ h rfl⟩, hap.2.2.2⟩
        · exact Nat.lt_of_lt_of_le hrlt hxx.size
        · have : Bt.keysT (d + 1) (([c', u], [bd]) : Bt.T ByteArray (d + 1)) = Bt.keysT d c' ++ Bt.keysT d u := by simp [Bt.keysT]
          rw [this]; exact s3
        · intro b hb
          simp only [List.mem_cons] at hb
          rcases hb with rfl | rfl | rfl | h
          · exact Or.inr (by omega)
          · exact Or.inr (by omega)
          · exact Or.inr (by omega)
          · exact hb' b h
      clear hNq hoa hob hx4 hq1 hq2 hq3 hq4 hq5 hq6 hq7 hq8 hq9 hz4 hx24 hT4 HT HFL HT2 HX HX3 HM HSP HW3 H46 hz3 hz2
      go_wp2_with fail
      refine bodyPost_end (results_none rfl _ _ _) rfl ?_
      exact ⟨rfl, HF.out⟩

theorem ZZAdd27 (tb cb rb0 cap n : Nat) (bytes : List UInt8) (off : Nat → Nat) (K : Nat → ByteArray) (k d p : Nat) (t : Bt.T ByteArray d) (F : List Nat) (w : World) (hT : Tree w off K bytes tb cb rb0 cap n d p t F) (hK : Keys bytes off K (k :: Bt.keysT d t)) (hne : ∀ x ∈ Bt.keysT d t, K x ≠ K k) :
    Calls Try.prog 27 #[.pointer (some ⟨tb, 0, none⟩), .string (K k), .int .u32 1, .int .u32 (off k)] w fun e w' => e = .returned (.tuple #[]) ∧ Added w w' off K bytes tb cb rb0 cap n k (Bt.keysT d t) F := by
  have H := hid (add38 tb cb rb0 cap n bytes off K k d p t F w hT hK hne)
  clear hT hK hne
  go_enter Try.func27, Try.ntmps27
  go_wp2_with fail
  refine (Hid.out H).mono ?_
  rintro e w2 ⟨rfl, hA⟩
  have HA := hid hA
  clear hA H
  go_wp2_with fail
  refine bodyPost_end (results_none rfl _ _ _) rfl ?_
  exact ⟨rfl, HA.out⟩
end Go.Proofs.Qxb6613201a
