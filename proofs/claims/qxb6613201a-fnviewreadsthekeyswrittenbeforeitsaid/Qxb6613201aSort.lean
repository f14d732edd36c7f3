/- 'zzSortedOrder'. -/
import Derived.Test.Qxb6613201aBytes
import Derived.Test.Qxb6613201aSortP
set_option linter.unusedVariables false
set_option linter.unusedSimpArgs false
namespace Go.Proofs.Qxb6613201a
open Go.RowKit

/-- keys[x] <= keys[y]. -/
def leK (K : Nat → ByteArray) (x y : Nat) : Bool := !klt (K y) (K x)
theorem leK_tr (K : Nat → ByteArray) : ∀ a b c : Nat, leK K a b = true → leK K b c = true → leK K a c = true := by
  intro a b c h1 h2
  simp only [leK, Bool.not_eq_true'] at *
  cases h : klt (K c) (K a) with
  | false => rfl
  | true => rw [kOrd.lt_of_lt_ge h h1] at h2; cases h2
theorem leK_tt (K : Nat → ByteArray) : ∀ a b : Nat, (leK K a b || leK K b a) = true := by
  intro a b
  cases h : klt (K b) (K a) with
  | false => simp [leK, h]
  | true => simp [leK, h, kOrd.asymm h]
theorem cmp3 (x y : ByteArray) : (Op.bytesLess x.toList y.toList = true ∧ (x.toList == y.toList) = false ∧ klt y x = false ∧ Op.bytesLess y.toList x.toList = false) ∨ (Op.bytesLess x.toList y.toList = false ∧ (x.toList == y.toList) = true ∧ klt y x = false ∧ Op.bytesLess y.toList x.toList = false) ∨
    (Op.bytesLess x.toList y.toList = false ∧ (x.toList == y.toList) = false ∧ klt y x = true ∧ Op.bytesLess y.toList x.toList = true) := by
  by_cases e : x = y
  · subst e; exact Or.inr (Or.inl ⟨kOrd.irr x, by simp, kOrd.irr x, kOrd.irr x⟩)
  · have hb : (x.toList == y.toList) = false := by rw [toList_beq]; simp [e]
    rcases kOrd.tot _ _ e with h | h
    · exact Or.inl ⟨h, hb, kOrd.asymm h, kOrd.asymm h⟩
    · exact Or.inr (Or.inr ⟨kOrd.asymm h, hb, h, h⟩)
theorem intCells_set (A : List Nat) (i x : Nat) : (intCells A).set i (.int .i64 x) = intCells (A.set i x) := by simp [intCells, List.map_set]
theorem int_get {A : List Nat} {i x : Nat} (h : A[i]? = some x) : (intCells A)[i]? = some (.int .i64 x) := by simp [intCells, h]
def upTo (n i : Nat) : List Nat := (List.range n).map fun j => if j < i then j else 0
theorem upTo_zero (n : Nat) : intCells (upTo n 0) = List.replicate n (.int .i64 0) := by
  apply List.ext_getElem
  · simp [upTo, intCells]
  · intro j h1 h2; simp [upTo, intCells]
theorem upTo_set (n i : Nat) (h : i < n) : (upTo n i).set i i = upTo n (i + 1) := by
  apply List.ext_getElem
  · simp [upTo]
  · intro j h1 h2
    rw [List.getElem_set]
    simp only [upTo, List.getElem_map, List.getElem_range]
    by_cases e : i = j
    · subst e; simp
    · rw [if_neg e]
      by_cases h3 : j < i
      · simp [h3, show j < i + 1 by omega]
      · simp [h3, show ¬ j < i + 1 by omega]
theorem upTo_all (n : Nat) : upTo n n = List.range n := by
  apply List.ext_getElem
  · simp [upTo]
  · intro j h1 h2
    have h3 : j < n := by simpa [upTo] using h1
    simp [upTo, h3]
theorem replicate_int (n : Nat) : intCells (List.replicate n 0) = List.replicate n (.int .i64 0) := by simp [intCells]

/-- The two rows. -/
structure Rows2 (w wr : World) (ga gb n : Nat) (A B : List Nat) : Prop where
  ra : wr.ownsRow 0 3 1 (.slice (some ⟨ga, 0, none⟩) n n) n (intCells A)
  rb : wr.ownsRow 0 3 1 (.slice (some ⟨gb, 0, none⟩) n n) n (intCells B)
  ne : ga ≠ gb
  la : w.heap.size ≤ ga
  lb : w.heap.size ≤ gb
  ext : Ext [] w wr
theorem Rows2.store {w wr : World} {ga gb n k x : Nat} {A B : List Nat} (h : Rows2 w wr ga gb n A B) (hk : k < n) (q : Nat) : Rows2 w ((wr.drewN q).setCell ⟨gb, k, none⟩ (.int .i64 (x : Int))) ga gb n A (B.set k x) := by
  have hq : ∀ q, (wr.drewN q).heap = wr.heap := fun q => by
    induction q with
    | zero => rfl
    | succ q ih => exact ih
  have h1 : (wr.drewN q).ownsRow 0 3 1 (.slice (some ⟨gb, 0, none⟩) n n) n (intCells B) := owns_same h.rb (by rw [hq])
  have h2 : (wr.drewN q).ownsRow 0 3 1 (.slice (some ⟨ga, 0, none⟩) n n) n (intCells A) := owns_same h.ra (by rw [hq])
  refine ⟨ownsRow_setCell_other h2 (by simp [Value.ownBlock]; exact h.ne) _, ?_, h.ne, h.la, h.lb, (h.ext.drewN q).setCell (Or.inr h.lb) _⟩
  rw [← intCells_set]
  exact owns_set h1 hk _
theorem drewN_cell (wr : World) (q : Nat) (a : Addr) : (wr.drewN q).cell? a = wr.cell? a := by
  induction q with
  | zero => rfl
  | succ q ih => exact ih
theorem drewN_frozen (wr : World) (q : Nat) (a : Addr) : (wr.drewN q).frozen? a = wr.frozen? a := by
  induction q with
  | zero => rfl
  | succ q ih => exact ih

set_option maxHeartbeats 16000000 in
set_option maxRecDepth 100000 in
theorem sorted8 (oa : Option Addr) (n c0 : Nat) (K : Nat → ByteArray) (w : World) (hk : KeysAt w oa n K) (hn : n ≤ 65536) :
    Calls Try.prog 8 #[.slice oa n c0] w fun e w' => ∃ g od, e = .returned (.slice (some ⟨g, 0, none⟩) n n) ∧ w'.ownsRow 0 3 1 (.slice (some ⟨g, 0, none⟩) n n) n (intCells od) ∧ od.Perm (List.range n) ∧ (od.Pairwise fun a b => leK K a b = true) ∧ Ext [] w w' := by
  obtain ⟨i0, hi0, hz0, hzs, hzb⟩ := info_parts info3
  obtain ⟨W1, hmk1, ho1, hx1, hz1⟩ := make_own 25 3 i0 _ n n Try.underlying25 hi0 hz0 rfl hzs (by omega) (by omega) (by omega) w
  obtain ⟨ga, hga⟩ : ∃ ga, w.heap.size = ga := ⟨_, rfl⟩
  rw [hga] at hmk1 ho1
  have HK := hid hk
  have HI := hid (And.intro hi0 (And.intro hz0 (And.intro hzs hzb)))
  have H1 : Hid (W1.ownsRow 0 3 1 (.slice (some ⟨ga, 0, none⟩) n n) n (intCells (upTo n 0)) ∧ Ext [] w W1) := ⟨by rw [upTo_zero]; exact ho1, hx1⟩
  have HG := hid hga
  have hni : (n : Int) ≤ 65536 := by omega
  have HN := hid hn
  clear hk hi0 hz0 hzs hzb ho1 hx1 hz1 hga hn
  go_enter Try.func8, Try.ntmps8
  go_wp2_with fail
  go_loopw [5] (fun s5 wr => ∃ i : Nat, s5 = .int .i64 i ∧ i ≤ n ∧ Hid (wr.ownsRow 0 3 1 (.slice (some ⟨ga, 0, none⟩) n n) n (intCells (upTo n i)) ∧ Ext [] w wr)) (fun s5 _ => n - (intOf s5).toNat)
  case atStart => exact ⟨0, rfl, Nat.zero_le _, H1.out⟩
  case round =>
    obtain ⟨i, rfl, hin, hR⟩ := hrel
    rename World => w1
    by_cases hlt : i < n
    · have hlt' : (i : Int) < (n : Int) := by omega
      obtain ⟨x, hx⟩ : ∃ x, w1.cell? ⟨ga, i, none⟩ = some x := ⟨_, owns_cell hR.out.1 (List.getElem?_eq_getElem (by simp [intCells, upTo]; exact hlt))⟩
      have hfz := owns_free hR.out.1 i
      have HE : Hid ((w1.setCell ⟨ga, i, none⟩ (.int .i64 (i : Int))).ownsRow 0 3 1 (.slice (some ⟨ga, 0, none⟩) n n) n (intCells (upTo n (i + 1))) ∧ Ext [] w (w1.setCell ⟨ga, i, none⟩ (.int .i64 (i : Int)))) :=
        ⟨by rw [← upTo_set n i hlt, ← intCells_set]; exact owns_set hR.out.1 hlt _, hR.out.2.setCell (Or.inr (by have := HG.out; show w.heap.size ≤ ga; omega)) _⟩
      have HLT := hid hlt
      clear hR hlt hin
      go_wp2_with fail
      go_roundw
      case measure => simp [intOf]; have := HLT.out; omega
      case rel => exact ⟨i + 1, by simp, HLT.out, HE.out⟩
    · obtain rfl : n = i := by omega
      obtain ⟨hi0, hz0, hzs, hzb⟩ := HI.out
      obtain ⟨W3, hmk3, ho3, hx3, hz3⟩ := make_own 25 3 i0 _ n n Try.underlying25 hi0 hz0 rfl hzs (by omega) (by omega) (by have := HN.out; omega) w1
      have hgl := owns_lt hR.out.1
      have h0 : Hid (Rows2 w W3 ga w1.heap.size n (List.range n) (List.replicate n 0)) :=
        ⟨by rw [← upTo_all]; exact owns_same hR.out.1 (hx3.block ga hgl (by simp)), by rw [replicate_int]; exact ho3, by omega, by have := HG.out; omega, hR.out.2.size, hR.out.2.trans hx3⟩
      obtain ⟨gb, hgb⟩ : ∃ gb, w1.heap.size = gb := ⟨_, rfl⟩
      rw [hgb] at hmk3 h0
      clear hi0 hz0 hzs hzb ho3 hx3 hz3 hgl hgb hR hmk1 hin hlt
      go_wp2_with fail
      go_loopw [4, 6, 7] (fun s4 s6 s7 wr => ∃ (ga gb wd : Nat) (A B : List Nat), s4 = .slice (some ⟨ga, 0, none⟩) n n ∧ s6 = .slice (some ⟨gb, 0, none⟩) n n ∧ s7 = .int .i64 wd ∧ Hid (1 ≤ wd ∧ wd ≤ 131072 ∧ Rows2 w wr ga gb n A B ∧ A.Perm (List.range n) ∧ B.length = n ∧ Ms.Chunk (leK K) wd A)) (fun _ _ s7 _ => n - (intOf s7).toNat)
      case atStart => exact ⟨ga, gb, 1, _, _, rfl, rfl, rfl, by omega, by omega, h0.out, List.Perm.refl _, by simp, Ms.chunk_one _⟩
      case round =>
        clear h0 hmk3
        obtain ⟨ga, gb, wd, A, B, rfl, rfl, rfl, hR⟩ := hrel
        rename World => w2
        by_cases hwd : wd < n
        · have hwd' : (wd : Int) < (n : Int) := by omega
          have hwd1 : (1 : Int) ≤ (wd : Int) := by have := hR.out.1; omega
          have hAl : A.length = n := by rw [hR.out.2.2.2.1.length_eq]; simp
          have h1 : Hid (Rows2 w w2 ga gb n A B ∧ Ms.MidI (leK K) A B n (2 * wd) 0) := ⟨hR.out.2.2.1, Ms.mid_start A B hR.out.2.2.2.2.1⟩
          have HA : Hid (A.length = n ∧ A.Perm (List.range n) ∧ Ms.Chunk (leK K) wd A ∧ 1 ≤ wd ∧ wd < n) := ⟨hAl, hR.out.2.2.2.1, hR.out.2.2.2.2.2, hR.out.1, hwd⟩
          clear hR hAl hwd
          go_wp2_with fail
          go_loopw [8] (fun s8 wr => ∃ (lo : Nat) (B : List Nat), s8 = .int .i64 lo ∧ lo ≤ 262144 ∧ Hid (Rows2 w wr ga gb n A B ∧ Ms.MidI (leK K) A B n (2 * wd) lo)) (fun s8 _ => n - (intOf s8).toNat)
          case atStart => exact ⟨0, B, rfl, by omega, h1.out⟩
          case round =>
            clear h1
            obtain ⟨lo, B0, rfl, hlo, hR⟩ := hrel
            rename World => w3
            by_cases hlt : lo < n
            · have hlt' : (lo : Int) < (n : Int) := by omega
              have HLO := hid hlt
              clear hlt hlo
              by_cases hm1 : lo + wd ≤ n
              · by_cases hm2 : lo + 2 * wd ≤ n
                · have hm1' : (lo : Int) + (wd : Int) ≤ (n : Int) := by omega
                  have hm2' : (lo : Int) + 2 * (wd : Int) ≤ (n : Int) := by omega
                  have HM := hid (And.intro hm1 hm2)
                  clear hm1 hm2
                  go_wp2_with fail
                  obtain ⟨mid, hmide⟩ : ∃ mid : Nat, mid = lo + wd := ⟨_, rfl⟩
                  obtain ⟨hi, hhie⟩ : ∃ hi : Nat, hi = lo + 2 * wd := ⟨_, rfl⟩
                  have HMM : Hid (mid = min (lo + wd) n ∧ hi = min (lo + 2 * wd) n ∧ mid = lo + wd ∧ hi = lo + 2 * wd) := by
                    have hmm := HM.out
                    have hll := HLO.out
                    exact ⟨by omega, by omega, hmide, hhie⟩
                  clear hmide hhie
                  go_loopw [11, 12, 13] (fun s11 s12 s13 wz => ∃ (i j k : Nat) (B : List Nat), s11 = .int .i64 i ∧ s12 = .int .i64 j ∧ s13 = .int .i64 k ∧ Hid (Ms.InI (leK K) A B (B0.take lo ++ (Ms.seg A lo mid).merge (Ms.seg A mid hi) (leK K)) n mid hi i j k ∧ Rows2 w wz ga gb n A B)) (fun _ _ s13 _ => hi - (intOf s13).toNat)
                  case atStart =>
                    have hmm := HMM.out
                    have hll := HLO.out
                    exact ⟨lo, mid, lo, B0, rfl, by rw [hmm.2.2.1] <;> simp, rfl, Ms.in_start _ _ hR.out.2 (by omega) (by omega), hR.out.1⟩
                  case round =>
                    obtain ⟨i, j, k, B1, rfl, rfl, rfl, hQ⟩ := hrel
                    rename World => w4
                    obtain ⟨hI, hr⟩ := hQ.out
                    obtain ⟨hmid, hhi, hmide, hhie⟩ := HMM.out
                    have hA := HA.out
                    obtain ⟨g1, g2, g3, g4, g5, g6⟩ := id hI
                    have hll := HLO.out
                    have hmidn : mid ≤ n := by omega
                    have hhin : hi ≤ n := by omega
                    by_cases hk : k < hi
                    · have hk' : (k : Int) < (lo : Int) + 2 * (wd : Int) := by omega
                      have hkn : (k : Int) < (n : Int) := by omega
                      obtain ⟨vb, hvb⟩ : ∃ vb, w4.cell? ⟨gb, k, none⟩ = some vb := ⟨_, owns_cell hr.rb (List.getElem?_eq_getElem (by simp [intCells]; omega))⟩
                      have hfb := owns_free hr.rb k
                      have hvb' : ∀ q, (w4.drewN q).cell? ⟨gb, k, none⟩ = some vb := fun q => (drewN_cell w4 q _).trans hvb
                      have hfb' : ∀ q, (w4.drewN q).frozen? ⟨gb, k, none⟩ = false := fun q => (drewN_frozen w4 q _).trans hfb
                      by_cases hc1 : i < mid
                      · obtain ⟨x, hx⟩ : ∃ x, A[i]? = some x := ⟨_, List.getElem?_eq_getElem (by omega)⟩
                        have hca := owns_cell hr.ra (int_get hx)
                        have hca' : ∀ q, (w4.drewN q).cell? ⟨ga, i, none⟩ = some (.int .i64 x) := fun q => (drewN_cell w4 q _).trans hca
                        have hi' : (i : Int) < (lo : Int) + (wd : Int) := by omega
                        have hin : (i : Int) < (n : Int) := by omega
                        have hd1 : decide ((i : Int) < (lo : Int) + (wd : Int)) = true := by simpa using hi'
                        have hd1n : decide (i < lo + wd) = true := by simp; omega
                        by_cases hc2 : j < hi
                        · obtain ⟨y, hy⟩ : ∃ y, A[j]? = some y := ⟨_, List.getElem?_eq_getElem (by omega)⟩
                          have hcj := owns_cell hr.ra (int_get hy)
                          have hcj' : ∀ q, (w4.drewN q).cell? ⟨ga, j, none⟩ = some (.int .i64 y) := fun q => (drewN_cell w4 q _).trans hcj
                          have hj' : (j : Int) < (lo : Int) + 2 * (wd : Int) := by omega
                          have hjn : (j : Int) < (n : Int) := by omega
                          have hd2 : decide ((lo : Int) + 2 * (wd : Int) ≤ (j : Int)) = false := by simp; omega
                          have hd2n : decide (lo + 2 * wd ≤ j) = false := by simp; omega
                          have hxn : x < n := List.mem_range.1 (hA.2.1.mem_iff.1 (List.mem_of_getElem? hx))
                          have hyn : y < n := List.mem_range.1 (hA.2.1.mem_iff.1 (List.mem_of_getElem? hy))
                          have hxn' : (x : Int) < (n : Int) := by omega
                          have hyn' : (y : Int) < (n : Int) := by omega
                          obtain ⟨ka, rfl, hkx⟩ := (HK.out.ext hr.ext) x hxn
                          obtain ⟨ka', e, hky⟩ := (HK.out.ext hr.ext) y hyn
                          obtain rfl := Option.some.inj e
                          rcases cmp3 (K x) (K y) with ⟨hA1, hA2, hcmp, hA3⟩ | ⟨hA1, hA2, hcmp, hA3⟩ | ⟨hA1, hA2, hcmp, hA3⟩
                          · have HE := hid (And.intro (hI.left2 (by omega) hc1 hc2 hx hy (by simp [leK, hcmp])) (fun q => hr.store (k := k) (x := x) (by omega) q))
                            have HX := hid (And.intro hmid (And.intro hhi hk))
                            clear hI hr hQ hmid hhi hmide hhie hA g1 g2 g3 g4 g5 g6 hll hmidn hhin hk hc1 hc2 hx hy hxn hyn e hcmp
                            go_wp2_with fail
                            go_quiet (fail)
                            all_goals go_wp2_with fail
                            all_goals go_roundw
                            case measure => simp [intOf]; have := HX.out.2.2; omega
                            case rel => exact ⟨i + 1, j, k + 1, _, by simp, rfl, by simp, HE.out.1, HE.out.2 _⟩
                          · have HE := hid (And.intro (hI.left2 (by omega) hc1 hc2 hx hy (by simp [leK, hcmp])) (fun q => hr.store (k := k) (x := x) (by omega) q))
                            have HX := hid (And.intro hmid (And.intro hhi hk))
                            clear hI hr hQ hmid hhi hmide hhie hA g1 g2 g3 g4 g5 g6 hll hmidn hhin hk hc1 hc2 hx hy hxn hyn e hcmp
                            go_wp2_with fail
                            go_quiet (fail)
                            all_goals go_wp2_with fail
                            all_goals go_roundw
                            case measure => simp [intOf]; have := HX.out.2.2; omega
                            case rel => exact ⟨i + 1, j, k + 1, _, by simp, rfl, by simp, HE.out.1, HE.out.2 _⟩
                          · have HE := hid (And.intro (hI.right2 (by omega) hc1 hc2 hx hy (by simp [leK, hcmp])) (fun q => hr.store (k := k) (x := y) (by omega) q))
                            have HX := hid (And.intro hmid (And.intro hhi hk))
                            clear hI hr hQ hmid hhi hmide hhie hA g1 g2 g3 g4 g5 g6 hll hmidn hhin hk hc1 hc2 hx hy hxn hyn e hcmp
                            go_wp2_with fail
                            go_quiet (fail)
                            all_goals go_wp2_with fail
                            all_goals go_roundw
                            case measure => simp [intOf]; have := HX.out.2.2; omega
                            case rel => exact ⟨i, j + 1, k + 1, _, rfl, by simp, by simp, HE.out.1, HE.out.2 _⟩
                        · have hd2 : decide ((lo : Int) + 2 * (wd : Int) ≤ (j : Int)) = true := by simp; omega
                          have hd2n : decide (lo + 2 * wd ≤ j) = true := by simp; omega
                          have hj' : (lo : Int) + 2 * (wd : Int) ≤ (j : Int) := by omega
                          have HE := hid (And.intro (hI.left1 (by omega) hc1 (by omega) hx) (fun q => hr.store (k := k) (x := x) (by omega) q))
                          have HX := hid (And.intro hmid (And.intro hhi hk))
                          clear hI hr hQ hmid hhi hmide hhie hA g1 g2 g3 g4 g5 g6 hll hmidn hhin hk hc1 hc2 hx
                          go_wp2_with fail
                          go_quiet (fail)
                          all_goals go_wp2_with fail
                          all_goals go_roundw
                          case measure => simp [intOf]; have := HX.out.2.2; omega
                          case rel => exact ⟨i + 1, j, k + 1, _, by simp, rfl, by simp, HE.out.1, HE.out.2 _⟩
                      · have hc2 : j < hi := by omega
                        obtain ⟨y, hy⟩ : ∃ y, A[j]? = some y := ⟨_, List.getElem?_eq_getElem (by omega)⟩
                        have hcj := owns_cell hr.ra (int_get hy)
                        have hcj' : ∀ q, (w4.drewN q).cell? ⟨ga, j, none⟩ = some (.int .i64 y) := fun q => (drewN_cell w4 q _).trans hcj
                        have hj' : (j : Int) < (lo : Int) + 2 * (wd : Int) := by omega
                        have hjn : (j : Int) < (n : Int) := by omega
                        have hd1 : decide ((i : Int) < (lo : Int) + (wd : Int)) = false := by simp; omega
                        have hd1n : decide (i < lo + wd) = false := by simp; omega
                        have hi' : (lo : Int) + (wd : Int) ≤ (i : Int) := by omega
                        have HE := hid (And.intro (hI.right1 (by omega) (by omega) hc2 hy) (fun q => hr.store (k := k) (x := y) (by omega) q))
                        have HX := hid (And.intro hmid (And.intro hhi hk))
                        clear hI hr hQ hmid hhi hmide hhie hA g1 g2 g3 g4 g5 g6 hll hmidn hhin hk hc1 hc2 hy
                        go_wp2_with fail
                        go_quiet (fail)
                        all_goals go_wp2_with fail
                        all_goals go_roundw
                        case measure => simp [intOf]; have := HX.out.2.2; omega
                        case rel => exact ⟨i, j + 1, k + 1, _, rfl, by simp, by simp, HE.out.1, HE.out.2 _⟩
                    · have hk' : (lo : Int) + 2 * (wd : Int) ≤ (k : Int) := by omega
                      have hlo' : (lo : Int) ≤ 65536 := by omega
                      have HE : Hid (Rows2 w w4 ga gb n A B1 ∧ Ms.MidI (leK K) A B1 n (2 * wd) (lo + 2 * wd) ∧ lo + 2 * wd ≤ 262144) :=
                        ⟨hr, Ms.mid_step (leK_tr K) (leK_tt K) (by omega) hA.1 hA.2.2.1 hR.out.2 hll hmid hhi hI (by omega), by have := HN.out; omega⟩
                      clear hI hr hQ hmid hhi hmide hhie hA g1 g2 g3 g4 g5 g6 hll hmidn hhin hk hR
                      go_wp2_with fail
                      go_roundw
                      case measure => simp [intOf]; have := HLO.out; have := HA.out; omega
                      case rel => exact ⟨lo + 2 * wd, B1, by simp, HE.out.2.2, HE.out.1, HE.out.2.1⟩
                · have hm1' : (lo : Int) + (wd : Int) ≤ (n : Int) := by omega
                  have hm2' : (n : Int) < (lo : Int) + 2 * (wd : Int) := by omega
                  have HM := hid (And.intro hm1 hm2)
                  clear hm1 hm2
                  go_wp2_with fail
                  obtain ⟨mid, hmide⟩ : ∃ mid : Nat, mid = lo + wd := ⟨_, rfl⟩
                  obtain ⟨hi, hhie⟩ : ∃ hi : Nat, hi = n := ⟨_, rfl⟩
                  have HMM : Hid (mid = min (lo + wd) n ∧ hi = min (lo + 2 * wd) n ∧ mid = lo + wd ∧ hi = n) := by
                    have hmm := HM.out
                    have hll := HLO.out
                    exact ⟨by omega, by omega, hmide, hhie⟩
                  clear hmide hhie
                  go_loopw [11, 12, 13] (fun s11 s12 s13 wz => ∃ (i j k : Nat) (B : List Nat), s11 = .int .i64 i ∧ s12 = .int .i64 j ∧ s13 = .int .i64 k ∧ Hid (Ms.InI (leK K) A B (B0.take lo ++ (Ms.seg A lo mid).merge (Ms.seg A mid hi) (leK K)) n mid hi i j k ∧ Rows2 w wz ga gb n A B)) (fun _ _ s13 _ => hi - (intOf s13).toNat)
                  case atStart =>
                    have hmm := HMM.out
                    have hll := HLO.out
                    exact ⟨lo, mid, lo, B0, rfl, by rw [hmm.2.2.1] <;> simp, rfl, Ms.in_start _ _ hR.out.2 (by omega) (by omega), hR.out.1⟩
                  case round =>
                    obtain ⟨i, j, k, B1, rfl, rfl, rfl, hQ⟩ := hrel
                    rename World => w4
                    obtain ⟨hI, hr⟩ := hQ.out
                    obtain ⟨hmid, hhi, hmide, hhie⟩ := HMM.out
                    have hA := HA.out
                    obtain ⟨g1, g2, g3, g4, g5, g6⟩ := id hI
                    have hll := HLO.out
                    have hmidn : mid ≤ n := by omega
                    have hhin : hi ≤ n := by omega
                    by_cases hk : k < hi
                    · have hk' : (k : Int) < (n : Int) := by omega
                      have hkn : (k : Int) < (n : Int) := by omega
                      obtain ⟨vb, hvb⟩ : ∃ vb, w4.cell? ⟨gb, k, none⟩ = some vb := ⟨_, owns_cell hr.rb (List.getElem?_eq_getElem (by simp [intCells]; omega))⟩
                      have hfb := owns_free hr.rb k
                      have hvb' : ∀ q, (w4.drewN q).cell? ⟨gb, k, none⟩ = some vb := fun q => (drewN_cell w4 q _).trans hvb
                      have hfb' : ∀ q, (w4.drewN q).frozen? ⟨gb, k, none⟩ = false := fun q => (drewN_frozen w4 q _).trans hfb
                      by_cases hc1 : i < mid
                      · obtain ⟨x, hx⟩ : ∃ x, A[i]? = some x := ⟨_, List.getElem?_eq_getElem (by omega)⟩
                        have hca := owns_cell hr.ra (int_get hx)
                        have hca' : ∀ q, (w4.drewN q).cell? ⟨ga, i, none⟩ = some (.int .i64 x) := fun q => (drewN_cell w4 q _).trans hca
                        have hi' : (i : Int) < (lo : Int) + (wd : Int) := by omega
                        have hin : (i : Int) < (n : Int) := by omega
                        have hd1 : decide ((i : Int) < (lo : Int) + (wd : Int)) = true := by simpa using hi'
                        have hd1n : decide (i < lo + wd) = true := by simp; omega
                        by_cases hc2 : j < hi
                        · obtain ⟨y, hy⟩ : ∃ y, A[j]? = some y := ⟨_, List.getElem?_eq_getElem (by omega)⟩
                          have hcj := owns_cell hr.ra (int_get hy)
                          have hcj' : ∀ q, (w4.drewN q).cell? ⟨ga, j, none⟩ = some (.int .i64 y) := fun q => (drewN_cell w4 q _).trans hcj
                          have hj' : (j : Int) < (n : Int) := by omega
                          have hjn : (j : Int) < (n : Int) := by omega
                          have hd2 : decide ((n : Int) ≤ (j : Int)) = false := by simp; omega
                          have hd2n : decide (n ≤ j) = false := by simp; omega
                          have hxn : x < n := List.mem_range.1 (hA.2.1.mem_iff.1 (List.mem_of_getElem? hx))
                          have hyn : y < n := List.mem_range.1 (hA.2.1.mem_iff.1 (List.mem_of_getElem? hy))
                          have hxn' : (x : Int) < (n : Int) := by omega
                          have hyn' : (y : Int) < (n : Int) := by omega
                          obtain ⟨ka, rfl, hkx⟩ := (HK.out.ext hr.ext) x hxn
                          obtain ⟨ka', e, hky⟩ := (HK.out.ext hr.ext) y hyn
                          obtain rfl := Option.some.inj e
                          rcases cmp3 (K x) (K y) with ⟨hA1, hA2, hcmp, hA3⟩ | ⟨hA1, hA2, hcmp, hA3⟩ | ⟨hA1, hA2, hcmp, hA3⟩
                          · have HE := hid (And.intro (hI.left2 (by omega) hc1 hc2 hx hy (by simp [leK, hcmp])) (fun q => hr.store (k := k) (x := x) (by omega) q))
                            have HX := hid (And.intro hmid (And.intro hhi hk))
                            clear hI hr hQ hmid hhi hmide hhie hA g1 g2 g3 g4 g5 g6 hll hmidn hhin hk hc1 hc2 hx hy hxn hyn e hcmp
                            go_wp2_with fail
                            go_quiet (fail)
                            all_goals go_wp2_with fail
                            all_goals go_roundw
                            case measure => simp [intOf]; have := HX.out.2.2; omega
                            case rel => exact ⟨i + 1, j, k + 1, _, by simp, rfl, by simp, HE.out.1, HE.out.2 _⟩
                          · have HE := hid (And.intro (hI.left2 (by omega) hc1 hc2 hx hy (by simp [leK, hcmp])) (fun q => hr.store (k := k) (x := x) (by omega) q))
                            have HX := hid (And.intro hmid (And.intro hhi hk))
                            clear hI hr hQ hmid hhi hmide hhie hA g1 g2 g3 g4 g5 g6 hll hmidn hhin hk hc1 hc2 hx hy hxn hyn e hcmp
                            go_wp2_with fail
                            go_quiet (fail)
                            all_goals go_wp2_with fail
                            all_goals go_roundw
                            case measure => simp [intOf]; have := HX.out.2.2; omega
                            case rel => exact ⟨i + 1, j, k + 1, _, by simp, rfl, by simp, HE.out.1, HE.out.2 _⟩
                          · have HE := hid (And.intro (hI.right2 (by omega) hc1 hc2 hx hy (by simp [leK, hcmp])) (fun q => hr.store (k := k) (x := y) (by omega) q))
                            have HX := hid (And.intro hmid (And.intro hhi hk))
                            clear hI hr hQ hmid hhi hmide hhie hA g1 g2 g3 g4 g5 g6 hll hmidn hhin hk hc1 hc2 hx hy hxn hyn e hcmp
                            go_wp2_with fail
                            go_quiet (fail)
                            all_goals go_wp2_with fail
                            all_goals go_roundw
                            case measure => simp [intOf]; have := HX.out.2.2; omega
                            case rel => exact ⟨i, j + 1, k + 1, _, rfl, by simp, by simp, HE.out.1, HE.out.2 _⟩
                        · have hd2 : decide ((n : Int) ≤ (j : Int)) = true := by simp; omega
                          have hd2n : decide (n ≤ j) = true := by simp; omega
                          have hj' : (n : Int) ≤ (j : Int) := by omega
                          have HE := hid (And.intro (hI.left1 (by omega) hc1 (by omega) hx) (fun q => hr.store (k := k) (x := x) (by omega) q))
                          have HX := hid (And.intro hmid (And.intro hhi hk))
                          clear hI hr hQ hmid hhi hmide hhie hA g1 g2 g3 g4 g5 g6 hll hmidn hhin hk hc1 hc2 hx
                          go_wp2_with fail
                          go_quiet (fail)
                          all_goals go_wp2_with fail
                          all_goals go_roundw
                          case measure => simp [intOf]; have := HX.out.2.2; omega
                          case rel => exact ⟨i + 1, j, k + 1, _, by simp, rfl, by simp, HE.out.1, HE.out.2 _⟩
                      · have hc2 : j < hi := by omega
                        obtain ⟨y, hy⟩ : ∃ y, A[j]? = some y := ⟨_, List.getElem?_eq_getElem (by omega)⟩
                        have hcj := owns_cell hr.ra (int_get hy)
                        have hcj' : ∀ q, (w4.drewN q).cell? ⟨ga, j, none⟩ = some (.int .i64 y) := fun q => (drewN_cell w4 q _).trans hcj
                        have hj' : (j : Int) < (n : Int) := by omega
                        have hjn : (j : Int) < (n : Int) := by omega
                        have hd1 : decide ((i : Int) < (lo : Int) + (wd : Int)) = false := by simp; omega
                        have hd1n : decide (i < lo + wd) = false := by simp; omega
                        have hi' : (lo : Int) + (wd : Int) ≤ (i : Int) := by omega
                        have HE := hid (And.intro (hI.right1 (by omega) (by omega) hc2 hy) (fun q => hr.store (k := k) (x := y) (by omega) q))
                        have HX := hid (And.intro hmid (And.intro hhi hk))
                        clear hI hr hQ hmid hhi hmide hhie hA g1 g2 g3 g4 g5 g6 hll hmidn hhin hk hc1 hc2 hy
                        go_wp2_with fail
                        go_quiet (fail)
                        all_goals go_wp2_with fail
                        all_goals go_roundw
                        case measure => simp [intOf]; have := HX.out.2.2; omega
                        case rel => exact ⟨i, j + 1, k + 1, _, rfl, by simp, by simp, HE.out.1, HE.out.2 _⟩
                    · have hk' : (n : Int) ≤ (k : Int) := by omega
                      have hlo' : (lo : Int) ≤ 65536 := by omega
                      have HE : Hid (Rows2 w w4 ga gb n A B1 ∧ Ms.MidI (leK K) A B1 n (2 * wd) (lo + 2 * wd) ∧ lo + 2 * wd ≤ 262144) :=
                        ⟨hr, Ms.mid_step (leK_tr K) (leK_tt K) (by omega) hA.1 hA.2.2.1 hR.out.2 hll hmid hhi hI (by omega), by have := HN.out; omega⟩
                      clear hI hr hQ hmid hhi hmide hhie hA g1 g2 g3 g4 g5 g6 hll hmidn hhin hk hR
                      go_wp2_with fail
                      go_roundw
                      case measure => simp [intOf]; have := HLO.out; have := HA.out; omega
                      case rel => exact ⟨lo + 2 * wd, B1, by simp, HE.out.2.2, HE.out.1, HE.out.2.1⟩
              · have hm1' : (n : Int) < (lo : Int) + (wd : Int) := by omega
                have hm2' : (n : Int) < (lo : Int) + 2 * (wd : Int) := by omega
                have HM := hid hm1
                clear hm1
                go_wp2_with fail
                obtain ⟨mid, hmide⟩ : ∃ mid : Nat, mid = n := ⟨_, rfl⟩
                obtain ⟨hi, hhie⟩ : ∃ hi : Nat, hi = n := ⟨_, rfl⟩
                have HMM : Hid (mid = min (lo + wd) n ∧ hi = min (lo + 2 * wd) n ∧ mid = n ∧ hi = n) := by
                  have hmm := HM.out
                  have hll := HLO.out
                  exact ⟨by omega, by omega, hmide, hhie⟩
                clear hmide hhie
                go_loopw [11, 12, 13] (fun s11 s12 s13 wz => ∃ (i j k : Nat) (B : List Nat), s11 = .int .i64 i ∧ s12 = .int .i64 j ∧ s13 = .int .i64 k ∧ Hid (Ms.InI (leK K) A B (B0.take lo ++ (Ms.seg A lo mid).merge (Ms.seg A mid hi) (leK K)) n mid hi i j k ∧ Rows2 w wz ga gb n A B)) (fun _ _ s13 _ => hi - (intOf s13).toNat)
                case atStart =>
                  have hmm := HMM.out
                  have hll := HLO.out
                  exact ⟨lo, mid, lo, B0, rfl, by rw [hmm.2.2.1] <;> simp, rfl, Ms.in_start _ _ hR.out.2 (by omega) (by omega), hR.out.1⟩
                case round =>
                  obtain ⟨i, j, k, B1, rfl, rfl, rfl, hQ⟩ := hrel
                  rename World => w4
                  obtain ⟨hI, hr⟩ := hQ.out
                  obtain ⟨hmid, hhi, hmide, hhie⟩ := HMM.out
                  have hA := HA.out
                  obtain ⟨g1, g2, g3, g4, g5, g6⟩ := id hI
                  have hll := HLO.out
                  have hmidn : mid ≤ n := by omega
                  have hhin : hi ≤ n := by omega
                  by_cases hk : k < hi
                  · have hk' : (k : Int) < (n : Int) := by omega
                    have hkn : (k : Int) < (n : Int) := by omega
                    obtain ⟨vb, hvb⟩ : ∃ vb, w4.cell? ⟨gb, k, none⟩ = some vb := ⟨_, owns_cell hr.rb (List.getElem?_eq_getElem (by simp [intCells]; omega))⟩
                    have hfb := owns_free hr.rb k
                    have hvb' : ∀ q, (w4.drewN q).cell? ⟨gb, k, none⟩ = some vb := fun q => (drewN_cell w4 q _).trans hvb
                    have hfb' : ∀ q, (w4.drewN q).frozen? ⟨gb, k, none⟩ = false := fun q => (drewN_frozen w4 q _).trans hfb
                    by_cases hc1 : i < mid
                    · obtain ⟨x, hx⟩ : ∃ x, A[i]? = some x := ⟨_, List.getElem?_eq_getElem (by omega)⟩
                      have hca := owns_cell hr.ra (int_get hx)
                      have hca' : ∀ q, (w4.drewN q).cell? ⟨ga, i, none⟩ = some (.int .i64 x) := fun q => (drewN_cell w4 q _).trans hca
                      have hi' : (i : Int) < (n : Int) := by omega
                      have hin : (i : Int) < (n : Int) := by omega
                      have hd1 : decide ((i : Int) < (n : Int)) = true := by simpa using hi'
                      have hd1n : decide (i < n) = true := by simp; omega
                      by_cases hc2 : j < hi
                      · obtain ⟨y, hy⟩ : ∃ y, A[j]? = some y := ⟨_, List.getElem?_eq_getElem (by omega)⟩
                        have hcj := owns_cell hr.ra (int_get hy)
                        have hcj' : ∀ q, (w4.drewN q).cell? ⟨ga, j, none⟩ = some (.int .i64 y) := fun q => (drewN_cell w4 q _).trans hcj
                        have hj' : (j : Int) < (n : Int) := by omega
                        have hjn : (j : Int) < (n : Int) := by omega
                        have hd2 : decide ((n : Int) ≤ (j : Int)) = false := by simp; omega
                        have hd2n : decide (n ≤ j) = false := by simp; omega
                        have hxn : x < n := List.mem_range.1 (hA.2.1.mem_iff.1 (List.mem_of_getElem? hx))
                        have hyn : y < n := List.mem_range.1 (hA.2.1.mem_iff.1 (List.mem_of_getElem? hy))
                        have hxn' : (x : Int) < (n : Int) := by omega
                        have hyn' : (y : Int) < (n : Int) := by omega
                        obtain ⟨ka, rfl, hkx⟩ := (HK.out.ext hr.ext) x hxn
                        obtain ⟨ka', e, hky⟩ := (HK.out.ext hr.ext) y hyn
                        obtain rfl := Option.some.inj e
                        rcases cmp3 (K x) (K y) with ⟨hA1, hA2, hcmp, hA3⟩ | ⟨hA1, hA2, hcmp, hA3⟩ | ⟨hA1, hA2, hcmp, hA3⟩
                        · have HE := hid (And.intro (hI.left2 (by omega) hc1 hc2 hx hy (by simp [leK, hcmp])) (fun q => hr.store (k := k) (x := x) (by omega) q))
                          have HX := hid (And.intro hmid (And.intro hhi hk))
                          clear hI hr hQ hmid hhi hmide hhie hA g1 g2 g3 g4 g5 g6 hll hmidn hhin hk hc1 hc2 hx hy hxn hyn e hcmp
                          go_wp2_with fail
                          go_quiet (fail)
                          all_goals go_wp2_with fail
                          all_goals go_roundw
                          case measure => simp [intOf]; have := HX.out.2.2; omega
                          case rel => exact ⟨i + 1, j, k + 1, _, by simp, rfl, by simp, HE.out.1, HE.out.2 _⟩
                        · have HE := hid (And.intro (hI.left2 (by omega) hc1 hc2 hx hy (by simp [leK, hcmp])) (fun q => hr.store (k := k) (x := x) (by omega) q))
                          have HX := hid (And.intro hmid (And.intro hhi hk))
                          clear hI hr hQ hmid hhi hmide hhie hA g1 g2 g3 g4 g5 g6 hll hmidn hhin hk hc1 hc2 hx hy hxn hyn e hcmp
                          go_wp2_with fail
                          go_quiet (fail)
                          all_goals go_wp2_with fail
                          all_goals go_roundw
                          case measure => simp [intOf]; have := HX.out.2.2; omega
                          case rel => exact ⟨i + 1, j, k + 1, _, by simp, rfl, by simp, HE.out.1, HE.out.2 _⟩
                        · have HE := hid (And.intro (hI.right2 (by omega) hc1 hc2 hx hy (by simp [leK, hcmp])) (fun q => hr.store (k := k) (x := y) (by omega) q))
                          have HX := hid (And.intro hmid (And.intro hhi hk))
                          clear hI hr hQ hmid hhi hmide hhie hA g1 g2 g3 g4 g5 g6 hll hmidn hhin hk hc1 hc2 hx hy hxn hyn e hcmp
                          go_wp2_with fail
                          go_quiet (fail)
                          all_goals go_wp2_with fail
                          all_goals go_roundw
                          case measure => simp [intOf]; have := HX.out.2.2; omega
                          case rel => exact ⟨i, j + 1, k + 1, _, rfl, by simp, by simp, HE.out.1, HE.out.2 _⟩
                      · have hd2 : decide ((n : Int) ≤ (j : Int)) = true := by simp; omega
                        have hd2n : decide (n ≤ j) = true := by simp; omega
                        have hj' : (n : Int) ≤ (j : Int) := by omega
                        have HE := hid (And.intro (hI.left1 (by omega) hc1 (by omega) hx) (fun q => hr.store (k := k) (x := x) (by omega) q))
                        have HX := hid (And.intro hmid (And.intro hhi hk))
                        clear hI hr hQ hmid hhi hmide hhie hA g1 g2 g3 g4 g5 g6 hll hmidn hhin hk hc1 hc2 hx
                        go_wp2_with fail
                        go_quiet (fail)
                        all_goals go_wp2_with fail
                        all_goals go_roundw
                        case measure => simp [intOf]; have := HX.out.2.2; omega
                        case rel => exact ⟨i + 1, j, k + 1, _, by simp, rfl, by simp, HE.out.1, HE.out.2 _⟩
                    · have hc2 : j < hi := by omega
                      obtain ⟨y, hy⟩ : ∃ y, A[j]? = some y := ⟨_, List.getElem?_eq_getElem (by omega)⟩
                      have hcj := owns_cell hr.ra (int_get hy)
                      have hcj' : ∀ q, (w4.drewN q).cell? ⟨ga, j, none⟩ = some (.int .i64 y) := fun q => (drewN_cell w4 q _).trans hcj
                      have hj' : (j : Int) < (n : Int) := by omega
                      have hjn : (j : Int) < (n : Int) := by omega
                      have hd1 : decide ((i : Int) < (n : Int)) = false := by simp; omega
                      have hd1n : decide (i < n) = false := by simp; omega
                      have hi' : (n : Int) ≤ (i : Int) := by omega
                      have HE := hid (And.intro (hI.right1 (by omega) (by omega) hc2 hy) (fun q => hr.store (k := k) (x := y) (by omega) q))
                      have HX := hid (And.intro hmid (And.intro hhi hk))
                      clear hI hr hQ hmid hhi hmide hhie hA g1 g2 g3 g4 g5 g6 hll hmidn hhin hk hc1 hc2 hy
                      go_wp2_with fail
                      go_quiet (fail)
                      all_goals go_wp2_with fail
                      all_goals go_roundw
                      case measure => simp [intOf]; have := HX.out.2.2; omega
                      case rel => exact ⟨i, j + 1, k + 1, _, rfl, by simp, by simp, HE.out.1, HE.out.2 _⟩
                  · have hk' : (n : Int) ≤ (k : Int) := by omega
                    have hlo' : (lo : Int) ≤ 65536 := by omega
                    have HE : Hid (Rows2 w w4 ga gb n A B1 ∧ Ms.MidI (leK K) A B1 n (2 * wd) (lo + 2 * wd) ∧ lo + 2 * wd ≤ 262144) :=
                      ⟨hr, Ms.mid_step (leK_tr K) (leK_tt K) (by omega) hA.1 hA.2.2.1 hR.out.2 hll hmid hhi hI (by omega), by have := HN.out; omega⟩
                    clear hI hr hQ hmid hhi hmide hhie hA g1 g2 g3 g4 g5 g6 hll hmidn hhin hk hR
                    go_wp2_with fail
                    go_roundw
                    case measure => simp [intOf]; have := HLO.out; have := HA.out; omega
                    case rel => exact ⟨lo + 2 * wd, B1, by simp, HE.out.2.2, HE.out.1, HE.out.2.1⟩
            · have hlt' : (n : Int) ≤ (lo : Int) := by omega
              have HE : Hid (Rows2 w w3 gb ga n B0 A ∧ B0.Perm (List.range n) ∧ Ms.Chunk (leK K) (2 * wd) B0) := by
                obtain ⟨hr, hm⟩ := hR.out
                obtain ⟨e1, e2⟩ := Ms.mid_end HA.out.1 hm (by omega)
                exact ⟨⟨hr.rb, hr.ra, hr.ne.symm, hr.lb, hr.la, hr.ext⟩, e1.trans HA.out.2.1, e2⟩
              clear hR hlt hlo
              go_wp2_with fail
              go_roundw
              case measure => simp [intOf]; have := HA.out; omega
              case rel => exact ⟨gb, ga, 2 * wd, B0, A, rfl, rfl, by simp [Int.mul_comm], by have := HA.out; omega, by have := HA.out; have := HN.out; omega, HE.out.1, HE.out.2.1, HA.out.1, HE.out.2.2⟩
        · have hwd' : (n : Int) ≤ (wd : Int) := by omega
          have HE : Hid (w2.ownsRow 0 3 1 (.slice (some ⟨ga, 0, none⟩) n n) n (intCells A) ∧ A.Perm (List.range n) ∧ (A.Pairwise fun a b => leK K a b = true) ∧ Ext [] w w2) := by
            obtain ⟨_, _, hr, hp, _, hc⟩ := hR.out
            exact ⟨hr.ra, hp, Ms.chunk_all (n := n) (by rw [hp.length_eq]; simp) hc (by omega), hr.ext⟩
          clear hR hwd
          go_wp2_with fail
          go_ret
          exact ⟨ga, A, rfl, HE.out⟩
end Go.Proofs.Qxb6613201a
