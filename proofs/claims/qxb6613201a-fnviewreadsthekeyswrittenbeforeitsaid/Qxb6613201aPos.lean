/- '(*node).position': sort.Search over a leaf's records. -/
import Derived.Test.Qxb6613201aRec
import Derived.Test.Qxb6613201aChild
import Derived.Laws.BytesString
import Derived.Laws.BytesArg
set_option linter.unusedVariables false
namespace Go.Proofs.Qxb6613201a
open Go.RowKit

theorem one_name {nm nm' : String} {s s' : TypeId} (e : #[(nm, s)] = #[(nm', s')]) : nm = nm' := by simp at e; exact e.1
theorem meth_of {nm : String} {s : TypeId} (h : Try.prog.underlying 102 = some (.interface #[(nm, s)])) : ∀ (v : Value) (w : World), (Go.method 240 28 v nm).run Try.prog w = .ok (54, v) w := by
  have e := h.symm.trans Try.underlying102
  simp only [Option.some.injEq, TypeDesc.interface.injEq] at e
  obtain rfl := one_name e
  intro v w
  kernel_rfl
theorem ahead_of {nm : String} {s : TypeId} (h : Try.prog.underlying 102 = some (.interface #[(nm, s)])) : ∀ (a : Addr) (w : World), (nilAhead 240 28 (.pointer (some a)) nm).run Try.prog w = .ok (some false) w := by
  have e := h.symm.trans Try.underlying102
  simp only [Option.some.injEq, TypeDesc.interface.injEq] at e
  obtain rfl := one_name e
  intro a w
  kernel_rfl

theorem key_nums (K : ByteArray) : strOfNums (K.data.toList.map fun b => (b.toNat : Int)) = K := by
  cases K with
  | mk d =>
    unfold strOfNums
    apply congrArg ByteArray.mk
    rw [List.map_map]
    have : ((fun n : Int => UInt8.ofNat n.toNat) ∘ fun b : UInt8 => (b.toNat : Int)) = id := by
      funext b; simp
    rw [this, List.map_id]
/-- string(k), k a key that lies in the records. -/
theorem KeyVal.str {w : World} {rb : Nat} {v : Value} {K : ByteArray} (h : KeyVal w rb v K) : (convert 58 9 v).run Try.prog w = .ok (.string K) w := by
  obtain ⟨ko, rfl, hc⟩ := h
  have hcell : ∀ i, i < K.size → w.cell? ⟨rb, ko + i, none⟩ = some (.int .u8 ((K.data.toList.map fun b => (b.toNat : Int)).getD i 0)) := fun i hi => by
    have hi' : i < K.data.toList.length := by simpa using hi
    rw [hc i _ (List.getElem?_eq_getElem hi')]
    simp [List.getD, List.getElem?_eq_getElem hi']
  have := run_convert_bytes_arg (P := Try.prog) w 58 5 Try.underlying58 Try.underlying5 rb ko K.size K.size (K.data.toList.map fun b => (b.toNat : Int)) (by simp) hcell 9 Try.underlying9
  rw [this, key_nums]

/-- The cells of references. -/
def refCells (off : Nat → Nat) (ks : List Nat) : List Value := ks.flatMap fun k => [.int .u32 1, .int .u32 (off k)]
theorem refCells_len (off : Nat → Nat) (ks : List Nat) : (refCells off ks).length = ks.length * 2 := by
  induction ks with
  | nil => rfl
  | cons k r ih => simp only [refCells, List.flatMap_cons, List.length_append, List.length_cons] at *; simp at *; omega
theorem refCells_get (off : Nat → Nat) (ks : List Nat) (j k : Nat) (h : ks[j]? = some k) : (refCells off ks)[j * 2]? = some (.int .u32 1) ∧ (refCells off ks)[j * 2 + 1]? = some (.int .u32 (off k)) := by
  induction ks generalizing j with
  | nil => simp at h
  | cons a r ih =>
    cases j with
    | zero => simp at h; subst h; simp [refCells]
    | succ j =>
      have := ih j (by simpa using h)
      have e1 : (j + 1) * 2 = j * 2 + 1 + 1 := by omega
      have e2 : (j + 1) * 2 + 1 = j * 2 + 1 + 1 + 1 := by omega
      rw [e2, e1]
      exact this

set_option maxHeartbeats 1000000 in
set_option maxRecDepth 100000 in
theorem less48 (tb cb rb cap p r3 r4 r5 b n c i : Nat) (bytes : List UInt8) (K x : ByteArray) (off : Nat) (w : World) (E : Env w tb cb rb bytes cap) (hR : RecAt bytes off K) (hK : K.size < 268435456)
    (h3 : w.cell? ⟨r3, 0, none⟩ = some (.pointer (some ⟨p, 0, none⟩))) (h4 : w.cell? ⟨r4, 0, none⟩ = some (.iface 28 (.pointer (some ⟨tb, 0, none⟩)))) (h5 : w.cell? ⟨r5, 0, none⟩ = some (.string x))
    (hp : w.cell? ⟨p, 1, none⟩ = some (.slice (some ⟨b, 0, none⟩) n c)) (hi : i < n) (hn : n < 4294967296)
    (hc0 : w.cell? ⟨b, i * 2, none⟩ = some (.int .u32 1)) (hc1 : w.cell? ⟨b, i * 2 + 1, none⟩ = some (.int .u32 off)) :
    Calls Try.prog 48 #[.int .i64 i, .pointer (some ⟨r4, 0, none⟩), .pointer (some ⟨r3, 0, none⟩), .pointer (some ⟨r5, 0, none⟩)] w fun e w' => e = .returned (.bool (!klt K x)) ∧ Below w.heap.size w w' := by
  have mU := meth_of Try.underlying102
  have nU := ahead_of Try.underlying102
  have g1 : (i : Int) < (n : Int) := by omega
  have H : Hid (Calls Try.prog 54 #[.pointer (some ⟨tb, 0, none⟩), .agg #[.int .u32 1, .int .u32 off]] w.drew fun e w' => ∃ kv vv, e = .returned (.tuple #[kv, vv]) ∧ KeyVal w' rb kv K ∧ Below w.heap.size w w') :=
    (record54 tb cb rb off cap bytes K w.drew (E.below ((Below.refl _ _).drew)) hR hK).mono (by
      rintro e w' ⟨kv, vv, he, hk, hb⟩
      exact ⟨kv, vv, he, hk, ((Below.refl w.heap.size w).drew).trans hb⟩)
  have HS : Hid (∀ w' : World, Below w.heap.size w w' → w'.cell? ⟨r3, 0, none⟩ = some (.pointer (some ⟨p, 0, none⟩)) ∧ w'.cell? ⟨r4, 0, none⟩ = some (.iface 28 (.pointer (some ⟨tb, 0, none⟩))) ∧ w'.cell? ⟨p, 1, none⟩ = some (.slice (some ⟨b, 0, none⟩) n c) ∧
      w'.cell? ⟨b, i * 2, none⟩ = some (.int .u32 1) ∧ w'.cell? ⟨b, i * 2 + 1, none⟩ = some (.int .u32 off)) := fun w' hb =>
    ⟨(hb.cell (p := ⟨r3, 0, none⟩) (World.block_lt_of_cell? _ _ h3)).trans h3, (hb.cell (p := ⟨r4, 0, none⟩) (World.block_lt_of_cell? _ _ h4)).trans h4, (hb.cell (p := ⟨p, 1, none⟩) (World.block_lt_of_cell? _ _ hp)).trans hp,
      (hb.cell (p := ⟨b, i * 2, none⟩) (World.block_lt_of_cell? _ _ hc0)).trans hc0, (hb.cell (p := ⟨b, i * 2 + 1, none⟩) (World.block_lt_of_cell? _ _ hc1)).trans hc1⟩
  have H5 : Hid (∀ w' : World, Below w.heap.size w w' → w'.cell? ⟨r5, 0, none⟩ = some (.string x)) := fun w' hb => (hb.cell (p := ⟨r5, 0, none⟩) (World.block_lt_of_cell? _ _ h5)).trans h5
  clear E hR hK
  go_enter Try.func48, Try.ntmps48
  go_wp2
  go_region_held (fun w' => w'.cell? ⟨r3, 0, none⟩ = some (.pointer (some ⟨p, 0, none⟩)) ∧ w'.cell? ⟨r4, 0, none⟩ = some (.iface 28 (.pointer (some ⟨tb, 0, none⟩))) ∧ w'.cell? ⟨p, 1, none⟩ = some (.slice (some ⟨b, 0, none⟩) n c) ∧
      w'.cell? ⟨b, i * 2, none⟩ = some (.int .u32 1) ∧ w'.cell? ⟨b, i * 2 + 1, none⟩ = some (.int .u32 off)) (first | exact HS.out _ (by assumption) | exact HS.out _ ((Below.refl _ _).drew))
    (first | (go_at_call 54; refine (Hid.out H).mono ?_; rintro e w2 ⟨kv, vv, rfl, hkv, hb2⟩))
  have hstr := hkv.str
  have hx := H5.out w2 hb2
  have HB2 := hid hb2
  clear hkv hb2 H HS H5
  go_wp2
  go_ret
  exact ⟨rfl, HB2.out⟩

/-! ### sort.Search over the closure -/
/-- The leaf's records, as the search reads them. -/
structure Leaf (w : World) (off : Nat → Nat) (p b c : Nat) (ks : List Nat) : Prop where
  refs : w.cell? ⟨p, 1, none⟩ = some (.slice (some ⟨b, 0, none⟩) ks.length c)
  cells : ∀ j k, ks[j]? = some k → w.cell? ⟨b, j * 2, none⟩ = some (.int .u32 1) ∧ w.cell? ⟨b, j * 2 + 1, none⟩ = some (.int .u32 (off k))
theorem Leaf.below {w w' : World} {off : Nat → Nat} {p b c : Nat} {ks : List Nat} (h : Leaf w off p b c ks) (hb : Below w.heap.size w w') : Leaf w' off p b c ks :=
  ⟨(hb.cell (p := ⟨p, 1, none⟩) (World.block_lt_of_cell? _ _ h.refs)).trans h.refs, fun j k hk =>
    ⟨(hb.cell (p := ⟨b, j * 2, none⟩) (World.block_lt_of_cell? _ _ (h.cells j k hk).1)).trans (h.cells j k hk).1, (hb.cell (p := ⟨b, j * 2 + 1, none⟩) (World.block_lt_of_cell? _ _ (h.cells j k hk).2)).trans (h.cells j k hk).2⟩⟩
/-- The keys: each has its record. -/
structure Keys (bytes : List UInt8) (off : Nat → Nat) (K : Nat → ByteArray) (ks : List Nat) : Prop where
  lies : ∀ k ∈ ks, RecAt bytes (off k) (K k)
  small : ∀ k ∈ ks, (K k).size < 268435456

set_option maxHeartbeats 2000000 in
set_option maxRecDepth 100000 in
theorem search47 (tb cb rb cap p r3 r4 r5 b c : Nat) (bytes : List UInt8) (off : Nat → Nat) (K : Nat → ByteArray) (ks : List Nat) (x : ByteArray) (w : World) (E : Env w tb cb rb bytes cap) (hKs : Keys bytes off K ks) (hl : Leaf w off p b c ks)
    (hs : ks.Pairwise fun i j => klt (K i) (K j) = true) (hn : ks.length < 65536)
    (h3 : w.cell? ⟨r3, 0, none⟩ = some (.pointer (some ⟨p, 0, none⟩))) (h4 : w.cell? ⟨r4, 0, none⟩ = some (.iface 28 (.pointer (some ⟨tb, 0, none⟩)))) (h5 : w.cell? ⟨r5, 0, none⟩ = some (.string x)) :
    Calls Try.prog 47 #[.int .i64 ks.length, .func (.func 48) #[] #[.pointer (some ⟨r4, 0, none⟩), .pointer (some ⟨r3, 0, none⟩), .pointer (some ⟨r5, 0, none⟩)]] w fun e w' => e = .returned (.int .i64 (Bt.posn klt K ks x : Nat)) ∧ Below w.heap.size w w' := by
  have hs' : Hid (∀ (i j a b' : Nat), ks[i]? = some a → ks[j]? = some b' → i < j → klt (K a) (K b') = true) := by
    intro i j a b' ha hb hij
    obtain ⟨hi, rfl⟩ := List.getElem?_eq_some_iff.1 ha
    obtain ⟨hj, rfl⟩ := List.getElem?_eq_some_iff.1 hb
    exact List.pairwise_iff_getElem.1 hs i j hi hj hij
  -- the closure, in whatever world behind w
  have HC : Hid (∀ (w' : World), Below w.heap.size w w' → ∀ (i k : Nat), ks[i]? = some k →
      Calls Try.prog 48 #[.int .i64 i, .pointer (some ⟨r4, 0, none⟩), .pointer (some ⟨r3, 0, none⟩), .pointer (some ⟨r5, 0, none⟩)] w' fun e w2 => e = .returned (.bool (!klt (K k) x)) ∧ Below w.heap.size w w2) := fun w' hb i k hk => by
    have hl' := hl.below hb
    have hm := List.mem_of_getElem? hk
    refine (less48 tb cb rb cap p r3 r4 r5 b ks.length c i bytes (K k) x (off k) w' (E.below hb) (hKs.lies k hm) (hKs.small k hm)
      ((hb.cell (p := ⟨r3, 0, none⟩) (World.block_lt_of_cell? _ _ h3)).trans h3) ((hb.cell (p := ⟨r4, 0, none⟩) (World.block_lt_of_cell? _ _ h4)).trans h4) ((hb.cell (p := ⟨r5, 0, none⟩) (World.block_lt_of_cell? _ _ h5)).trans h5)
      hl'.refs (List.getElem?_eq_some_iff.1 hk).1 (by omega) (hl'.cells i k hk).1 (hl'.cells i k hk).2).mono ?_
    rintro e w2 ⟨he, hb2⟩
    exact ⟨he, hb.trans (hb2.mono hb.size)⟩
  obtain ⟨n, hnl⟩ : ∃ n, ks.length = n := ⟨_, rfl⟩
  rw [hnl] at hn ⊢
  have HN := hid hnl
  clear E hKs hl hs h3 h4 h5 hnl
  go_enter Try.func47, Try.ntmps47
  go_wp2
  go_loopw [5, 6] (fun s5 s6 wr => ∃ lo hi : Nat, s5 = .int .i64 lo ∧ s6 = .int .i64 hi ∧ lo ≤ hi ∧ hi ≤ n ∧ Hid ((∀ (j k : Nat), j < lo → ks[j]? = some k → klt (K k) x = true) ∧ (∀ (j k : Nat), hi ≤ j → ks[j]? = some k → klt (K k) x = false) ∧ Below w.heap.size w wr))
    (fun s5 s6 _ => (intOf s6).toNat - (intOf s5).toNat)
  case atStart => exact ⟨0, n, rfl, rfl, Nat.zero_le _, Nat.le_refl _, fun j k hj => by omega, fun j k hj hk => by have := (List.getElem?_eq_some_iff.1 hk).1; have := HN.out; omega, Below.refl _ _⟩
  case round =>
    obtain ⟨lo, hi, rfl, rfl, hlh, hin, hR⟩ := hrel
    by_cases hlt : lo < hi
    · obtain ⟨k, hk⟩ : ∃ k, ks[(lo + hi) / 2]? = some k := ⟨ks[(lo + hi) / 2]'(by have := HN.out; omega), List.getElem?_eq_getElem _⟩
      have HK := hid hk
      have C := hid (HC.out _ hR.out.2.2 _ k hk)
      clear hk
      cases hkx : klt (K k) x
      · rw [hkx] at C
        go_wp2_with (go_at_call 48; refine (Hid.out C).mono ?_; rintro e w2 ⟨rfl, hb2⟩)
        have HB := hid hb2
        clear hb2 C
        go_wp2
        go_roundw
        case measure => simp [intOf]; omega
        case rel => exact ⟨lo, (lo + hi) / 2, rfl, by rw [show ((lo : Int) + (hi : Int)) / 2 = (((lo + hi) / 2 : Nat) : Int) by omega], by omega, by omega, hR.out.1, (fun j a hj ha => by
            by_cases e : j = (lo + hi) / 2
            · subst e; rw [HK.out] at ha; obtain rfl := Option.some.inj ha; exact hkx
            · have h1 := hs'.out _ _ _ _ HK.out ha (by omega)
              cases h2 : klt (K a) x with
              | false => rfl
              | true => have h3 := kOrd.tr _ _ _ h1 h2; rw [hkx] at h3; cases h3), HB.out⟩
      · rw [hkx] at C
        go_wp2_with (go_at_call 48; refine (Hid.out C).mono ?_; rintro e w2 ⟨rfl, hb2⟩)
        have HB := hid hb2
        clear hb2 C
        go_wp2
        go_roundw
        case measure => simp [intOf]; omega
        case rel => exact ⟨(lo + hi) / 2 + 1, hi, by rw [show ((lo : Int) + (hi : Int)) / 2 + 1 = (((lo + hi) / 2 + 1 : Nat) : Int) by omega], rfl, by omega, hin, (fun j a hj ha => by
            by_cases e : j = (lo + hi) / 2
            · subst e; rw [HK.out] at ha; obtain rfl := Option.some.inj ha; exact hkx
            · have h1 := hs'.out _ _ _ _ ha HK.out (by omega)
              exact kOrd.tr _ _ _ h1 hkx), hR.out.2.1, HB.out⟩
    · have : hi = lo := by omega
      subst this
      have HP : Hid (Bt.posn klt K ks x = hi) := Bt.posn_spec (by have := HN.out; omega) hR.out.1 (fun k hk => hR.out.2.1 hi k (Nat.le_refl _) hk)
      go_wp2
      go_ret
      exact ⟨by rw [HP.out]; rfl, hR.out.2.2⟩

theorem alloc3 (w : World) (a b c : Value) (ta tb tc : TypeId) : (((w.alloc (.cells #[a] ta)).alloc (.cells #[b] tb)).alloc (.cells #[c] tc)).cell? ⟨w.heap.size, 0, none⟩ = some a ∧
    (((w.alloc (.cells #[a] ta)).alloc (.cells #[b] tb)).alloc (.cells #[c] tc)).cell? ⟨w.heap.size + 1, 0, none⟩ = some b ∧ (((w.alloc (.cells #[a] ta)).alloc (.cells #[b] tb)).alloc (.cells #[c] tc)).cell? ⟨w.heap.size + 2, 0, none⟩ = some c := by
  refine ⟨?_, ?_, ?_⟩
  · go_simp
  · go_simp
  · exact World.cell?_alloc_at (w := (w.alloc (.cells #[a] ta)).alloc (.cells #[b] tb)) #[c] tc _ 0 (by simp)
set_option maxHeartbeats 2000000 in
set_option maxRecDepth 100000 in
theorem position39 (tb cb rb cap p b c : Nat) (bytes : List UInt8) (off : Nat → Nat) (K : Nat → ByteArray) (ks : List Nat) (x : ByteArray) (w : World) (E : Env w tb cb rb bytes cap) (hKs : Keys bytes off K ks) (hl : Leaf w off p b c ks)
    (hs : ks.Pairwise fun i j => klt (K i) (K j) = true) (hn : ks.length < 65536) :
    Calls Try.prog 39 #[.pointer (some ⟨p, 0, none⟩), .iface 28 (.pointer (some ⟨tb, 0, none⟩)), .string x] w fun e w' => ∃ f, e = .returned (.tuple #[.int .i64 (Bt.posn klt K ks x : Nat), .bool f]) ∧ Below w.heap.size w w' := by
  have mU := meth_of Try.underlying102
  have nU := ahead_of Try.underlying102
  have hp := hl.refs
  have hplt : p < w.heap.size := World.block_lt_of_cell? _ _ hp
  have hplt1 : p < w.heap.size + 1 := by omega
  have hplt2 : p < w.heap.size + 1 + 1 := by omega
  generalize hW : ((w.alloc (.cells #[.pointer (some ⟨p, 0, none⟩)] 36)).alloc (.cells #[.iface 28 (.pointer (some ⟨tb, 0, none⟩))] 102)).alloc (.cells #[.string x] 9) = W
  have hb0 : Below w.heap.size w W := by rw [← hW]; exact (((Below.refl _ _).alloc (Nat.le_refl _) _).alloc (by simp) _).alloc (by first | (simp; done) | (simp; omega)) _
  have c3 : W.cell? ⟨w.heap.size, 0, none⟩ = some (.pointer (some ⟨p, 0, none⟩)) := by rw [← hW]; exact (alloc3 w _ _ _ _ _ _).1
  have c4 : W.cell? ⟨w.heap.size + 1, 0, none⟩ = some (.iface 28 (.pointer (some ⟨tb, 0, none⟩))) := by rw [← hW]; exact (alloc3 w _ _ _ _ _ _).2.1
  have c5 : W.cell? ⟨w.heap.size + 2, 0, none⟩ = some (.string x) := by rw [← hW]; exact (alloc3 w _ _ _ _ _ _).2.2
  have hsz : W.heap.size = w.heap.size + 3 := by rw [← hW]; simp
  have H : Hid (Calls Try.prog 47 #[.int .i64 ks.length, .func (.func 48) #[] #[.pointer (some ⟨w.heap.size + 1, 0, none⟩), .pointer (some ⟨w.heap.size, 0, none⟩), .pointer (some ⟨w.heap.size + 2, 0, none⟩)]] W fun e w' => e = .returned (.int .i64 (Bt.posn klt K ks x : Nat)) ∧ Below W.heap.size W w') :=
    search47 tb cb rb cap p _ _ _ b c bytes off K ks x W (E.below hb0) hKs (hl.below hb0) hs hn c3 c4 c5
  have HW := hid hW
  have HE := hid E
  have HL := hid hl
  have HKS := hid hKs
  have HB0 := hid hb0
  have hpl := Bt.posn_le (lt := klt) (K := K) ks x
  obtain ⟨n, hnl⟩ : ∃ n, ks.length = n := ⟨_, rfl⟩
  rw [hnl] at H hn hpl hp
  have HN := hid hnl
  clear E hKs hl hs hW hb0 hnl
  go_enter Try.func39, Try.ntmps39
  go_wp2_with fail
  rw [HW.out]
  refine H.out.mono ?_
  rintro e w1 ⟨rfl, hb1⟩
  have HB1 : Hid (Below w.heap.size w w1) := HB0.out.trans (hb1.mono HB0.out.size)
  have d3 : w1.cell? ⟨w.heap.size, 0, none⟩ = some (.pointer (some ⟨p, 0, none⟩)) := (hb1.cell (p := ⟨w.heap.size, 0, none⟩) (by show w.heap.size < W.heap.size; omega)).trans c3
  have d4 : w1.cell? ⟨w.heap.size + 1, 0, none⟩ = some (.iface 28 (.pointer (some ⟨tb, 0, none⟩))) := (hb1.cell (p := ⟨w.heap.size + 1, 0, none⟩) (by show w.heap.size + 1 < W.heap.size; omega)).trans c4
  have d5 : w1.cell? ⟨w.heap.size + 2, 0, none⟩ = some (.string x) := (hb1.cell (p := ⟨w.heap.size + 2, 0, none⟩) (by show w.heap.size + 2 < W.heap.size; omega)).trans c5
  have dp : w1.cell? ⟨p, 1, none⟩ = some (.slice (some ⟨b, 0, none⟩) n c) := (HB1.out.cell (p := ⟨p, 1, none⟩) hplt).trans hp
  have hw1 : W.heap.size ≤ w1.heap.size := hb1.size
  clear hb1 H c3 c4 c5 hp HW
  obtain ⟨i, hi⟩ : ∃ i, Bt.posn klt K ks x = i := ⟨_, rfl⟩
  have HP := hid hi
  rw [hi] at hpl ⊢
  clear hi
  by_cases hin : i = n
  · have hq : ((i : Int) == (n : Int)) = true := by rw [hin]; simp
    have HI := hid hin
    clear hin
    go_wp2
    go_ret2
    exact ⟨false, by rw [HP.out]; rfl, HB1.out⟩
  · have hq : ((i : Int) == (n : Int)) = false := by rw [beq_eq_false_iff_ne]; omega
    have hlt : (i : Int) < (n : Int) := by omega
    obtain ⟨k, hk⟩ : ∃ k, ks[i]? = some k := ⟨ks[i]'(by have := HN.out; omega), List.getElem?_eq_getElem _⟩
    have hm := List.mem_of_getElem? hk
    have L1 := HL.out.below HB1.out
    have x0 := (L1.cells i k hk).1
    have x1 := (L1.cells i k hk).2
    have H54 : Hid (Calls Try.prog 54 #[.pointer (some ⟨tb, 0, none⟩), .agg #[.int .u32 1, .int .u32 (off k)]] w1.drew fun e w' => ∃ kv vv, e = .returned (.tuple #[kv, vv]) ∧ KeyVal w' rb kv (K k) ∧ Below w1.heap.size w1 w') :=
      (record54 tb cb rb (off k) cap bytes (K k) w1.drew (HE.out.below (HB1.out.drew)) (HKS.out.lies k hm) (HKS.out.small k hm)).mono (by
        rintro e w' ⟨kv, vv, he, hk, hb⟩
        exact ⟨kv, vv, he, hk, ((Below.refl w1.heap.size w1).drew).trans hb⟩)
    have HS : Hid (∀ w' : World, Below w1.heap.size w1 w' → w'.cell? ⟨w.heap.size, 0, none⟩ = some (.pointer (some ⟨p, 0, none⟩)) ∧ w'.cell? ⟨w.heap.size + 1, 0, none⟩ = some (.iface 28 (.pointer (some ⟨tb, 0, none⟩))) ∧ w'.cell? ⟨p, 1, none⟩ = some (.slice (some ⟨b, 0, none⟩) n c) ∧
        w'.cell? ⟨b, i * 2, none⟩ = some (.int .u32 1) ∧ w'.cell? ⟨b, i * 2 + 1, none⟩ = some (.int .u32 (off k))) := fun w' hb =>
      ⟨(hb.cell (p := ⟨w.heap.size, 0, none⟩) (World.block_lt_of_cell? _ _ d3)).trans d3, (hb.cell (p := ⟨w.heap.size + 1, 0, none⟩) (World.block_lt_of_cell? _ _ d4)).trans d4, (hb.cell (p := ⟨p, 1, none⟩) (World.block_lt_of_cell? _ _ dp)).trans dp,
        (hb.cell (p := ⟨b, i * 2, none⟩) (World.block_lt_of_cell? _ _ x0)).trans x0, (hb.cell (p := ⟨b, i * 2 + 1, none⟩) (World.block_lt_of_cell? _ _ x1)).trans x1⟩
    have H5 : Hid (∀ w' : World, Below w1.heap.size w1 w' → w'.cell? ⟨w.heap.size + 2, 0, none⟩ = some (.string x)) := fun w' hb => (hb.cell (p := ⟨w.heap.size + 2, 0, none⟩) (World.block_lt_of_cell? _ _ d5)).trans d5
    clear hin hk hm L1
    generalize off k = ok at *
    go_wp2
    go_region_held (fun w' => w'.cell? ⟨w.heap.size, 0, none⟩ = some (.pointer (some ⟨p, 0, none⟩)) ∧ w'.cell? ⟨w.heap.size + 1, 0, none⟩ = some (.iface 28 (.pointer (some ⟨tb, 0, none⟩))) ∧ w'.cell? ⟨p, 1, none⟩ = some (.slice (some ⟨b, 0, none⟩) n c) ∧
        w'.cell? ⟨b, i * 2, none⟩ = some (.int .u32 1) ∧ w'.cell? ⟨b, i * 2 + 1, none⟩ = some (.int .u32 ok)) (first | exact HS.out _ (by assumption) | exact HS.out _ ((Below.refl _ _).drew))
      (first | (go_at_call 54; refine (Hid.out H54).mono ?_; rintro e w2 ⟨kv, vv, rfl, hkv, hb2⟩))
    have hstr : (convert 58 9 kv).run Try.prog w2 = .ok (.string (K k)) w2 := hkv.str
    have hstr' : (convert 58 9 kv).run Try.prog w2.drew = .ok (.string (K k)) w2.drew := KeyVal.str (show KeyVal w2.drew rb kv (K k) from hkv)
    have hx := H5.out w2 hb2
    have HB2 : Hid (Below w.heap.size w w2) := HB1.out.trans (hb2.mono HB1.out.size)
    clear hkv hb2 H54 HS H5 d3 d4 d5 dp x0 x1
    go_wp2
    go_region
    all_goals go_wp2
    all_goals go_ret2
    all_goals exact ⟨_, by rw [HP.out]; rfl, HB2.out.drew⟩
end Go.Proofs.Qxb6613201a
