/- Records: their layout, and the Go functions that read them. -/
import Derived.Test.Qxb6613201aBase
import Derived.Test.Qxb6613201aShelf
import Derived.Lib.Varint
import Derived.Lib.VarintDec
set_option linter.unusedVariables false
namespace Go.Proofs.Qxb6613201a
open Go.RowKit

/-! ### the layout -/
theorem dec_enc : ∀ (k i acc x : Nat) (rest : List UInt8), x < 128 ^ (k + 1) → i + k < 9 →
    Lib.uvarintFrom i acc (Lib.uvarint x ++ rest) = (acc + x * 2 ^ (7 * i), ((i + (Lib.uvarint x).length : Nat) : Int))
  | 0, i, acc, x, rest, h, hi => by
    have hx : x < 128 := by simpa using h
    have e : (x.toUInt8).toNat = x := by simp [Nat.toUInt8, UInt8.toNat_ofNat']; omega
    rw [Lib.uvarint_small hx]
    have h1 : ¬ (i = 10) := by omega
    have h2 : ¬ (i = 9) := by omega
    simp [Lib.uvarintFrom, e, hx, h1, h2]
  | k + 1, i, acc, x, rest, h, hi => by
    by_cases hx : x < 128
    · have e : (x.toUInt8).toNat = x := by simp [Nat.toUInt8, UInt8.toNat_ofNat']; omega
      rw [Lib.uvarint_small hx]
      have h1 : ¬ (i = 10) := by omega
      have h2 : ¬ (i = 9) := by omega
      simp [Lib.uvarintFrom, e, hx, h1, h2]
    · have e : ((x % 128 + 128).toUInt8).toNat = x % 128 + 128 := by simp [Nat.toUInt8, UInt8.toNat_ofNat']; omega
      rw [Lib.uvarint_big (by omega)]
      have h1 : ¬ (i = 10) := by omega
      have hd : x / 128 < 128 ^ (k + 1) := by rw [Nat.pow_succ] at h; exact Nat.div_lt_of_lt_mul (by rw [Nat.mul_comm]; exact h)
      have ih := dec_enc k (i + 1) (acc + x % 128 * 2 ^ (7 * i)) (x / 128) rest hd (by omega)
      have e2 : (x % 128 + 128) % 128 = x % 128 := by omega
      have e3 : ¬ (x % 128 + 128 < 128) := by omega
      simp only [List.cons_append, Lib.uvarintFrom, e, h1, e3, e2, if_false]
      rw [ih]
      have e4 : acc + x % 128 * 2 ^ (7 * i) + x / 128 * 2 ^ (7 * (i + 1)) = acc + x * 2 ^ (7 * i) := by
        rw [show 7 * (i + 1) = 7 * i + 7 by omega, Nat.pow_add, show (2 : Nat) ^ 7 = 128 by decide]
        have : x / 128 * (2 ^ (7 * i) * 128) = x / 128 * 128 * 2 ^ (7 * i) := by rw [Nat.mul_comm (2 ^ (7 * i)) 128, Nat.mul_assoc]
        rw [this, Nat.add_assoc, ← Nat.add_mul]
        congr 2
        omega
      rw [e4]
      simp only [List.length_cons]
      congr 1
      omega
theorem dec_rec (x : Nat) (rest : List UInt8) (h : x < 268435456) : Lib.uvarintDec (Lib.uvarint x ++ rest) = (x, ((Lib.uvarint x).length : Int)) := by
  have := dec_enc 3 0 0 x rest (by simpa using h) (by omega)
  simpa [Lib.uvarintDec] using this

/-- One record: a zero digest, the key's length, a value length of 0, the key. -/
def recOf (K : ByteArray) : List UInt8 := List.replicate 32 0 ++ (Lib.uvarint K.size ++ (0 :: K.data.toList))
def RecAt (bytes : List UInt8) (off : Nat) (K : ByteArray) : Prop := ∃ rest, bytes.drop off = recOf K ++ rest

theorem recOf_len (K : ByteArray) : (recOf K).length = 33 + (Lib.uvarint K.size).length + K.size := by
  simp [recOf]; omega
theorem RecAt.fits {bytes : List UInt8} {off : Nat} {K : ByteArray} (h : RecAt bytes off K) : off + 33 + (Lib.uvarint K.size).length + K.size ≤ bytes.length := by
  obtain ⟨rest, h⟩ := h
  have := congrArg List.length h
  rw [List.length_drop, List.length_append, recOf_len] at this
  have := Lib.uvarint_pos K.size
  omega
theorem RecAt.dec1 {bytes : List UInt8} {off : Nat} {K : ByteArray} (h : RecAt bytes off K) (hK : K.size < 268435456) : Lib.uvarintDec (bytes.drop (off + 32)) = (K.size, ((Lib.uvarint K.size).length : Int)) := by
  obtain ⟨rest, h⟩ := h
  rw [← List.drop_drop, h, recOf, List.append_assoc, List.drop_left' (by simp), List.append_assoc]
  exact dec_rec _ _ hK
theorem RecAt.dec2 {bytes : List UInt8} {off : Nat} {K : ByteArray} (h : RecAt bytes off K) : Lib.uvarintDec (bytes.drop (off + (32 + (Lib.uvarint K.size).length))) = (0, 1) := by
  obtain ⟨rest, h⟩ := h
  rw [← List.drop_drop, ← List.drop_drop, h, recOf, List.append_assoc, List.drop_left' (by simp), List.append_assoc, List.drop_left' rfl]
  rfl
theorem RecAt.key {bytes : List UInt8} {off : Nat} {K : ByteArray} (h : RecAt bytes off K) (j : Nat) (b : UInt8) (hb : K.data.toList[j]? = some b) : bytes[off + (33 + (Lib.uvarint K.size).length) + j]? = some b := by
  have hj : j < K.size := by have := (List.getElem?_eq_some_iff.1 hb).1; simpa using this
  obtain ⟨rest, h⟩ := h
  have e : bytes[off + (33 + (Lib.uvarint K.size).length) + j]? = (bytes.drop off)[33 + (Lib.uvarint K.size).length + j]? := by rw [List.getElem?_drop]; congr 1; omega
  rw [e, h, recOf, List.append_assoc, List.getElem?_append_right (by simp; omega)]
  simp only [List.length_replicate]
  rw [List.append_assoc, List.getElem?_append_right (by omega), show 33 + (Lib.uvarint K.size).length + j - 32 - (Lib.uvarint K.size).length = j + 1 by omega]
  rw [List.cons_append, List.getElem?_cons_succ, List.getElem?_append_left (by simpa using hj)]
  exact hb

/-! ### what the Go functions read -/
structure Env (w : World) (tb cb rb : Nat) (bytes : List UInt8) (cap : Nat) : Prop where
  chunks : w.cell? ⟨tb, 4, none⟩ = some (.slice (some ⟨cb, 0, none⟩) 2 2)
  recs : w.cell? ⟨cb, 3, none⟩ = some (.slice (some ⟨rb, 0, none⟩) bytes.length cap)
  data : ∀ j (h : j < bytes.length), w.cell? ⟨rb, j, none⟩ = some (.int .u8 bytes[j].toNat)
  fits : bytes.length ≤ cap
  small : cap < 4294967296
/-- The slice v is the key K, lying in the records. -/
def KeyVal (w : World) (rb : Nat) (v : Value) (K : ByteArray) : Prop :=
  ∃ ko, v = .slice (some ⟨rb, ko, none⟩) K.size K.size ∧ ∀ (j : Nat) (b : UInt8), K.data.toList[j]? = some b → w.cell? ⟨rb, ko + j, none⟩ = some (.int .u8 b.toNat)

set_option maxHeartbeats 1000000 in
set_option maxRecDepth 100000 in
theorem read43 (rb off cap : Nat) (bytes : List UInt8) (K : ByteArray) (w : World) (hR : RecAt bytes off K) (hK : K.size < 268435456) (hdata : ∀ j (h : j < bytes.length), w.cell? ⟨rb, j, none⟩ = some (.int .u8 bytes[j].toNat)) (hcap : bytes.length ≤ cap) (hsm : cap < 4294967296) :
    Calls Try.prog 43 #[.slice (some ⟨rb, off, none⟩) (bytes.length - off) (cap - off)] w fun e w' => ∃ kv vv sz q, e = .returned (.tuple #[kv, vv, sz]) ∧ KeyVal w rb kv K ∧ w' = w.drewN q := by
  have hf := hR.fits
  have hu := Lib.uvarint_pos K.size
  have U1 := hid (Try.binary_Uvarint rb (off + 32) (bytes.length - off - 32) (cap - off - 32) (bytes.drop (off + 32)) w (by rw [List.length_drop]; omega) (fun j hj => by
    rw [hdata (off + 32 + j) (by rw [List.length_drop] at hj; omega), List.getElem_drop]))
  rw [hR.dec1 hK] at U1
  generalize hL : (Lib.uvarint K.size).length = L at *
  have U2 := hid (Try.binary_Uvarint rb (off + (32 + L)) (bytes.length - off - (32 + L)) (cap - off - (32 + L)) (bytes.drop (off + (32 + L))) w (by rw [List.length_drop]; omega) (fun j hj => by
    rw [hdata (off + (32 + L) + j) (by rw [List.length_drop] at hj; omega), List.getElem_drop]))
  have hd2 := hR.dec2
  rw [hL] at hd2
  rw [hd2] at U2
  have hk1 := hR.key
  rw [hL] at hk1
  have HK : Hid (∀ (j : Nat) (b : UInt8), K.data.toList[j]? = some b → w.cell? ⟨rb, off + (33 + L) + j, none⟩ = some (.int .u8 b.toNat)) := fun j b hb => by
    have h1 := hk1 j b hb
    obtain ⟨h2, h3⟩ := List.getElem?_eq_some_iff.1 h1
    rw [hdata _ h2, h3]
  clear hk1 hd2 hL hR hdata
  obtain ⟨m, hm⟩ : ∃ m, K.size = m := ⟨_, rfl⟩
  rw [hm] at hf hK U1
  have HM : Hid (K.size = m) := hm
  clear hm
  go_enter Try.func43, Try.ntmps43
  go_wp2_with fail
  refine U1.out.mono ?_
  rintro e w' ⟨rfl, rfl⟩
  go_wp2_with fail
  refine U2.out.mono ?_
  rintro e w' ⟨rfl, rfl⟩
  go_wp2_with fail
  have e1 : (32 + (L : Int) + 1).toNat = 33 + L := by omega
  have e2 : (32 + (L : Int) + 1 + (m : Int)).toNat = 33 + L + m := by omega
  have g1 : (0 : Int) ≤ 32 + (L : Int) + 1 := by omega
  have g2 : 32 + (L : Int) + 1 ≤ 32 + (L : Int) + 1 + (m : Int) := by omega
  have g3 : 32 + (L : Int) + 1 + (m : Int) ≤ ((cap - off : Nat) : Int) := by omega
  have g4 : (0 : Int) ≤ 32 + (L : Int) + 1 + (m : Int) := by omega
  clear U1 U2
  go_quiet (fail)
  by_cases hm0 : m = 0
  · simp only [if_pos hm0]
    go_wp2
    go_ret3
    refine ⟨_, _, _, nq, rfl, ⟨off, by rw [HM.out]; rfl, fun j b hb => ?_⟩, rfl⟩
    have := (List.getElem?_eq_some_iff.1 hb).1
    have h2 := HM.out
    simp at this
    omega
  · simp only [if_neg hm0]
    go_wp2
    go_ret3
    exact ⟨_, _, _, nq, rfl, ⟨off + (33 + L), by rw [HM.out]; rfl, HK.out⟩, rfl⟩

set_option maxHeartbeats 1000000 in
set_option maxRecDepth 100000 in
theorem bytes44 (cb rb off cap n : Nat) (w : World) (hrecs : w.cell? ⟨cb, 3, none⟩ = some (.slice (some ⟨rb, 0, none⟩) n cap)) (ho : off < n) (hc : n ≤ cap) (hsm : cap < 4294967296) :
    Calls Try.prog 44 #[.slice (some ⟨cb, 0, none⟩) 2 2, .agg #[.int .u32 1, .int .u32 off]] w fun e w' => ∃ q, e = .returned (.slice (some ⟨rb, off, none⟩) (n - off) (cap - off)) ∧ w' = (w.alloc (.cells #[.int .u32 1, .int .u32 off] 42)).drewN q := by
  have hlt : cb < w.heap.size := World.block_lt_of_cell? _ _ hrecs
  have g1 : (off : Int) ≤ (n : Int) := by omega
  have g2 : ¬ (cap = off) := by omega
  go_enter Try.func44, Try.ntmps44
  go_wp2
  go_quiet (fail)
  all_goals go_wp2
  all_goals go_ret
  all_goals exact ⟨nq, rfl, rfl⟩

theorem KeyVal.below {w w' : World} {rb : Nat} {v : Value} {K : ByteArray} (h : KeyVal w rb v K) (hb : Below w.heap.size w w') (hlt : rb < w.heap.size) : KeyVal w' rb v K := by
  obtain ⟨ko, rfl, hc⟩ := h
  exact ⟨ko, rfl, fun j b hj => (hb.cell (p := ⟨rb, ko + j, none⟩) hlt).trans (hc j b hj)⟩
theorem Below.drewN' {B : Nat} {a w : World} (h : Below B a w) (n : Nat) : Below B a (w.drewN n) := by
  induction n with
  | zero => exact h
  | succ n ih => exact ih.drew
theorem Env.pos {w : World} {tb cb rb : Nat} {bytes : List UInt8} {cap off : Nat} {K : ByteArray} (E : Env w tb cb rb bytes cap) (hR : RecAt bytes off K) : rb < w.heap.size := by
  have hf := hR.fits
  exact World.block_lt_of_cell? _ _ (E.data 0 (by omega))
theorem Env.below {w w' : World} {tb cb rb : Nat} {bytes : List UInt8} {cap : Nat} (E : Env w tb cb rb bytes cap) (hb : Below w.heap.size w w') : Env w' tb cb rb bytes cap :=
  ⟨(hb.cell (p := ⟨tb, 4, none⟩) (World.block_lt_of_cell? _ _ E.chunks)).trans E.chunks, (hb.cell (p := ⟨cb, 3, none⟩) (World.block_lt_of_cell? _ _ E.recs)).trans E.recs,
    fun j h => (hb.cell (p := ⟨rb, j, none⟩) (World.block_lt_of_cell? _ _ (E.data j h))).trans (E.data j h), E.fits, E.small⟩
theorem Env.ext {S : List Nat} {w w' : World} {tb cb rb : Nat} {bytes : List UInt8} {cap : Nat} (E : Env w tb cb rb bytes cap) (hb : Ext S w w') (h1 : tb ∉ S) (h2 : cb ∉ S) (h3 : rb ∉ S) : Env w' tb cb rb bytes cap :=
  ⟨(hb.cell (p := ⟨tb, 4, none⟩) (World.block_lt_of_cell? _ _ E.chunks) h1).trans E.chunks, (hb.cell (p := ⟨cb, 3, none⟩) (World.block_lt_of_cell? _ _ E.recs) h2).trans E.recs,
    fun j h => (hb.cell (p := ⟨rb, j, none⟩) (World.block_lt_of_cell? _ _ (E.data j h)) h3).trans (E.data j h), E.fits, E.small⟩

set_option maxHeartbeats 1000000 in
set_option maxRecDepth 100000 in
theorem record35 (tb cb rb off cap : Nat) (bytes : List UInt8) (K : ByteArray) (w : World) (E : Env w tb cb rb bytes cap) (hR : RecAt bytes off K) (hK : K.size < 268435456) :
    Calls Try.prog 35 #[.slice (some ⟨cb, 0, none⟩) 2 2, .agg #[.int .u32 1, .int .u32 off]] w fun e w' => ∃ kv vv, e = .returned (.tuple #[kv, vv]) ∧ KeyVal w' rb kv K ∧ Below w.heap.size w w' := by
  have hf := hR.fits
  have hlt := E.pos hR
  have HE : Hid (Env w tb cb rb bytes cap) := E
  have HR : Hid (RecAt bytes off K) := hR
  clear E hR
  go_enter Try.func35, Try.ntmps35
  go_wp2_with fail
  have hb1 : Below w.heap.size w (w.alloc (.cells #[.int .u32 1, .int .u32 (off : Int)] 42)) := (Below.refl _ _).alloc (Nat.le_refl _) _
  have E1 := HE.out.below hb1
  refine (bytes44 cb rb off cap bytes.length _ E1.recs (by omega) E1.fits E1.small).mono ?_
  rintro e w1 ⟨q, rfl, hw1⟩
  have hb2 : Below w.heap.size w w1 := by rw [hw1]; exact Below.drewN' (hb1.alloc (by simp) _) _
  have E2 := HE.out.below hb2
  have HB2 : Hid (Below w.heap.size w w1) := hb2
  have HD := hid E2.data
  have h5 := E2.fits
  have h6 := E2.small
  clear E1 E2 hb1 hb2 hw1
  go_wp2_with fail
  refine (read43 rb off cap bytes K w1 HR.out hK HD.out h5 h6).mono ?_
  rintro e w2 ⟨kv, vv, sz, q2, rfl, hkv, rfl⟩
  have hb3 : Below w1.heap.size w1 (w1.drewN q2) := Below.drewN' (Below.refl _ _) _
  have HKV : Hid (KeyVal (w1.drewN q2) rb kv K) := hkv.below hb3 (by have := HB2.out.size; omega)
  have HB3 : Hid (Below w.heap.size w (w1.drewN q2)) := Below.drewN' HB2.out _
  clear hkv hb3
  go_wp2
  go_ret2
  exact ⟨_, _, rfl, HKV.out, HB3.out⟩

set_option maxHeartbeats 1000000 in
set_option maxRecDepth 100000 in
theorem record54 (tb cb rb off cap : Nat) (bytes : List UInt8) (K : ByteArray) (w : World) (E : Env w tb cb rb bytes cap) (hR : RecAt bytes off K) (hK : K.size < 268435456) :
    Calls Try.prog 54 #[.pointer (some ⟨tb, 0, none⟩), .agg #[.int .u32 1, .int .u32 off]] w fun e w' => ∃ kv vv, e = .returned (.tuple #[kv, vv]) ∧ KeyVal w' rb kv K ∧ Below w.heap.size w w' := by
  have hc4 := E.chunks
  have htb : tb < w.heap.size := World.block_lt_of_cell? _ _ hc4
  have HE : Hid (Env w tb cb rb bytes cap) := E
  have HR : Hid (RecAt bytes off K) := hR
  clear E hR
  have hb1 : Below w.heap.size w (w.alloc (.cells #[.int .u32 1, .int .u32 (off : Int)] 42)).drew := ((Below.refl _ _).alloc (Nat.le_refl _) _).drew
  have H := hid (record35 tb cb rb off cap bytes K _ (HE.out.below hb1) HR.out hK)
  have HB1 := hid hb1
  clear hb1
  go_enter Try.func54, Try.ntmps54
  go_wp2
  go_region_with (go_at_call 35; refine (Hid.out H).mono ?_; rintro e w2 ⟨kv, vv, rfl, hkv, hb2⟩)
  all_goals
    have HKV := hid hkv
    have HB2 : Hid (Below w.heap.size w w2) := HB1.out.trans (hb2.mono HB1.out.size)
    clear hkv hb2
    go_wp2
    go_ret2
    exact ⟨_, _, rfl, HKV.out, HB2.out⟩
end Go.Proofs.Qxb6613201a
