/- The records: 'zzPutUvarint', 'zzRecords'. -/
import Derived.Test.Qxb6613201aAdd
set_option linter.unusedVariables false
set_option linter.unusedSimpArgs false
namespace Go.Proofs.Qxb6613201a
open Go.RowKit

def u8Cells (bs : List UInt8) : List Value := bs.map fun b => .int .u8 b.toNat
theorem u8_one (bs : List UInt8) : ∀ v ∈ u8Cells bs, v.oneCell' = true := by
  intro v hv
  simp only [u8Cells, List.mem_map] at hv
  obtain ⟨q, _, rfl⟩ := hv
  rfl

theorem wpList_append_run {P : Program} (w : World) {ops : Array Oper} {rest : List Oper} {o : Oper} {a : Act} {Q : Exit → Act → World → Prop} (hgd : o.guard = none) (d s : Operand) (t t' : TypeId)
    (ho : o.op = .call { callee := .builtin .append, args := #[d, s], argTypes := #[t, t'] }) (v u : Value) (hd : a.eval d = v) (hs : a.eval s = u) {v' : Value} {w' : World}
    (hr : (Builtin.append_ #[t, t'] o.type #[v, u]).run P w = .ok v' w') (h : wpList P ops Q rest (a.put o.dst v') w') : wpList P ops Q (o :: rest) a w := by
  refine wpList_plain hgd fun K hK => ?_
  unfold Oper.wp execOp
  simp only [ho, resolve, invoke, builtin, Sem.run_bind, Sem.run_pure, Result.andThen_ok, List.map_toArray, List.map_cons, List.map_nil, hd, hs, hr]
  exact hK _ _ h

/-- append within the capacity, onto a row of one-cell elements. -/
theorem appendRow {w : World} (t tx e : TypeId) (i0 : TypeInfo) (ht : Try.prog.underlying t = some (.slice e)) (hi : Try.prog.info? e = some i0) (hz : i0.size = 1) {g n c m : Nat} {xs news : List Value} (ho : w.ownsRow 0 e 1 (.slice (some ⟨g, 0, none⟩) n c) n xs) {x : Value} (hs : Src Try.prog 1 tx x m news w) (hm : n + m ≤ c) :
    ∃ W : World, (∀ ty, (Builtin.append_ #[t, tx] ty #[.slice (some ⟨g, 0, none⟩) n c, x]).run Try.prog w = .ok (.slice (some ⟨g, 0, none⟩) (n + m) c) W) ∧ W.ownsRow 0 e 1 (.slice (some ⟨g, 0, none⟩) (n + m) c) (n + m) (xs ++ news) ∧ Ext [g] w W := by
  obtain ⟨cur, hg, h1, h2, h3, h4⟩ := row_of ho
  have hxl := ho.1
  have hnl : news.length = m := by have := hs.newsLen; omega
  refine ⟨w.setRow g (cur.toList.take n ++ news ++ cur.toList.drop (n + m)).toArray, fun ty => ?_, ⟨by rw [List.length_append]; omega, Or.inr ⟨g, c, _, rfl, Nat.zero_le _, setRow_heap _ _ _ _ e _ hg, by omega, h2, by simp; omega, ?_⟩⟩, (Ext.refl [g] w).setRow (Or.inl (by simp)) _⟩
  · have h := run_append_src_row (P := Try.prog) w t tx ty e i0 ht hi g n c cur hg x m news (by rw [hz]; exact hs) (by omega) (by rw [hz, hnl]; omega)
    rw [hz, hnl] at h
    simpa using h
  · rw [Nat.mul_one] at h4 ⊢
    rw [List.toList_toArray, List.take_left' (by rw [List.length_append, List.length_take, hnl, Array.length_toList]; omega), h4]

theorem push1 {w : World} {g n c : Nat} {bs : List UInt8} (ho : w.ownsRow 0 5 1 (.slice (some ⟨g, 0, none⟩) n c) n (u8Cells bs)) (hm : n < c) (z : UInt8) :
    ∃ W : World, (∀ ty, (Builtin.append_ #[58, 58] ty #[.slice (some ⟨g, 0, none⟩) n c, .slice (some ⟨w.heap.size, 0, none⟩) 1 1]).run Try.prog (w.alloc (.cells #[.int .u8 z.toNat] 5)) = .ok (.slice (some ⟨g, 0, none⟩) (n + 1) c) W) ∧
      W.ownsRow 0 5 1 (.slice (some ⟨g, 0, none⟩) (n + 1) c) (n + 1) (u8Cells (bs ++ [z])) ∧ Ext [g] w W := by
  obtain ⟨i0, hi0, hz0, hzs, hzb⟩ := info_parts info5
  have hs : Src Try.prog 1 58 (.slice (some ⟨w.heap.size, 0, none⟩) 1 1) 1 [.int .u8 z.toNat] (w.alloc (.cells #[.int .u8 z.toNat] 5)) := Src.ofSlice _ Try.underlying58 ⟨w.heap.size, 0, none⟩ 1 1 _ rfl (fun j u hj => by
    match j, hj with
    | 0, hj => obtain rfl : .int .u8 z.toNat = u := by simpa using hj
               rw [Addr.add_lit]; simp
    | j + 1, hj => simp at hj) (by intro v hv; simp at hv; rw [hv]; rfl)
  obtain ⟨W, h1, h2, h3⟩ := appendRow 58 58 5 i0 Try.underlying58 hi0 hzs (owns_same ho (Below.heap_alloc w _ g (owns_lt ho))) hs (by omega)
  exact ⟨W, h1, by simpa [u8Cells] using h2, ((Ext.refl [g] w).alloc _).trans h3⟩

set_option maxHeartbeats 2000000 in
set_option maxRecDepth 100000 in
theorem put36 (g n c x : Nat) (bs : List UInt8) (w : World) (ho : w.ownsRow 0 5 1 (.slice (some ⟨g, 0, none⟩) n c) n (u8Cells bs)) (hx : x < 268435456) (hfit : n + (Lib.uvarint x).length ≤ c) :
    Calls Try.prog 36 #[.slice (some ⟨g, 0, none⟩) n c, .int .u64 x] w fun e w' => e = .returned (.slice (some ⟨g, 0, none⟩) (n + (Lib.uvarint x).length) c) ∧ w'.ownsRow 0 5 1 (.slice (some ⟨g, 0, none⟩) (n + (Lib.uvarint x).length) c) (n + (Lib.uvarint x).length) (u8Cells (bs ++ Lib.uvarint x)) ∧ Ext [g] w w' := by
  have HO := hid ho
  have HF := hid hfit
  clear ho hfit
  go_enter Try.func36, Try.ntmps36
  go_wp2
  go_loopw [0, 1] (fun s0 s1 wr => ∃ (ds : List UInt8) (v m : Nat), s0 = .slice (some ⟨g, 0, none⟩) m c ∧ s1 = .int .u64 v ∧ v < 268435456 ∧ Hid (m = n + ds.length ∧ ds ++ Lib.uvarint v = Lib.uvarint x ∧ wr.ownsRow 0 5 1 (.slice (some ⟨g, 0, none⟩) m c) m (u8Cells (bs ++ ds)) ∧ Ext [g] w wr))
    (fun s0 s1 _ => (intOf s1).toNat)
  case atStart => exact ⟨[], x, n, rfl, rfl, hx, rfl, rfl, by simpa using HO.out, Ext.refl _ _⟩
  case round =>
    obtain ⟨ds, v, m, rfl, rfl, hv, hR⟩ := hrel
    by_cases hb : v < 128
    · obtain ⟨z, hz⟩ : ∃ z : UInt8, z = v.toUInt8 := ⟨_, rfl⟩
      have hzn : (z.toNat : Int) = (v : Int) := by rw [hz]; simp [Nat.toUInt8, UInt8.toNat_ofNat']; omega
      have hfit := HF.out
      have hdn : ds ++ [z] = Lib.uvarint x := by rw [← hR.out.2.1, Lib.uvarint_small hb, hz]
      have hml : m + 1 = n + (Lib.uvarint x).length := by rw [← hdn, hR.out.1]; simp; omega
      obtain ⟨W, hap, ho', hx'⟩ := push1 hR.out.2.2.1 (show m < c by omega) z
      rw [hzn] at hap
      have hzm : (v : Int) % 256 = (v : Int) := by omega
      clear hzn
      have HAP := hid hap
      have HE : Hid (W.ownsRow 0 5 1 (.slice (some ⟨g, 0, none⟩) (n + (Lib.uvarint x).length) c) (n + (Lib.uvarint x).length) (u8Cells (bs ++ Lib.uvarint x)) ∧ Ext [g] w W) := by
        refine ⟨?_, hR.out.2.2.2.trans hx'⟩
        rw [← hml, ← hdn, ← List.append_assoc]; exact ho'
      have HML := hid hml
      clear hap ho' hx' hz hfit hdn hml
      go_wp2_with (first | (at_builtin; refine wpList_append_run _ rfl (.tmp 15) (.tmp 18) 58 58 rfl _ _ rfl rfl (HAP.out _) ?_))
      go_ret
      exact ⟨by rw [← HML.out]; rfl, HE.out⟩
    · obtain ⟨z, hz⟩ : ∃ z : UInt8, z = (v % 128 + 128).toUInt8 := ⟨_, rfl⟩
      have hzn : bits BinOp.or IntKind.u8 ((v : Int) % 256) 128 = (z.toNat : Int) := by
        have h0 : ∀ r : Fin 256, bits BinOp.or IntKind.u8 (r.val : Int) 128 = ((r.val % 128 + 128 : Nat) : Int) := by decide
        have h1 := h0 ⟨v % 256, Nat.mod_lt _ (by decide)⟩
        have h2 : (v : Int) % 256 = ((v % 256 : Nat) : Int) := by omega
        rw [h2, h1, hz]
        simp only [Nat.toUInt8, UInt8.toNat_ofNat']
        omega
      have hfit := HF.out
      have hdn : (ds ++ [z]) ++ Lib.uvarint (v / 128) = Lib.uvarint x := by rw [List.append_assoc, hz, ← hR.out.2.1, Lib.uvarint_big (x := v) (by omega)]; rfl
      have hml : m + 1 = n + (ds ++ [z]).length := by rw [hR.out.1]; simp; omega
      have hpos := Lib.uvarint_pos (v / 128)
      have hlen := congrArg List.length hdn
      rw [List.length_append] at hlen
      obtain ⟨W, hap, ho', hx'⟩ := push1 hR.out.2.2.1 (show m < c by omega) z
      have HAP := hid hap
      have HE : Hid (m + 1 = n + (ds ++ [z]).length ∧ ds ++ [z] ++ Lib.uvarint (v / 128) = Lib.uvarint x ∧ W.ownsRow 0 5 1 (.slice (some ⟨g, 0, none⟩) (m + 1) c) (m + 1) (u8Cells (bs ++ (ds ++ [z]))) ∧ Ext [g] w W) := by
        refine ⟨hml, hdn, ?_, hR.out.2.2.2.trans hx'⟩
        rw [← List.append_assoc]; exact ho'
      clear hap ho' hx' hz hfit hdn hml hpos hlen
      go_wp2_with (first | (at_builtin; refine wpList_append_run _ rfl (.tmp 7) (.tmp 11) 58 58 rfl _ _ rfl rfl (HAP.out _) ?_))
      go_roundw
      case measure => simp [intOf]; omega
      case rel => exact ⟨ds ++ [z], v / 128, m + 1, rfl, by simp, by omega, HE.out⟩
end Go.Proofs.Qxb6613201a
