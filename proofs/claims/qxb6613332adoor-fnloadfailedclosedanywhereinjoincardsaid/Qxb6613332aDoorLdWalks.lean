/- 'FnLoadFailedClosedAnywhereInJoin' and what she calls. -/
import Derived.Test.Qxb6613332aDoorJoin
import Derived.Deep.RegionWith
namespace Go.Proofs.Qxb6613332aDoor
open Go.RowKit Go.Extern.Stop Go.Stop Go.Extern

namespace Ld
/-- loadFailed(e), e not nil: not errors.is(e, errClosed, true). -/
theorem failed_of (t : TypeId) (v : Value) (b : Addr) (w : World) (r : Bool) (hc : w.cell? ⟨0, 0, none⟩ = some (.iface 31 (.pointer (some b))))
    (h : Calls Tryd.prog 19 #[.iface t v, .iface 31 (.pointer (some b)), .bool true] w fun e w' => e = .returned (.bool r) ∧ w' = w) :
    Calls Tryd.prog 14 #[.iface t v] w fun e w' => e = .returned (.bool (!r)) ∧ w' = w := by
  have H : Hid (Calls Tryd.prog 17 #[.iface t v, .iface 31 (.pointer (some b))] w fun e w' => e = .returned (.bool r) ∧ w' = w) := is_of t v b w r h
  clear h
  go_enter Tryd.func14, Tryd.ntmps14
  go_wp2_with (go_at_call 17; refine H.out.mono ?_; rintro e w' ⟨rfl, rfl⟩)
  go_ret
  exact ⟨rfl, rfl⟩

/-- errClosed holds a pointer to an errors.errorString at b. -/
structure Sent (w : World) (b : Addr) (cb : Array Value) (tb : TypeId) : Prop where
  cell : w.cell? ⟨0, 0, none⟩ = some (.iface 31 (.pointer (some b)))
  blk : w.heap[b.block]? = some (.cells cb tb (0, 0))
theorem Sent.pos {w : World} {b : Addr} {cb : Array Value} {tb : TypeId} (h : Sent w b cb tb) : 0 < w.heap.size := World.block_lt_of_cell? _ _ h.cell
theorem Sent.blt {w : World} {b : Addr} {cb : Array Value} {tb : TypeId} (h : Sent w b cb tb) : b.block < w.heap.size := lt_of_block h.blk
theorem Sent.below {w W : World} {b : Addr} {cb : Array Value} {tb : TypeId} (h : Sent w b cb tb) (hb : Below w.heap.size w W) : Sent W b cb tb :=
  ⟨(hb.cell (p := ⟨0, 0, none⟩) h.pos).trans h.cell, (hb.block _ h.blt).trans h.blk⟩

theorem text_any (s : ByteArray) (b : Addr) (cb : Array Value) (tb : TypeId) (w : World) (S : Sent w b cb tb) :
    Calls Tryd.prog 7 #[.string s] w fun e w' => e = .returned (.bool true) ∧ Below w.heap.size w w' := by
  have hb : Below w.heap.size w (w.alloc (.cells #[.string s] 33)) := (Below.refl _ _).alloc (Nat.le_refl _) _
  have S1 := S.below hb
  have hne : (⟨w.heap.size, 0, none⟩ : Addr) ≠ b := fun e => by have := S.blt; rw [← e] at this; exact Nat.lt_irrefl _ this
  have H : Hid (Calls Tryd.prog 14 #[.iface 31 (.pointer (some ⟨w.heap.size, 0, none⟩))] (w.alloc (.cells #[.string s] 33)) fun e w' => e = .returned (.bool (!false)) ∧ w' = w.alloc (.cells #[.string s] 33)) :=
    failed_of 31 _ b _ false S1.cell (is0_other _ b _ _ _ _ _ hne (blk_new _ _ _ rfl) S1.blk)
  have HB : Hid (Below w.heap.size w (w.alloc (.cells #[.string s] 33))) := hb
  clear hne S1 S hb
  go_enter Tryd.func7, Tryd.ntmps7
  go_wp2_with (first | (go_at_call 15; refine (new_any _ _).mono ?_; rintro e w' ⟨rfl, rfl⟩) | (go_at_call 14; refine H.out.mono ?_; rintro e w' ⟨rfl, rfl⟩))
  go_ret
  exact ⟨rfl, HB.out⟩

/-- errors.Join of one error that is not errClosed: a failure. -/
theorem fail_join1 {w w2 : World} {x b : Addr} {cb cx : Array Value} {tb tx : TypeId} {pb sb : Nat} (S : Sent w b cb tb) (hx : w.heap[x.block]? = some (.cells cx tx (0, 0))) (hne : x ≠ b)
    (hp : w2.cell? ⟨pb, 0, none⟩ = some (.slice (some ⟨sb, 0, none⟩) 1 1)) (he : w2.cell? ⟨sb, 0, none⟩ = some (.iface 31 (.pointer (some x)))) (hbel : Below w.heap.size w w2) :
    Calls Tryd.prog 14 #[.iface 35 (.pointer (some ⟨pb, 0, none⟩))] w2 fun e w' => e = .returned (.bool true) ∧ w' = w2 :=
  have S2 := S.below hbel
  failed_of 35 _ b _ false S2.cell (is0_join1 pb 0 sb 0 1 x b cx cb tx tb w2 hp he hne ((hbel.block _ (lt_of_block hx)).trans hx) S2.blk)
theorem fail_join2_first {w w2 : World} {b : Addr} {cb : Array Value} {tb : TypeId} {pb sb : Nat} (S : Sent w b cb tb)
    (hp : w2.cell? ⟨pb, 0, none⟩ = some (.slice (some ⟨sb, 0, none⟩) 2 2)) (he : w2.cell? ⟨sb, 0, none⟩ = some (.iface 31 (.pointer (some b)))) (hbel : Below w.heap.size w w2) :
    Calls Tryd.prog 14 #[.iface 35 (.pointer (some ⟨pb, 0, none⟩))] w2 fun e w' => e = .returned (.bool false) ∧ w' = w2 :=
  have S2 := S.below hbel
  failed_of 35 _ b _ true S2.cell (is0_join2_first pb 0 sb 0 2 b w2 hp he)
theorem fail_join2_second {w w2 : World} {x b : Addr} {cb cx : Array Value} {tb tx : TypeId} {pb sb : Nat} (S : Sent w b cb tb) (hx : w.heap[x.block]? = some (.cells cx tx (0, 0))) (hne : x ≠ b)
    (hp : w2.cell? ⟨pb, 0, none⟩ = some (.slice (some ⟨sb, 0, none⟩) 2 2)) (he : w2.cell? ⟨sb, 0, none⟩ = some (.iface 31 (.pointer (some x)))) (he1 : w2.cell? ⟨sb, 1, none⟩ = some (.iface 31 (.pointer (some b)))) (hbel : Below w.heap.size w w2) :
    Calls Tryd.prog 14 #[.iface 35 (.pointer (some ⟨pb, 0, none⟩))] w2 fun e w' => e = .returned (.bool false) ∧ w' = w2 :=
  have S2 := S.below hbel
  failed_of 35 _ b _ true S2.cell (is0_join2_second pb 0 sb 0 2 x b cx cb tx tb w2 hp he he1 hne ((hbel.block _ (lt_of_block hx)).trans hx) S2.blk)

theorem jointext_any (s : ByteArray) (b : Addr) (cb : Array Value) (tb : TypeId) (w : World) (S : Sent w b cb tb) :
    Calls Tryd.prog 11 #[.string s] w fun e w' => e = .returned (.bool true) ∧ Below w.heap.size w w' := by
  have hne : (⟨w.heap.size, 0, none⟩ : Addr) ≠ b := fun e => by have := S.blt; rw [← e] at this; exact Nat.lt_irrefl _ this
  generalize hW : (w.alloc (.cells #[.string s] 33)).alloc (.cells #[.iface 31 (.pointer (some ⟨w.heap.size, 0, none⟩))] 26) = W
  have hb : Below w.heap.size w W := by rw [← hW]; exact ((Below.refl _ _).alloc (Nat.le_refl _) _).alloc (by simp) _
  have S1 : Hid (Sent W b cb tb) := S.below hb
  have hx : Hid (W.heap[w.heap.size]? = some (.cells #[.string s] 33 (0, 0))) := by rw [← hW, Below.heap_alloc _ _ _ (by simp)]; exact blk_new _ _ _ rfl
  have hc : Hid (W.cell? ⟨w.heap.size + 1, 0, none⟩ = some (.iface 31 (.pointer (some ⟨w.heap.size, 0, none⟩)))) := by rw [← hW]; simp [Hid]
  have HB : Hid (Below w.heap.size w W) := hb
  have HN : Hid ((⟨w.heap.size, 0, none⟩ : Addr) ≠ b) := hne
  have HW : Hid ((w.alloc (.cells #[.string s] 33)).alloc (.cells #[.iface 31 (.pointer (some ⟨w.heap.size, 0, none⟩))] 26) = W) := hW
  have sz : w.heap.size ≤ W.heap.size := hb.size
  clear hne S hb hW
  go_enter Tryd.func11, Tryd.ntmps11
  go_wp2_with (first | (go_at_call 15; refine (new_any _ _).mono ?_; rintro e w' ⟨rfl, rfl⟩))
  rw [HW.out]
  refine (join1 _ 0 1 _ _ hc.out).mono ?_
  rintro e w2 ⟨pb, sb, rfl, hp, he, hbel⟩
  have e0 : w2.cell? ⟨sb, 0, none⟩ = some (.iface 31 (.pointer (some ⟨w.heap.size, 0, none⟩))) := he 0 (by simp)
  have H : Hid (Calls Tryd.prog 14 #[.iface 35 (.pointer (some ⟨pb, 0, none⟩))] w2 fun e w' => e = .returned (.bool true) ∧ w' = w2) := fail_join1 S1.out hx.out HN.out hp e0 hbel
  have HB2 : Hid (Below w.heap.size w w2) := HB.out.trans (hbel.mono sz)
  clear hp he hbel e0
  go_wp2_with (go_at_call 14; refine H.out.mono ?_; rintro e w' ⟨rfl, rfl⟩)
  go_ret
  exact ⟨rfl, HB2.out⟩

/-- errors.Join of two errors of which one is errClosed, then loadFailed: no failure; each call's contract, at the world as the region leaves it. -/
def Chain2 (w W : World) (n : Nat) : Prop :=
  Calls Tryd.prog 16 #[.slice (some ⟨n, 0, none⟩) 2 2] W fun e w2 => ∃ pb, e = .returned (.iface 35 (.pointer (some ⟨pb, 0, none⟩))) ∧ Hid (Below w.heap.size w w2) ∧
    Hid (Calls Tryd.prog 14 #[.iface 35 (.pointer (some ⟨pb, 0, none⟩))] w2 fun e w' => e = .returned (.bool false) ∧ w' = w2)

theorem chain2 {s : ByteArray} {b : Addr} {cb : Array Value} {tb : TypeId} {w : World} (S : Sent w b cb tb) (x0 x1 : Addr)
    (hx : (x0 = ⟨w.heap.size, 0, none⟩ ∧ x1 = b) ∨ x0 = b) :
    Chain2 w ((w.alloc (.cells #[.string s] 33)).alloc (.cells #[.iface 31 (.pointer (some x0)), .iface 31 (.pointer (some x1))] 26)).drew (w.heap.size + 1) := by
  have hne : (⟨w.heap.size, 0, none⟩ : Addr) ≠ b := fun e => by have := S.blt; rw [← e] at this; exact Nat.lt_irrefl _ this
  generalize hW : ((w.alloc (.cells #[.string s] 33)).alloc (.cells #[.iface 31 (.pointer (some x0)), .iface 31 (.pointer (some x1))] 26)).drew = W
  have hb : Below w.heap.size w W := by rw [← hW]; exact (((Below.refl _ _).alloc (Nat.le_refl _) _).alloc (by simp) _).drew
  have S1 : Sent W b cb tb := S.below hb
  have hblk : W.heap[w.heap.size]? = some (.cells #[.string s] 33 (0, 0)) := by
    rw [← hW]; show ((w.alloc (.cells #[.string s] 33)).alloc _).heap[w.heap.size]? = _; rw [Below.heap_alloc _ _ _ (by simp)]; exact blk_new _ _ _ rfl
  have hc0 : W.cell? ⟨w.heap.size + 1, 0, none⟩ = some (.iface 31 (.pointer (some x0))) := by rw [← hW]; simp
  have hc1 : W.cell? ⟨w.heap.size + 1, 0 + 1, none⟩ = some (.iface 31 (.pointer (some x1))) := by rw [← hW]; simp
  refine (join2 _ 0 2 x0 x1 W hc0 hc1).mono ?_
  rintro e w2 ⟨pb, sb, rfl, hp, he, hbel⟩
  have e0 : w2.cell? ⟨sb, 0, none⟩ = some (.iface 31 (.pointer (some x0))) := he 0 (by simp)
  have e1 : w2.cell? ⟨sb, 1, none⟩ = some (.iface 31 (.pointer (some x1))) := he 1 (by simp)
  refine ⟨pb, rfl, hb.trans (hbel.mono hb.size), ?_⟩
  rcases hx with ⟨rfl, rfl⟩ | rfl
  · exact fail_join2_second S1 hblk hne hp e0 e1 hbel
  · exact fail_join2_first S1 hp e0 hbel

set_option maxHeartbeats 400000 in
theorem textclosed_any (s : ByteArray) (b : Addr) (cb : Array Value) (tb : TypeId) (w : World) (S : Sent w b cb tb) :
    Calls Tryd.prog 12 #[.string s] w fun e w' => e = .returned (.bool false) ∧ Below w.heap.size w w' := by
  have HJ : Hid (Chain2 w ((w.alloc (.cells #[.string s] 33)).alloc (.cells #[.iface 31 (.pointer (some ⟨w.heap.size, 0, none⟩)), .iface 31 (.pointer (some b))] 26)).drew (w.heap.size + 1)) := chain2 S _ _ (Or.inl ⟨rfl, rfl⟩)
  have hc0 := S.cell
  have hpos := S.pos
  clear S
  go_enter Tryd.func12, Tryd.ntmps12
  go_wp2
  go_region_with (first
    | (go_at_call 15; refine (new_any _ _).mono ?_; rintro e w' ⟨rfl, rfl⟩)
    | (go_at_call 16; refine HJ.out.mono ?_; rintro e w2 ⟨pb, rfl, HB2, H14⟩)
    | (go_at_call 14; refine H14.out.mono ?_; rintro e w' ⟨rfl, rfl⟩))
  all_goals (try go_wp2)
  all_goals (go_ret; exact ⟨rfl, HB2.out⟩)

set_option maxHeartbeats 400000 in
theorem closedtext_any (s : ByteArray) (b : Addr) (cb : Array Value) (tb : TypeId) (w : World) (S : Sent w b cb tb) :
    Calls Tryd.prog 13 #[.string s] w fun e w' => e = .returned (.bool false) ∧ Below w.heap.size w w' := by
  have HJ : Hid (Chain2 w ((w.alloc (.cells #[.string s] 33)).alloc (.cells #[.iface 31 (.pointer (some b)), .iface 31 (.pointer (some ⟨w.heap.size, 0, none⟩))] 26)).drew (w.heap.size + 1)) := chain2 S _ _ (Or.inr rfl)
  have hc0 := S.cell
  have hpos := S.pos
  clear S
  go_enter Tryd.func13, Tryd.ntmps13
  go_wp2
  go_region_with (first
    | (go_at_call 15; refine (new_any _ _).mono ?_; rintro e w' ⟨rfl, rfl⟩)
    | (go_at_call 16; refine HJ.out.mono ?_; rintro e w2 ⟨pb, rfl, HB2, H14⟩)
    | (go_at_call 14; refine H14.out.mono ?_; rintro e w' ⟨rfl, rfl⟩))
  all_goals (try go_wp2)
  all_goals (go_ret; exact ⟨rfl, HB2.out⟩)
end Ld
end Go.Proofs.Qxb6613332aDoor
