/- The tree in memory. -/
import Derived.Test.Qxb6613201aPos
import Derived.Test.Qxb6613201aNew
set_option linter.unusedVariables false
namespace Go.Proofs.Qxb6613201a
open Go.RowKit

def ptrCells (ps : List Nat) : List Value := ps.map fun p => .pointer (some ⟨p, 0, none⟩)
def strCells (bs : List ByteArray) : List Value := bs.map fun b => .string b

/-- The children, each with its blocks. -/
structure Kids {β : Type} (M : Nat → β → List Nat → Prop) (ps : List Nat) (cs : List β) (Fs : List (List Nat)) : Prop where
  lp : ps.length = cs.length
  lf : Fs.length = cs.length
  each : ∀ (j q : Nat) (c : β) (G : List Nat), ps[j]? = some q → cs[j]? = some c → Fs[j]? = some G → M q c G

/-- The node at block p is the tree t; F: all its blocks. -/
def Mem (w : World) (off : Nat → Nat) : (d : Nat) → Nat → Bt.T ByteArray d → List Nat → Prop
  | 0, p, ks, F => ∃ rb, NodeAt w p (.slice (some ⟨rb, 0, none⟩) (List.length (α := Nat) ks) 256) (.slice none 0 0) (.slice none 0 0) ∧
      w.ownsRow 0 42 2 (.slice (some ⟨rb, 0, none⟩) (List.length (α := Nat) ks) 256) (List.length (α := Nat) ks) (refCells off ks) ∧ F = [p, rb]
  | d + 1, p, (cs, bs), F => ∃ (cb bb : Nat) (ps : List Nat) (Fs : List (List Nat)), NodeAt w p (.slice none 0 0) (.slice (some ⟨cb, 0, none⟩) cs.length 64) (.slice (some ⟨bb, 0, none⟩) bs.length 63) ∧
      w.ownsRow 0 36 1 (.slice (some ⟨cb, 0, none⟩) cs.length 64) cs.length (ptrCells ps) ∧ w.ownsRow 0 9 1 (.slice (some ⟨bb, 0, none⟩) bs.length 63) bs.length (strCells bs) ∧
      Kids (Mem w off d) ps cs Fs ∧ F = p :: cb :: bb :: Fs.flatten

theorem owns_same {w w' : World} {e : TypeId} {z b n c : Nat} {xs : List Value} (h : w.ownsRow 0 e z (.slice (some ⟨b, 0, none⟩) n c) n xs) (hb : w'.heap[b]? = w.heap[b]?) : w'.ownsRow 0 e z (.slice (some ⟨b, 0, none⟩) n c) n xs := by
  obtain ⟨h1, h2 | ⟨g, cap, cur, he, h0, hg, hr⟩⟩ := h
  · exact ⟨h1, Or.inl h2⟩
  · refine ⟨h1, Or.inr ⟨g, cap, cur, he, h0, ?_, hr⟩⟩
    simp only [Value.slice.injEq, Option.some.injEq, Addr.mk.injEq, and_true, true_and] at he
    obtain ⟨rfl, rfl⟩ := he
    rw [hb]; exact hg
theorem owns_lt {w : World} {e : TypeId} {z b n c : Nat} {xs : List Value} (h : w.ownsRow 0 e z (.slice (some ⟨b, 0, none⟩) n c) n xs) : b < w.heap.size := by
  obtain ⟨h1, h2 | ⟨g, cap, cur, he, h0, hg, hr⟩⟩ := h
  · simp at h2
  · simp only [Value.slice.injEq, Option.some.injEq, Addr.mk.injEq, and_true, true_and] at he
    obtain ⟨rfl, rfl⟩ := he
    exact lt_of_block hg
theorem owns_cell {w : World} {e : TypeId} {z b n c : Nat} {xs : List Value} (h : w.ownsRow 0 e z (.slice (some ⟨b, 0, none⟩) n c) n xs) {j : Nat} {v : Value} (hj : xs[j]? = some v) : w.cell? ⟨b, j, none⟩ = some v := by
  have hl : j < n * z := by have := (List.getElem?_eq_some_iff.1 hj).1; rw [h.1] at this; exact this
  rw [h.cellAt j hl, hj]

theorem mem_lt {w : World} {off : Nat → Nat} : ∀ (d p : Nat) (t : Bt.T ByteArray d) (F : List Nat), Mem w off d p t F → ∀ b ∈ F, b < w.heap.size
  | 0, p, ks, F, ⟨rb, hn, ho, hF⟩, b, hb => by
    subst hF
    simp at hb
    rcases hb with rfl | rfl
    · exact lt_of_block hn
    · exact owns_lt ho
  | d + 1, p, (cs, bs), F, h, b, hb => by
    obtain ⟨cb, bb, ps, Fs, hn, hc, hbo, hk, rfl⟩ := h
    simp only [List.mem_cons, List.mem_flatten] at hb
    rcases hb with rfl | rfl | rfl | ⟨G, hG, hb⟩
    · exact lt_of_block hn
    · exact owns_lt hc
    · exact owns_lt hbo
    · obtain ⟨j, hj⟩ := List.getElem?_of_mem hG
      have hjl := (List.getElem?_eq_some_iff.1 hj).1
      have h1 := hk.lp
      have h2 := hk.lf
      exact mem_lt d _ _ G (hk.each j _ _ G (List.getElem?_eq_getElem (by omega)) (List.getElem?_eq_getElem (by omega)) hj) b hb

theorem mem_same {w w' : World} {off : Nat → Nat} : ∀ (d p : Nat) (t : Bt.T ByteArray d) (F : List Nat), Mem w off d p t F → (∀ b ∈ F, w'.heap[b]? = w.heap[b]?) → Mem w' off d p t F
  | 0, p, ks, F, ⟨rb, hn, ho, hF⟩, h => by
    subst hF
    exact ⟨rb, (h p (by simp)).trans hn, owns_same ho (h rb (by simp)), rfl⟩
  | d + 1, p, (cs, bs), F, hM, h => by
    obtain ⟨cb, bb, ps, Fs, hn, hc, hbo, hk, rfl⟩ := hM
    refine ⟨cb, bb, ps, Fs, (h p (by simp)).trans hn, owns_same hc (h cb (by simp)), owns_same hbo (h bb (by simp)), ⟨hk.lp, hk.lf, fun j q c G hq hc' hG => ?_⟩, rfl⟩
    exact mem_same d q c G (hk.each j q c G hq hc' hG) (fun b hb => h b (by simp only [List.mem_cons, List.mem_flatten]; exact Or.inr (Or.inr (Or.inr ⟨G, List.mem_of_getElem? hG, hb⟩))))
theorem mem_ext {S : List Nat} {w w' : World} {off : Nat → Nat} {d p : Nat} {t : Bt.T ByteArray d} {F : List Nat} (h : Mem w off d p t F) (hx : Ext S w w') (hd : ∀ b ∈ F, b ∉ S) : Mem w' off d p t F :=
  mem_same d p t F h (fun b hb => hx.block b (mem_lt d p t F h b hb) (hd b hb))
/-- The root's block is the first of F. -/
theorem mem_head {w : World} {off : Nat → Nat} : ∀ (d p : Nat) (t : Bt.T ByteArray d) (F : List Nat), Mem w off d p t F → p ∈ F
  | 0, p, ks, F, ⟨rb, hn, ho, hF⟩ => by subst hF; simp
  | d + 1, p, (cs, bs), F, h => by obtain ⟨cb, bb, ps, Fs, hn, hc, hbo, hk, rfl⟩ := h; simp

/-- What the insertion leaves. -/
def InsOut (w w' : World) (off : Nat → Nat) (d p : Nat) (F : List Nat) (e : Ending) : Bt.T ByteArray d × Option (ByteArray × Bt.T ByteArray d) → Prop
  | (t', none) => e = .returned (.tuple #[.pointer none, .string ⟨#[]⟩]) ∧ ∃ F', Mem w' off d p t' F' ∧ F'.Nodup ∧ ∀ b ∈ F', b ∈ F ∨ w.heap.size ≤ b
  | (t', some (bd, u)) => ∃ q F' G, e = .returned (.tuple #[.pointer (some ⟨q, 0, none⟩), .string bd]) ∧ Mem w' off d p t' F' ∧ Mem w' off d q u G ∧ (F' ++ G).Nodup ∧ ∀ b ∈ F' ++ G, b ∈ F ∨ w.heap.size ≤ b

theorem refCells_take (off : Nat → Nat) (ks : List Nat) (i : Nat) : (refCells off ks).take (i * 2) = refCells off (ks.take i) := by
  induction ks generalizing i with
  | nil => simp [refCells]
  | cons k r ih =>
    cases i with
    | zero => simp [refCells]
    | succ i =>
      have := ih i
      simp only [refCells, List.flatMap_cons, List.take_succ_cons] at *
      rw [show (i + 1) * 2 = i * 2 + 1 + 1 by omega]
      simp [this]
theorem refCells_drop (off : Nat → Nat) (ks : List Nat) (i : Nat) : (refCells off ks).drop (i * 2) = refCells off (ks.drop i) := by
  induction ks generalizing i with
  | nil => simp [refCells]
  | cons k r ih =>
    cases i with
    | zero => simp [refCells]
    | succ i =>
      have := ih i
      simp only [refCells, List.flatMap_cons, List.drop_succ_cons] at *
      rw [show (i + 1) * 2 = i * 2 + 1 + 1 by omega]
      simp [this]
theorem refCells_ins (off : Nat → Nat) (ks : List Nat) (i k : Nat) : (refCells off ks).take (i * 2) ++ [.int .u32 1, .int .u32 (off k)] ++ (refCells off ks).drop (i * 2) = refCells off (ks.take i ++ k :: ks.drop i) := by
  rw [refCells_take, refCells_drop]
  simp [refCells]
theorem refCells_one (off : Nat → Nat) (ks : List Nat) : ∀ v ∈ refCells off ks, v.oneCell' = true := by
  intro v hv
  simp only [refCells, List.mem_flatMap] at hv
  obtain ⟨k, _, hv⟩ := hv
  simp at hv
  rcases hv with rfl | rfl <;> rfl
theorem leaf_of {w : World} {off : Nat → Nat} {p rb : Nat} {ks : List Nat} (hn : NodeAt w p (.slice (some ⟨rb, 0, none⟩) ks.length 256) (.slice none 0 0) (.slice none 0 0)) (ho : w.ownsRow 0 42 2 (.slice (some ⟨rb, 0, none⟩) ks.length 256) ks.length (refCells off ks)) : Leaf w off p rb 256 ks :=
  ⟨hn.c1, fun j k hk => ⟨owns_cell ho (refCells_get off ks j k hk).1, owns_cell ho (refCells_get off ks j k hk).2⟩⟩
end Go.Proofs.Qxb6613201a
