/- The bounds of a tree, each with the place in the walk where it stands. No Go in sight. -/
import Derived.Test.Qxb6613201aPlain
namespace Go.Proofs.Qxb6613201a
namespace Bt
section
variable {α : Type} (dfl : α)

/-- The keys of the first i children. -/
def kup {β : Type} (ky : β → List Nat) (cs : List β) (i : Nat) : List Nat := ((cs.take i).map ky).flatten
/-- What child i adds: the bound ahead of it, and its own bounds. -/
def mstep {β : Type} (ky : β → List Nat) (mk : β → Nat → List (Nat × α)) (cs : List β) (bs : List α) (base i : Nat) : List (Nat × α) :=
  match cs[i]? with
  | none => []
  | some c => (if i = 0 then [] else [(base + (kup ky cs i).length, bs.getD (i - 1) dfl)]) ++ mk c (base + (kup ky cs i).length)
def mup {β : Type} (ky : β → List Nat) (mk : β → Nat → List (Nat × α)) (cs : List β) (bs : List α) (base i : Nat) : List (Nat × α) := (List.range i).flatMap (mstep dfl ky mk cs bs base)
def marks : (d : Nat) → T α d → Nat → List (Nat × α)
  | 0, _, _ => []
  | d + 1, (cs, bs), base => mup dfl (keysT d) (marks d) cs bs base cs.length

variable {dfl}
theorem kup_succ {β : Type} {ky : β → List Nat} {cs : List β} {i : Nat} {c : β} (h : cs[i]? = some c) : kup ky cs (i + 1) = kup ky cs i ++ ky c := by
  obtain ⟨hi, rfl⟩ := List.getElem?_eq_some_iff.1 h
  simp [kup, List.take_succ_eq_append_getElem hi, -List.take_append_getElem]
theorem kup_all {β : Type} (ky : β → List Nat) (cs : List β) : kup ky cs cs.length = (cs.map ky).flatten := by simp [kup]
theorem kup_le {β : Type} (ky : β → List Nat) (cs : List β) (i : Nat) : (kup ky cs i).length ≤ ((cs.map ky).flatten).length := by
  have : (cs.map ky).flatten = kup ky cs i ++ ((cs.drop i).map ky).flatten := by
    rw [kup, ← List.flatten_append, ← List.map_append, List.take_append_drop]
  rw [this, List.length_append]; omega
theorem kup_get {β : Type} {ky : β → List Nat} {cs : List β} {i j x : Nat} {c : β} (h : cs[i]? = some c) (hj : (ky c)[j]? = some x) : ((cs.map ky).flatten)[(kup ky cs i).length + j]? = some x := by
  rw [keys_split ky h]
  have e : ((cs.take i).map ky).flatten = kup ky cs i := rfl
  rw [e, List.getElem?_append_right (by omega), show (kup ky cs i).length + j - (kup ky cs i).length = j by omega]
  rw [List.getElem?_append_left (List.getElem?_eq_some_iff.1 hj).1]
  exact hj
theorem mup_succ {β : Type} {ky : β → List Nat} {mk : β → Nat → List (Nat × α)} {cs : List β} {bs : List α} {base i : Nat} {c : β} (h : cs[i]? = some c) :
    mup dfl ky mk cs bs base (i + 1) = mup dfl ky mk cs bs base i ++ ((if i = 0 then [] else [(base + (kup ky cs i).length, bs.getD (i - 1) dfl)]) ++ mk c (base + (kup ky cs i).length)) := by
  simp only [mup, List.range_succ, List.flatMap_append, List.flatMap_singleton]
  congr 1
  simp only [mstep, h]
theorem mup_le {β : Type} {ky : β → List Nat} {mk : β → Nat → List (Nat × α)} {cs : List β} {bs : List α} {base : Nat} {i m : Nat} (h : i ≤ m) : (mup dfl ky mk cs bs base i).length ≤ (mup dfl ky mk cs bs base m).length := by
  induction m with
  | zero => obtain rfl : i = 0 := by omega
            exact Nat.le_refl _
  | succ m ih =>
    by_cases e : i = m + 1
    · subst e; exact Nat.le_refl _
    · refine Nat.le_trans (ih (by omega)) ?_
      simp [mup, List.range_succ]

variable {lt : α → α → Bool} {K : Nat → α}

theorem mup_count {β : Type} {ky : β → List Nat} {mk : β → Nat → List (Nat × α)} {cs : List β} {bs : List α} {base : Nat} (h : ∀ c ∈ cs, ∀ b, (mk c b).length + 1 ≤ (ky c).length) :
    ∀ i, i ≤ cs.length → (mup dfl ky mk cs bs base i).length + (if i = 0 then 0 else 1) ≤ (kup ky cs i).length := by
  intro i
  induction i with
  | zero => intro _; simp [mup, kup]
  | succ i ih =>
    intro hi
    have h1 := ih (by omega)
    obtain ⟨c, hc⟩ : ∃ c, cs[i]? = some c := ⟨cs[i]'(by omega), List.getElem?_eq_getElem (by omega)⟩
    have h2 := h c (List.mem_of_getElem? hc) (base + (kup ky cs i).length)
    rw [mup_succ hc, kup_succ hc]
    simp only [List.length_append]
    by_cases e : i = 0
    · subst e; simp at *; omega
    · rw [if_neg e] at h1 ⊢
      simp at *; omega
theorem marks_count : ∀ (d : Nat) (last : Bool) (t : T α d) (base : Nat), Wf lt K d false last t → (marks dfl d t base).length + 1 ≤ (keysT d t).length
  | 0, last, t, base, h => by
    have h0 : t ≠ [] := h.2.2.1 rfl
    have : 0 < List.length (α := Nat) t := List.length_pos_iff.2 h0
    simp only [marks, keysT, List.length_nil]
    omega
  | d + 1, last, (cs, bs), base, h => by
    have h' : InnerOk lt K (fun f c => Wf lt K d false f c) (keysT d) false last cs bs := h
    have := mup_count (dfl := dfl) (ky := keysT d) (mk := marks dfl d) (cs := cs) (bs := bs) (base := base) (fun c hc b => by
      obtain ⟨j, hj⟩ := List.getElem?_of_mem hc
      exact marks_count d _ c b (h'.kids j c hj)) cs.length (Nat.le_refl _)
    rw [if_neg (by have := h'.two; omega), kup_all] at this
    exact this
theorem marks_few : ∀ (d : Nat) (root last : Bool) (t : T α d) (base : Nat), Wf lt K d root last t → (marks dfl d t base).length ≤ (keysT d t).length
  | 0, root, last, t, base, h => by simp [marks]
  | d + 1, root, last, (cs, bs), base, h => by
    have h' : InnerOk lt K (fun f c => Wf lt K d false f c) (keysT d) root last cs bs := h
    have := mup_count (dfl := dfl) (ky := keysT d) (mk := marks dfl d) (cs := cs) (bs := bs) (base := base) (fun c hc b => by
      obtain ⟨j, hj⟩ := List.getElem?_of_mem hc
      exact marks_count d _ c b (h'.kids j c hj)) cs.length (Nat.le_refl _)
    rw [kup_all] at this
    exact Nat.le_trans (Nat.le_add_right _ _) this

/-- Each bound parts its two neighbours. -/
def Parts (lt : α → α → Bool) (K : Nat → α) (L : List Nat) (base : Nat) (m : Nat × α) : Prop :=
  ∃ j x y, m.1 = base + (j + 1) ∧ L[j]? = some x ∧ L[j + 1]? = some y ∧ lt (K x) m.2 = true ∧ lt (K y) m.2 = false
theorem Parts.up {β : Type} {ky : β → List Nat} {cs : List β} {i base : Nat} {c : β} {m : Nat × α} (hc : cs[i]? = some c) (h : Parts lt K (ky c) (base + (kup ky cs i).length) m) : Parts lt K ((cs.map ky).flatten) base m := by
  obtain ⟨j, x, y, h1, h2, h3, h4, h5⟩ := h
  exact ⟨(kup ky cs i).length + j, x, y, by omega, kup_get hc h2, by rw [Nat.add_assoc]; exact kup_get hc h3, h4, h5⟩
theorem marks_part : ∀ (d : Nat) (root last : Bool) (t : T α d) (base : Nat), Wf lt K d root last t → ∀ m ∈ marks dfl d t base, Parts lt K (keysT d t) base m
  | 0, root, last, t, base, h, m, hm => by simp [marks] at hm
  | d + 1, root, last, (cs, bs), base, h, m, hm => by
    have h' : InnerOk lt K (fun f c => Wf lt K d false f c) (keysT d) root last cs bs := h
    have hm' : m ∈ mup dfl (keysT d) (marks dfl d) cs bs base cs.length := hm
    simp only [mup, List.mem_flatMap, List.mem_range] at hm'
    obtain ⟨i, hi, hm'⟩ := hm'
    obtain ⟨c, hc⟩ : ∃ c, cs[i]? = some c := ⟨cs[i]'hi, List.getElem?_eq_getElem hi⟩
    simp only [mstep, hc, List.mem_append] at hm'
    rcases hm' with hm' | hm'
    · by_cases e : i = 0
      · rw [if_pos e] at hm'; cases hm'
      · rw [if_neg e, List.mem_singleton] at hm'
        obtain ⟨i', rfl⟩ : ∃ i', i = i' + 1 := ⟨i - 1, by omega⟩
        obtain ⟨c0, hc0⟩ : ∃ c, cs[i']? = some c := ⟨cs[i']'(by omega), List.getElem?_eq_getElem (by omega)⟩
        have hl := h'.len
        obtain ⟨b, hb⟩ : ∃ b, bs[i']? = some b := ⟨bs[i']'(by omega), List.getElem?_eq_getElem (by omega)⟩
        obtain ⟨s1, s2⟩ := h'.sep i' b hb
        have n0 := keys_ne d _ c0 (h'.kids _ c0 hc0)
        have n1 := keys_ne d _ c (h'.kids _ c hc)
        have l0 : 0 < (keysT d c0).length := List.length_pos_iff.2 n0
        have l1 : 0 < (keysT d c).length := List.length_pos_iff.2 n1
        have hk := kup_succ (ky := keysT d) hc0
        have hk' := congrArg List.length hk
        rw [List.length_append] at hk'
        have hbd : bs.getD (i' + 1 - 1) dfl = b := by rw [List.getD_eq_getElem?_getD, show i' + 1 - 1 = i' by omega, hb]; rfl
        refine ⟨(kup (keysT d) cs (i' + 1)).length - 1, (keysT d c0)[(keysT d c0).length - 1]'(by omega), (keysT d c)[0]'l1, ?_, ?_, ?_, ?_, ?_⟩
        · rw [hm']; show base + _ = _; omega
        · have := kup_get (ky := keysT d) (j := (keysT d c0).length - 1) hc0 (List.getElem?_eq_getElem (by omega))
          rw [show (kup (keysT d) cs (i' + 1)).length - 1 = (kup (keysT d) cs i').length + ((keysT d c0).length - 1) by omega]
          exact this
        · have := kup_get (ky := keysT d) (j := 0) hc (List.getElem?_eq_getElem l1)
          rw [show (kup (keysT d) cs (i' + 1)).length - 1 + 1 = (kup (keysT d) cs (i' + 1)).length + 0 by omega]
          exact this
        · rw [hm', hbd]; exact s1 i' c0 hc0 (Nat.le_refl _) _ (List.getElem_mem _)
        · rw [hm', hbd]; exact s2 (i' + 1) c hc (by omega) _ (List.getElem_mem _)
    · exact (marks_part d _ _ c _ (h'.kids i c hc) m hm').up hc
end
end Bt
end Go.Proofs.Qxb6613201a
