/- The merge sort, the plain part. No Go in sight. -/
namespace Go.Proofs.Qxb6613201a
namespace Ms

def seg (A : List Nat) (a b : Nat) : List Nat := (A.drop a).take (b - a)
theorem seg_nil (A : List Nat) {a b : Nat} (h : b ≤ a) : seg A a b = [] := by simp [seg, show b - a = 0 by omega]
theorem seg_cons (A : List Nat) {a b x : Nat} (h : a < b) (hx : A[a]? = some x) : seg A a b = x :: seg A (a + 1) b := by
  obtain ⟨hl, rfl⟩ := List.getElem?_eq_some_iff.1 hx
  unfold seg
  rw [← List.getElem_cons_drop hl, show b - a = (b - (a + 1)) + 1 by omega, List.take_succ_cons]
theorem seg_len (A : List Nat) {a b : Nat} (h : b ≤ A.length) : (seg A a b).length = b - a := by simp [seg]; omega
theorem take_seg (A : List Nat) {a b : Nat} (h : a ≤ b) : A.take b = A.take a ++ seg A a b := by
  unfold seg
  have : b = a + (b - a) := by omega
  conv => lhs; rw [this]
  rw [List.take_add]
theorem seg_get (A : List Nat) {a b j : Nat} (h : j < b - a) : (seg A a b)[j]? = A[a + j]? := by
  unfold seg
  rw [List.getElem?_take, if_pos h, List.getElem?_drop]
theorem take_set_succ (B : List Nat) {k x : Nat} (h : k < B.length) : (B.set k x).take (k + 1) = B.take k ++ [x] := by
  rw [List.take_succ_eq_append_getElem (by simpa using h), List.take_set, List.set_eq_of_length_le (by rw [List.length_take]; omega)]
  simp

section
variable (le : Nat → Nat → Bool)

/-- What the inner loop keeps. -/
def InI (A B C : List Nat) (n mid hi i j k : Nat) : Prop := B.length = n ∧ k + mid = i + j ∧ i ≤ mid ∧ mid ≤ j ∧ j ≤ hi ∧ B.take k ++ (seg A i mid).merge (seg A j hi) le = C
variable {le}
theorem InI.left1 {A B C : List Nat} {n mid hi i j k x : Nat} (h : InI le A B C n mid hi i j k) (hk : k < n) (hi' : i < mid) (hj : hi ≤ j) (hx : A[i]? = some x) : InI le A (B.set k x) C n mid hi (i + 1) j (k + 1) := by
  obtain ⟨h1, h2, h3, h4, h5, h6⟩ := h
  refine ⟨by simpa using h1, by omega, by omega, h4, h5, ?_⟩
  rw [take_set_succ B (by omega), ← h6, seg_cons A hi' hx, seg_nil A hj]
  simp [List.merge_right]
theorem InI.left2 {A B C : List Nat} {n mid hi i j k x y : Nat} (h : InI le A B C n mid hi i j k) (hk : k < n) (hi' : i < mid) (hj : j < hi) (hx : A[i]? = some x) (hy : A[j]? = some y) (hle : le x y = true) : InI le A (B.set k x) C n mid hi (i + 1) j (k + 1) := by
  obtain ⟨h1, h2, h3, h4, h5, h6⟩ := h
  refine ⟨by simpa using h1, by omega, by omega, h4, h5, ?_⟩
  rw [take_set_succ B (by omega), ← h6, seg_cons A hi' hx, seg_cons A hj hy, List.cons_merge_cons, if_pos hle]
  simp
theorem InI.right1 {A B C : List Nat} {n mid hi i j k y : Nat} (h : InI le A B C n mid hi i j k) (hk : k < n) (hi' : mid ≤ i) (hj : j < hi) (hy : A[j]? = some y) : InI le A (B.set k y) C n mid hi i (j + 1) (k + 1) := by
  obtain ⟨h1, h2, h3, h4, h5, h6⟩ := h
  refine ⟨by simpa using h1, by omega, h3, by omega, by omega, ?_⟩
  rw [take_set_succ B (by omega), ← h6, seg_nil A hi', seg_cons A hj hy]
  simp [List.nil_merge]
theorem InI.right2 {A B C : List Nat} {n mid hi i j k x y : Nat} (h : InI le A B C n mid hi i j k) (hk : k < n) (hi' : i < mid) (hj : j < hi) (hx : A[i]? = some x) (hy : A[j]? = some y) (hle : le x y = false) : InI le A (B.set k y) C n mid hi i (j + 1) (k + 1) := by
  obtain ⟨h1, h2, h3, h4, h5, h6⟩ := h
  refine ⟨by simpa using h1, by omega, h3, by omega, by omega, ?_⟩
  rw [take_set_succ B (by omega), ← h6, seg_cons A hi' hx, seg_cons A hj hy, List.cons_merge_cons, if_neg (by simp [hle])]
  simp

variable (le)
def Chunk (c : Nat) (L : List Nat) : Prop := ∀ i j a b : Nat, i < j → L[i]? = some a → L[j]? = some b → i / c = j / c → le a b = true
/-- What the middle loop keeps. -/
def MidI (A B : List Nat) (n c lo : Nat) : Prop := B.length = n ∧ (∃ q, lo = c * q) ∧ (B.take lo).Perm (A.take lo) ∧ Chunk le c (B.take lo)
variable {le}
theorem mid_start (A B : List Nat) {n c : Nat} (h : B.length = n) : MidI le A B n c 0 := ⟨h, ⟨0, by simp⟩, by simp, fun i j a b _ ha _ _ => by simp at ha⟩
theorem in_start {A B : List Nat} {n c lo : Nat} (mid hi : Nat) (h : MidI le A B n c lo) (h1 : lo ≤ mid) (h2 : mid ≤ hi) : InI le A B (B.take lo ++ (seg A lo mid).merge (seg A mid hi) le) n mid hi lo mid lo :=
  ⟨h.1, by omega, h1, Nat.le_refl _, h2, rfl⟩
theorem mid_step (tr : ∀ a b c : Nat, le a b = true → le b c = true → le a c = true) (tt : ∀ a b : Nat, (le a b || le b a) = true) {A B0 B : List Nat} {n w lo mid hi i j k : Nat} (hw : 0 < w) (hA : A.length = n) (hc : Chunk le w A) (h0 : MidI le A B0 n (2 * w) lo)
    (hlo : lo < n) (hmid : mid = min (lo + w) n) (hhi : hi = min (lo + 2 * w) n) (h : InI le A B (B0.take lo ++ (seg A lo mid).merge (seg A mid hi) le) n mid hi i j k) (hk : k = hi) : MidI le A B n (2 * w) (lo + 2 * w) := by
  obtain ⟨h1, h2, h3, h4, h5, h6⟩ := h
  obtain ⟨b1, ⟨q, b2⟩, b3, b4⟩ := h0
  have hij : i = mid ∧ j = hi := by omega
  obtain ⟨rfl, rfl⟩ := hij
  subst hk
  rw [seg_nil A (Nat.le_refl _), seg_nil A (Nat.le_refl _), List.nil_merge, List.append_nil] at h6
  have ht : B.take (lo + 2 * w) = B.take k := by
    rcases Nat.le_total (lo + 2 * w) n with h | h
    · rw [hhi, Nat.min_eq_left h]
    · rw [hhi, Nat.min_eq_right h, List.take_of_length_le (by omega), List.take_of_length_le (by omega)]
  have hta : A.take (lo + 2 * w) = A.take k := by
    rcases Nat.le_total (lo + 2 * w) n with h | h
    · rw [hhi, Nat.min_eq_left h]
    · rw [hhi, Nat.min_eq_right h, List.take_of_length_le (by omega), List.take_of_length_le (by omega)]
  have hsort : ((seg A lo i).merge (seg A i k) le).Pairwise fun a b => le a b = true := by
    refine List.pairwise_merge tr tt _ _ ?_ ?_
    · rw [List.pairwise_iff_getElem]
      intro x y hx hy hxy
      rw [seg_len A (by omega)] at hx hy
      refine hc (lo + x) (lo + y) _ _ (by omega) (by rw [← seg_get A hx]; exact List.getElem?_eq_getElem _) (by rw [← seg_get A hy]; exact List.getElem?_eq_getElem _) ?_
      have e1 : lo + x = w * (2 * q) + x := by rw [b2, Nat.mul_assoc, Nat.mul_left_comm]
      have e2 : lo + y = w * (2 * q) + y := by rw [b2, Nat.mul_assoc, Nat.mul_left_comm]
      rw [e1, e2, Nat.mul_add_div hw, Nat.mul_add_div hw, Nat.div_eq_of_lt (by omega), Nat.div_eq_of_lt (by omega)]
    · rw [List.pairwise_iff_getElem]
      intro x y hx hy hxy
      rw [seg_len A (by omega)] at hx hy
      have hi2 : i = lo + w := by omega
      refine hc (i + x) (i + y) _ _ (by omega) (by rw [← seg_get A hx]; exact List.getElem?_eq_getElem _) (by rw [← seg_get A hy]; exact List.getElem?_eq_getElem _) ?_
      have e0 : w * (2 * q + 1) = lo + w := by rw [Nat.mul_add, Nat.mul_one, b2, Nat.mul_assoc, Nat.mul_left_comm]
      have e1 : i + x = w * (2 * q + 1) + x := by omega
      have e2 : i + y = w * (2 * q + 1) + y := by omega
      rw [e1, e2, Nat.mul_add_div hw, Nat.mul_add_div hw, Nat.div_eq_of_lt (by omega), Nat.div_eq_of_lt (by omega)]
  have hl0 : (B0.take lo).length = lo := by rw [List.length_take]; omega
  refine ⟨h1, ⟨q + 1, by rw [Nat.mul_add, Nat.mul_one, b2]⟩, ?_, ?_⟩
  · rw [ht, hta, h6, take_seg A (show i ≤ k by omega), take_seg A (show lo ≤ i by omega), List.append_assoc]
    exact b3.append (List.merge_perm_append le)
  · rw [ht, h6]
    intro x y a b hxy ha hb he
    by_cases hy : y < lo
    · rw [List.getElem?_append_left (by omega)] at ha hb
      exact b4 x y a b hxy ha hb he
    · by_cases hx : x < lo
      · exfalso
        have : x / (2 * w) < q := Nat.div_lt_of_lt_mul (by omega)
        have : q ≤ y / (2 * w) := (Nat.le_div_iff_mul_le (by omega)).2 (by rw [Nat.mul_comm]; omega)
        omega
      · rw [List.getElem?_append_right (by omega)] at ha hb
        obtain ⟨p1, rfl⟩ := List.getElem?_eq_some_iff.1 ha
        obtain ⟨p2, rfl⟩ := List.getElem?_eq_some_iff.1 hb
        exact List.pairwise_iff_getElem.1 hsort _ _ p1 p2 (by omega)
theorem mid_end {A B : List Nat} {n c lo : Nat} (hA : A.length = n) (h : MidI le A B n c lo) (hlo : n ≤ lo) : B.Perm A ∧ Chunk le c B := by
  obtain ⟨h1, _, h2, h3⟩ := h
  rw [List.take_of_length_le (by omega)] at h2 h3
  rw [List.take_of_length_le (by omega)] at h2
  exact ⟨h2, h3⟩
theorem chunk_one (A : List Nat) : Chunk le 1 A := fun i j a b hij _ _ he => by simp at he; omega
theorem chunk_all {A : List Nat} {n w : Nat} (hA : A.length = n) (h : Chunk le w A) (hn : n ≤ w) : A.Pairwise fun a b => le a b = true := by
  rw [List.pairwise_iff_getElem]
  intro i j hi hj hij
  exact h i j _ _ hij (List.getElem?_eq_getElem hi) (List.getElem?_eq_getElem hj) (by rw [Nat.div_eq_of_lt (by omega), Nat.div_eq_of_lt (by omega)])
end
end Ms
end Go.Proofs.Qxb6613201a
