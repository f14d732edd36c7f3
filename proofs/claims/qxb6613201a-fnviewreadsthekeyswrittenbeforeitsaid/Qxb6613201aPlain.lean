/- The plain part: the B+ tree as plain data, its insertion, what stays true of it. No Go in sight. -/
namespace Go.Proofs.Qxb6613201a
namespace Bt

/-- A strict total order, as a test. -/
structure Ord {α : Type} (lt : α → α → Bool) : Prop where
  irr : ∀ a, lt a a = false
  tr : ∀ a b c, lt a b = true → lt b c = true → lt a c = true
  tot : ∀ a b, a ≠ b → lt a b = true ∨ lt b a = true

theorem Ord.asymm {α : Type} {lt : α → α → Bool} (O : Ord lt) {a b : α} (h : lt a b = true) : lt b a = false := by
  cases hb : lt b a with
  | false => rfl
  | true => have := O.tr _ _ _ h hb; rw [O.irr] at this; cases this
/-- a < b, not c < b: a < c. -/
theorem Ord.lt_of_lt_ge {α : Type} {lt : α → α → Bool} (O : Ord lt) {a b c : α} (h : lt a b = true) (h' : lt c b = false) : lt a c = true := by
  by_cases e : c = b
  · subst e; exact h
  · rcases O.tot _ _ e with h1 | h1
    · rw [h1] at h'; cases h'
    · exact O.tr _ _ _ h h1
/-- not b < a, b < c: a < c. -/
theorem Ord.lt_of_ge_lt {α : Type} {lt : α → α → Bool} (O : Ord lt) {a b c : α} (h : lt b a = false) (h' : lt b c = true) : lt a c = true := by
  by_cases e : a = b
  · subst e; exact h'
  · rcases O.tot _ _ e with h1 | h1
    · exact O.tr _ _ _ h1 h'
    · rw [h1] at h; cases h

/-- A tree of depth d: a leaf holds key numbers; an inner node nodes and bounds. -/
def T (α : Type) : Nat → Type
  | 0 => List Nat
  | d + 1 => List (T α d) × List α

section
variable {α : Type} (lt : α → α → Bool) (K : Nat → α)

def posn (ks : List Nat) (x : α) : Nat := (ks.takeWhile fun k => lt (K k) x).length
def childOf (bs : List α) (x : α) : Nat := (bs.takeWhile fun b => !lt x b).length

def insLeaf (last : Bool) (ks : List Nat) (k : Nat) : List Nat × Option (α × List Nat) :=
  if ks.length < 256 then (ks.take (posn lt K ks (K k)) ++ k :: ks.drop (posn lt K ks (K k)), none)
  else if last = true ∧ posn lt K ks (K k) = 256 then (ks, some (K k, [k]))
  else ((ks.take (posn lt K ks (K k)) ++ k :: ks.drop (posn lt K ks (K k))).take 128,
    some (K ((ks.take (posn lt K ks (K k)) ++ k :: ks.drop (posn lt K ks (K k))).getD 128 0), (ks.take (posn lt K ks (K k)) ++ k :: ks.drop (posn lt K ks (K k))).drop 128))

/-- The children (the bounds) with one more behind (at) place i. -/
def put1 {β : Type} (cs : List β) (i : Nat) (c u : β) : List β := cs.take i ++ c :: u :: cs.drop (i + 1)
def putB (bs : List α) (i : Nat) (b : α) : List α := bs.take i ++ b :: bs.drop i

def insInner {β : Type} (cs : List β) (bs : List α) (i : Nat) : β × Option (α × β) → (List β × List α) × Option (α × (List β × List α))
  | (c, none) => ((cs.set i c, bs), none)
  | (c, some (b, u)) =>
    if cs.length < 64 then ((put1 cs i c u, putB bs i b), none)
    else (((put1 cs i c u).take 32, (putB bs i b).take 31), some ((putB bs i b).getD 31 b, ((put1 cs i c u).drop 32, (putB bs i b).drop 32)))

def ins : (d : Nat) → Bool → T α d → Nat → T α d × Option (α × T α d)
  | 0, last, t, k => insLeaf lt K last t k
  | d + 1, last, (cs, bs), k =>
    match cs[childOf lt bs (K k)]? with
    | none => ((cs, bs), none)
    | some c => insInner cs bs (childOf lt bs (K k)) (ins d (last && (childOf lt bs (K k) + 1 == cs.length)) c k)

def keysT : (d : Nat) → T α d → List Nat
  | 0, t => t
  | d + 1, (cs, _) => (cs.map (keysT d)).flatten

def LeafOk (root last : Bool) (ks : List Nat) : Prop :=
  ks.Pairwise (fun a b => lt (K a) (K b) = true) ∧ ks.length ≤ 256 ∧ (root = false → ks ≠ []) ∧ (root = false → last = false → 64 ≤ ks.length)

/-- Each bound parts the children. -/
def Sep {β : Type} (ky : β → List Nat) (cs : List β) (bs : List α) : Prop :=
  ∀ (i : Nat) (b : α), bs[i]? = some b → (∀ (j : Nat) (c : β), cs[j]? = some c → j ≤ i → ∀ k ∈ ky c, lt (K k) b = true) ∧ (∀ (j : Nat) (c : β), cs[j]? = some c → i < j → ∀ k ∈ ky c, lt (K k) b = false)

structure InnerOk {β : Type} (P : Bool → β → Prop) (ky : β → List Nat) (root last : Bool) (cs : List β) (bs : List α) : Prop where
  len : bs.length + 1 = cs.length
  two : 2 ≤ cs.length
  most : cs.length ≤ 64
  least : root = false → 16 ≤ cs.length
  kids : ∀ i c, cs[i]? = some c → P (last && (i + 1 == cs.length)) c
  sep : Sep lt K ky cs bs

def Wf : (d : Nat) → Bool → Bool → T α d → Prop
  | 0, root, last, t => LeafOk lt K root last t
  | d + 1, root, last, (cs, bs) => InnerOk lt K (fun f c => Wf d false f c) (keysT d) root last cs bs

/-- What an insertion leaves. -/
def InsPost {β : Type} (P : Bool → Bool → β → Prop) (ky : β → List Nat) (root last : Bool) (t : β) (k : Nat) : β × Option (α × β) → Prop
  | (t', none) => P root last t' ∧ (ky t').Perm (k :: ky t)
  | (t', some (b, u)) => P false false t' ∧ P false last u ∧ (ky t' ++ ky u).Perm (k :: ky t) ∧ (∀ x ∈ ky t', lt (K x) b = true) ∧ (∀ x ∈ ky u, lt (K x) b = false)

variable {lt K}

/-! ### the leaf -/
theorem posn_le (ks : List Nat) (x : α) : posn lt K ks x ≤ ks.length := (List.takeWhile_prefix _).length_le
theorem posn_spec {ks : List Nat} {x : α} {i : Nat} (hi : i ≤ ks.length) (h1 : ∀ j k, j < i → ks[j]? = some k → lt (K k) x = true) (h2 : ∀ k, ks[i]? = some k → lt (K k) x = false) :
    posn lt K ks x = i := by
  induction ks generalizing i with
  | nil => simp at hi; subst hi; rfl
  | cons a r ih =>
    cases i with
    | zero =>
      have := h2 a rfl
      simp [posn, this]
    | succ i =>
      have h0 := h1 0 a (by omega) rfl
      have := ih (i := i) (by simpa using hi) (fun j k hj hk => h1 (j + 1) k (by omega) (by simpa using hk)) (fun k hk => h2 k (by simpa using hk))
      simp only [posn] at this
      simp [posn, h0, this]
theorem posn_below {ks : List Nat} {x : α} : ∀ k ∈ ks.take (posn lt K ks x), lt (K k) x = true := by
  intro k hk
  have hp : ks.take (posn lt K ks x) = ks.takeWhile fun k => lt (K k) x := (List.prefix_iff_eq_take.1 (List.takeWhile_prefix _)).symm
  rw [hp] at hk
  have := List.all_takeWhile (p := fun k => lt (K k) x) (l := ks)
  exact List.all_eq_true.1 this k hk
theorem posn_above (O : Ord lt) {ks : List Nat} {x : α} (hs : ks.Pairwise fun a b => lt (K a) (K b) = true) : ∀ k ∈ ks.drop (posn lt K ks x), lt (K k) x = false := by
  induction ks with
  | nil => simp [posn]
  | cons a r ih =>
    intro k hk
    cases ha : lt (K a) x with
    | true =>
      have e : posn lt K (a :: r) x = posn lt K r x + 1 := by simp [posn, ha]
      rw [e] at hk
      exact ih (List.pairwise_cons.1 hs).2 k (by simpa using hk)
    | false =>
      have e : posn lt K (a :: r) x = 0 := by simp [posn, ha]
      rw [e] at hk
      simp at hk
      rcases hk with rfl | hk
      · exact ha
      · have h1 := (List.pairwise_cons.1 hs).1 k hk
        cases h2 : lt (K k) x with
        | false => rfl
        | true => rw [O.tr _ _ _ h1 h2] at ha; cases ha

theorem ins_sorted (O : Ord lt) {ks : List Nat} {k : Nat} (hs : ks.Pairwise fun a b => lt (K a) (K b) = true) (hk : ∀ x ∈ ks, K x ≠ K k) :
    (ks.take (posn lt K ks (K k)) ++ k :: ks.drop (posn lt K ks (K k))).Pairwise fun a b => lt (K a) (K b) = true := by
  have hb := posn_below (lt := lt) (K := K) (ks := ks) (x := K k)
  have ha := posn_above O (x := K k) hs
  rw [List.pairwise_append]
  refine ⟨hs.sublist (List.take_sublist _ _), ?_, ?_⟩
  · rw [List.pairwise_cons]
    refine ⟨fun a h => ?_, hs.sublist (List.drop_sublist _ _)⟩
    have h1 := ha a h
    have h2 := hk a (List.mem_of_mem_drop h)
    rcases O.tot _ _ h2 with h3 | h3
    · rw [h3] at h1; cases h1
    · exact h3
  · intro a h b h'
    rcases List.mem_cons.1 h' with rfl | h'
    · exact hb a h
    · have h1 := hb a h
      have h2 := ha b h'
      exact O.lt_of_lt_ge h1 h2
theorem ins_perm (ks : List Nat) (i k : Nat) : (ks.take i ++ k :: ks.drop i).Perm (k :: ks) := by
  refine List.perm_middle.trans ?_
  rw [List.take_append_drop]
theorem ins_len (ks : List Nat) (i k : Nat) (h : i ≤ ks.length) : (ks.take i ++ k :: ks.drop i).length = ks.length + 1 := by simp; omega

theorem insLeaf_spec (O : Ord lt) (root last : Bool) (ks : List Nat) (k : Nat) (h : LeafOk lt K root last ks) (hk : ∀ x ∈ ks, K x ≠ K k) :
    InsPost lt K (fun r l t => LeafOk lt K r l t) (fun t => t) root last ks k (insLeaf lt K last ks k) := by
  obtain ⟨hs, hm, hne, hq⟩ := h
  have hp := posn_le (lt := lt) (K := K) ks (K k)
  have hS := ins_sorted O hs hk
  have hP := ins_perm ks (posn lt K ks (K k)) k
  have hL := ins_len ks (posn lt K ks (K k)) k hp
  unfold insLeaf
  split
  · rename_i hl
    refine ⟨⟨hS, by omega, fun _ e => by rw [e] at hL; simp at hL, fun h1 h2 => ?_⟩, hP⟩
    have := hq h1 h2; omega
  · rename_i hl
    split
    · rename_i h2
      have h256 : ks.length = 256 := by omega
      have e : ks.take (posn lt K ks (K k)) = ks := by rw [h2.2]; exact List.take_of_length_le (by omega)
      refine ⟨⟨hs, hm, fun _ e => by rw [e] at h256; simp at h256, fun _ _ => by omega⟩, ⟨by simp, by simp, by simp, fun _ h3 => by rw [h2.1] at h3; cases h3⟩, ?_, ?_, ?_⟩
      · exact (List.perm_append_comm (l₁ := ks) (l₂ := [k]))
      · intro x hx
        exact posn_below (ks := ks) (x := K k) x (by rw [e]; exact hx)
      · intro x hx
        simp at hx; subst hx; exact O.irr _
    · generalize hR : ks.take (posn lt K ks (K k)) ++ k :: ks.drop (posn lt K ks (K k)) = R at *
      have hl' : R.length = 257 := by omega
      have hgd : R.getD 128 0 = R[128]'(by omega) := by simp [List.getD, List.getElem?_eq_getElem (show 128 < R.length by omega)]
      have hsplit : R = R.take 128 ++ R[128]'(by omega) :: R.drop 129 := by
        rw [List.getElem_cons_drop]; exact (List.take_append_drop 128 R).symm
      have hS2 : (R.take 128 ++ R[128]'(by omega) :: R.drop 129).Pairwise fun a b => lt (K a) (K b) = true := by rw [← hsplit]; exact hS
      rw [List.pairwise_append] at hS2
      obtain ⟨hA, hB, hC⟩ := hS2
      refine ⟨⟨hA, by rw [List.length_take]; omega, fun _ e => ?_, fun _ _ => by rw [List.length_take]; omega⟩, ⟨hS.sublist (List.drop_sublist _ _), by rw [List.length_drop]; omega, fun _ e => ?_, fun _ _ => by rw [List.length_drop]; omega⟩, ?_, ?_, ?_⟩
      · have := congrArg List.length e; rw [List.length_take, List.length_nil] at this; omega
      · have := congrArg List.length e; rw [List.length_drop, List.length_nil] at this; omega
      · show (R.take 128 ++ R.drop 128).Perm _
        rw [List.take_append_drop]; exact hP
      · intro x hx
        rw [hgd]
        exact hC x hx _ (List.mem_cons.2 (Or.inl rfl))
      · intro x hx
        rw [hgd]
        have hx' : x ∈ R[128]'(by omega) :: R.drop 129 := by rw [List.getElem_cons_drop]; exact hx
        rcases List.mem_cons.1 hx' with rfl | hx'
        · exact O.irr _
        · exact O.asymm ((List.pairwise_cons.1 hB).1 x hx')

/-! ### the inner node -/
theorem childOf_le (bs : List α) (x : α) : childOf lt bs x ≤ bs.length := (List.takeWhile_prefix _).length_le
theorem childOf_spec {bs : List α} {x : α} {i : Nat} (hi : i ≤ bs.length) (h1 : ∀ j b, j < i → bs[j]? = some b → lt x b = false) (h2 : ∀ b, bs[i]? = some b → lt x b = true) :
    childOf lt bs x = i := by
  induction bs generalizing i with
  | nil => simp at hi; subst hi; rfl
  | cons a r ih =>
    cases i with
    | zero =>
      have := h2 a rfl
      simp [childOf, this]
    | succ i =>
      have h0 := h1 0 a (by omega) rfl
      have := ih (i := i) (by simpa using hi) (fun j k hj hk => h1 (j + 1) k (by omega) (by simpa using hk)) (fun k hk => h2 k (by simpa using hk))
      simp only [childOf] at this
      simp [childOf, h0, this]
theorem childOf_below (bs : List α) (x : α) : ∀ j b, j < childOf lt bs x → bs[j]? = some b → lt x b = false := by
  induction bs with
  | nil => intro j b hj; simp [childOf] at hj
  | cons a r ih =>
    intro j b hj hb
    cases ha : lt x a with
    | true => simp [childOf, ha] at hj
    | false =>
      have e : childOf lt (a :: r) x = childOf lt r x + 1 := by simp [childOf, ha]
      rw [e] at hj
      cases j with
      | zero => simp at hb; subst hb; exact ha
      | succ j => exact ih j b (by omega) (by simpa using hb)
theorem childOf_at (bs : List α) (x : α) : ∀ b, bs[childOf lt bs x]? = some b → lt x b = true := by
  induction bs with
  | nil => intro b hb; simp at hb
  | cons a r ih =>
    intro b hb
    cases ha : lt x a with
    | true =>
      have e : childOf lt (a :: r) x = 0 := by simp [childOf, ha]
      rw [e] at hb; simp at hb; subst hb; exact ha
    | false =>
      have e : childOf lt (a :: r) x = childOf lt r x + 1 := by simp [childOf, ha]
      rw [e] at hb
      exact ih b (by simpa using hb)

theorem put1_get {β : Type} (cs : List β) (i : Nat) (c u : β) (hi : i < cs.length) (j : Nat) :
    (put1 cs i c u)[j]? = if j < i then cs[j]? else if j = i then some c else if j = i + 1 then some u else cs[j - 1]? := by
  unfold put1
  have hl : (cs.take i).length = i := by rw [List.length_take]; omega
  by_cases h1 : j < i
  · rw [if_pos h1, List.getElem?_append_left (by omega), List.getElem?_take, if_pos h1]
  · rw [if_neg h1, List.getElem?_append_right (by omega), hl]
    by_cases h2 : j = i
    · subst h2; simp
    · rw [if_neg h2]
      by_cases h3 : j = i + 1
      · subst h3; rw [if_pos rfl, show i + 1 - i = 1 by omega]; rfl
      · rw [if_neg h3]
        obtain ⟨m, rfl⟩ : ∃ m, j = i + 2 + m := ⟨j - (i + 2), by omega⟩
        rw [show i + 2 + m - i = m + 2 by omega]
        simp
theorem put1_len {β : Type} (cs : List β) (i : Nat) (c u : β) (hi : i < cs.length) : (put1 cs i c u).length = cs.length + 1 := by
  simp [put1]; omega
theorem putB_get (bs : List α) (i : Nat) (b : α) (hi : i ≤ bs.length) (j : Nat) :
    (putB bs i b)[j]? = if j < i then bs[j]? else if j = i then some b else bs[j - 1]? := by
  unfold putB
  have hl : (bs.take i).length = i := by rw [List.length_take]; omega
  by_cases h1 : j < i
  · rw [if_pos h1, List.getElem?_append_left (by omega), List.getElem?_take, if_pos h1]
  · rw [if_neg h1, List.getElem?_append_right (by omega), hl]
    by_cases h2 : j = i
    · subst h2; simp
    · rw [if_neg h2]
      obtain ⟨m, rfl⟩ : ∃ m, j = i + 1 + m := ⟨j - (i + 1), by omega⟩
      rw [show i + 1 + m - i = m + 1 by omega]
      simp
theorem putB_len (bs : List α) (i : Nat) (b : α) (hi : i ≤ bs.length) : (putB bs i b).length = bs.length + 1 := by
  simp [putB]; omega

theorem split_at {β : Type} {cs : List β} {i : Nat} {c : β} (h : cs[i]? = some c) : cs = cs.take i ++ c :: cs.drop (i + 1) := by
  obtain ⟨hi, rfl⟩ := List.getElem?_eq_some_iff.1 h
  rw [List.getElem_cons_drop, List.take_append_drop]
theorem keys_split {β : Type} (ky : β → List Nat) {cs : List β} {i : Nat} {c : β} (h : cs[i]? = some c) :
    (cs.map ky).flatten = ((cs.take i).map ky).flatten ++ (ky c ++ ((cs.drop (i + 1)).map ky).flatten) := by
  conv => lhs; rw [split_at h]
  simp

/-- The separation, restated for a list with places moved: from below and from above. -/
theorem sep_slice {β : Type} {ky : β → List Nat} {cs : List β} {bs : List α} (h : Sep lt K ky cs bs) (a : Nat) (cs' : List β) (bs' : List α)
    (hc : ∀ j c, cs'[j]? = some c → cs[j + a]? = some c) (hb : ∀ j b, bs'[j]? = some b → bs[j + a]? = some b) : Sep lt K ky cs' bs' := by
  intro i b hi
  obtain ⟨h1, h2⟩ := h (i + a) b (hb i b hi)
  exact ⟨fun j c hj hle k hk => h1 (j + a) c (hc j c hj) (by omega) k hk, fun j c hj hlt k hk => h2 (j + a) c (hc j c hj) (by omega) k hk⟩

theorem inner_spec (O : Ord lt) {β : Type} {P : Bool → β → Prop} {ky : β → List Nat} (hne : ∀ f c, P f c → ky c ≠ []) (root last : Bool) (cs : List β) (bs : List α) (k : Nat)
    (h : InnerOk lt K P ky root last cs bs) (c0 : β) (hc0 : cs[childOf lt bs (K k)]? = some c0) (r : β × Option (α × β))
    (hr : InsPost lt K (fun _ f c => P f c) ky false (last && (childOf lt bs (K k) + 1 == cs.length)) c0 k r) :
    InsPost lt K (fun r l (t : List β × List α) => InnerOk lt K P ky r l t.1 t.2) (fun t => (t.1.map ky).flatten) root last (cs, bs) k (insInner cs bs (childOf lt bs (K k)) r) := by
  have hbel := childOf_below (lt := lt) bs (K k)
  have hat := childOf_at (lt := lt) bs (K k)
  generalize childOf lt bs (K k) = i at *
  have hi : i < cs.length := (List.getElem?_eq_some_iff.1 hc0).1
  obtain ⟨hlen, h2, h64, h16, hkids, hsep⟩ := h
  obtain ⟨c, o⟩ := r
  cases o with
  | none =>
    obtain ⟨hP, hperm⟩ := hr
    have hset : ∀ j x, (cs.set i c)[j]? = some x → (j = i ∧ x = c) ∨ (j ≠ i ∧ cs[j]? = some x) := by
      intro j x hx
      by_cases e : j = i
      · subst e; rw [List.getElem?_set_self hi] at hx; exact Or.inl ⟨rfl, (Option.some.inj hx).symm⟩
      · rw [List.getElem?_set_ne (Ne.symm e)] at hx; exact Or.inr ⟨e, hx⟩
    refine ⟨⟨by simpa using hlen, by simpa using h2, by simpa using h64, fun h => by simpa using h16 h, ?_, ?_⟩, ?_⟩
    · intro j x hx
      have hx' : (cs.set i c)[j]? = some x := hx
      simp only [List.length_set]
      rcases hset j x hx' with ⟨rfl, rfl⟩ | ⟨_, hx⟩
      · exact hP
      · exact hkids j x hx
    · intro m b hb
      obtain ⟨s1, s2⟩ := hsep m b hb
      refine ⟨fun j x hx hle y hy => ?_, fun j x hx hgt y hy => ?_⟩
      · rcases hset j x hx with ⟨rfl, rfl⟩ | ⟨_, hx⟩
        · have hy' := hperm.subset hy
          rcases List.mem_cons.1 hy' with rfl | hy'
          · -- the new key: j = i ≤ m: below the bound
            by_cases e : m = j
            · subst e; exact hat b hb
            · -- m > i: b is above bs[i]; through any key of the child m
              have hm : m < bs.length := (List.getElem?_eq_some_iff.1 hb).1
              obtain ⟨b0, hb0⟩ : ∃ b0, bs[j]? = some b0 := ⟨bs[j]'(by omega), List.getElem?_eq_getElem (by omega)⟩
              have hx0 := hat b0 hb0
              obtain ⟨cm, hcm⟩ : ∃ cm, cs[m]? = some cm := ⟨cs[m]'(by omega), List.getElem?_eq_getElem (by omega)⟩
              obtain ⟨z, hz⟩ := List.exists_mem_of_ne_nil _ (hne _ _ (hkids m cm hcm))
              have z1 := (hsep j b0 hb0).2 m cm hcm (by omega) z hz
              have z2 := s1 m cm hcm (Nat.le_refl _) z hz
              exact O.tr _ _ _ (O.lt_of_lt_ge hx0 z1) z2
          · exact s1 j c0 hc0 hle y hy'
        · exact s1 j x hx hle y hy
      · rcases hset j x hx with ⟨rfl, rfl⟩ | ⟨_, hx⟩
        · have hy' := hperm.subset hy
          rcases List.mem_cons.1 hy' with rfl | hy'
          · exact hbel m b hgt hb
          · exact s2 j c0 hc0 hgt y hy'
        · exact s2 j x hx hgt y hy
    · show ((cs.set i c).map ky).flatten.Perm (k :: (cs.map ky).flatten)
      rw [keys_split ky (cs := cs.set i c) (i := i) (c := c) (by rw [List.getElem?_set_self hi]), keys_split ky hc0]
      have e1 : (cs.set i c).take i = cs.take i := by rw [List.take_set_of_le (Nat.le_refl _)]
      have e2 : (cs.set i c).drop (i + 1) = cs.drop (i + 1) := by rw [List.drop_set_of_lt (by omega)]
      rw [e1, e2]
      refine (List.Perm.append_left _ (hperm.append_right _)).trans ?_
      rw [List.cons_append]
      exact List.perm_middle
  | some bu =>
    obtain ⟨b, u⟩ := bu
    obtain ⟨hPc, hPu, hperm, hlo, hhi⟩ := hr
    have hib : i ≤ bs.length := by omega
    have hcg := put1_get cs i c u hi
    have hbg := putB_get bs i b hib
    have hcl := put1_len cs i c u hi
    have hbl := putB_len bs i b hib
    have hkeys : ((put1 cs i c u).map ky).flatten.Perm (k :: (cs.map ky).flatten) := by
      rw [keys_split ky hc0]
      have e : ((put1 cs i c u).map ky).flatten = ((cs.take i).map ky).flatten ++ ((ky c ++ ky u) ++ ((cs.drop (i + 1)).map ky).flatten) := by simp [put1]
      rw [e]
      refine (List.Perm.append_left _ (hperm.append_right _)).trans ?_
      rw [List.cons_append]
      exact List.perm_middle
    -- the new key against the old bounds
    have hnew_lo : ∀ m b', m < i → bs[m]? = some b' → lt (K k) b' = false := fun m b' hm hb' => hbel m b' hm hb'
    have hnew_hi : ∀ m b', i ≤ m → bs[m]? = some b' → lt (K k) b' = true := by
      intro m b' hm hb'
      by_cases e : m = i
      · subst e; exact hat b' hb'
      · have hml : m < bs.length := (List.getElem?_eq_some_iff.1 hb').1
        obtain ⟨b0, hb0⟩ : ∃ b0, bs[i]? = some b0 := ⟨bs[i]'(by omega), List.getElem?_eq_getElem (by omega)⟩
        have hx0 := hat b0 hb0
        obtain ⟨cm, hcm⟩ : ∃ cm, cs[m]? = some cm := ⟨cs[m]'(by omega), List.getElem?_eq_getElem (by omega)⟩
        obtain ⟨z, hz⟩ := List.exists_mem_of_ne_nil _ (hne _ _ (hkids m cm hcm))
        exact O.tr _ _ _ (O.lt_of_lt_ge hx0 ((hsep i b0 hb0).2 m cm hcm (by omega) z hz)) ((hsep m b' hb').1 m cm hcm (Nat.le_refl _) z hz)
    -- keys of the two halves against the old bounds
    have hcu_lo : ∀ y, y ∈ ky c ∨ y ∈ ky u → ∀ m b', m < i → bs[m]? = some b' → lt (K y) b' = false := by
      intro y hy m b' hm hb'
      have hy' := hperm.subset (List.mem_append.2 hy)
      rcases List.mem_cons.1 hy' with rfl | hy'
      · exact hnew_lo m b' hm hb'
      · exact (hsep m b' hb').2 i c0 hc0 hm y hy'
    have hcu_hi : ∀ y, y ∈ ky c ∨ y ∈ ky u → ∀ m b', i ≤ m → bs[m]? = some b' → lt (K y) b' = true := by
      intro y hy m b' hm hb'
      have hy' := hperm.subset (List.mem_append.2 hy)
      rcases List.mem_cons.1 hy' with rfl | hy'
      · exact hnew_hi m b' hm hb'
      · exact (hsep m b' hb').1 i c0 hc0 hm y hy'
    obtain ⟨yc, hyc⟩ := List.exists_mem_of_ne_nil _ (hne _ _ hPc)
    obtain ⟨yu, hyu⟩ := List.exists_mem_of_ne_nil _ (hne _ _ hPu)
    have hsep' : Sep lt K ky (put1 cs i c u) (putB bs i b) := by
      intro m b' hb'
      rw [hbg] at hb'
      by_cases m1 : m < i
      · rw [if_pos m1] at hb'
        obtain ⟨s1, s2⟩ := hsep m b' hb'
        refine ⟨fun j x hx hle y hy => ?_, fun j x hx hgt y hy => ?_⟩
        · rw [hcg, if_pos (by omega)] at hx
          exact s1 j x hx hle y hy
        · rw [hcg] at hx
          by_cases j1 : j < i
          · rw [if_pos j1] at hx; exact s2 j x hx hgt y hy
          · rw [if_neg j1] at hx
            by_cases j2 : j = i
            · rw [if_pos j2] at hx; obtain rfl := Option.some.inj hx; exact hcu_lo y (Or.inl hy) m b' m1 hb'
            · rw [if_neg j2] at hx
              by_cases j3 : j = i + 1
              · rw [if_pos j3] at hx; obtain rfl := Option.some.inj hx; exact hcu_lo y (Or.inr hy) m b' m1 hb'
              · rw [if_neg j3] at hx; exact s2 (j - 1) x hx (by omega) y hy
      · rw [if_neg m1] at hb'
        by_cases m2 : m = i
        · rw [if_pos m2] at hb'
          obtain rfl := Option.some.inj hb'
          refine ⟨fun j x hx hle y hy => ?_, fun j x hx hgt y hy => ?_⟩
          · rw [hcg] at hx
            by_cases j1 : j < i
            · rw [if_pos j1] at hx
              -- below the old bound j ≤ i - 1, which is not above yc, which is below b
              obtain ⟨b1, hb1⟩ : ∃ b1, bs[j]? = some b1 := ⟨bs[j]'(by omega), List.getElem?_eq_getElem (by omega)⟩
              have q1 := (hsep j b1 hb1).1 j x hx (Nat.le_refl _) y hy
              have q2 := hcu_lo yc (Or.inl hyc) j b1 j1 hb1
              exact O.tr _ _ _ (O.lt_of_lt_ge q1 q2) (hlo yc hyc)
            · rw [if_neg j1, if_pos (by omega)] at hx
              obtain rfl := Option.some.inj hx
              exact hlo y hy
          · rw [hcg, if_neg (by omega), if_neg (by omega)] at hx
            by_cases j3 : j = i + 1
            · rw [if_pos j3] at hx; obtain rfl := Option.some.inj hx; exact hhi y hy
            · rw [if_neg j3] at hx
              have hjl : j - 1 < cs.length := (List.getElem?_eq_some_iff.1 hx).1
              obtain ⟨b1, hb1⟩ : ∃ b1, bs[i]? = some b1 := ⟨bs[i]'(by omega), List.getElem?_eq_getElem (by omega)⟩
              have q1 := (hsep i b1 hb1).2 (j - 1) x hx (by omega) y hy
              have q2 := hcu_hi yu (Or.inr hyu) i b1 (Nat.le_refl _) hb1
              -- yu < b1 ≤ y and b ≤ yu
              have q3 := O.lt_of_lt_ge q2 q1
              have q4 := hhi yu hyu
              cases hyb : lt (K y) b with
              | false => rfl
              | true => rw [O.tr _ _ _ q3 hyb] at q4; cases q4
        · rw [if_neg m2] at hb'
          obtain ⟨s1, s2⟩ := hsep (m - 1) b' hb'
          refine ⟨fun j x hx hle y hy => ?_, fun j x hx hgt y hy => ?_⟩
          · rw [hcg] at hx
            by_cases j1 : j < i
            · rw [if_pos j1] at hx; exact s1 j x hx (by omega) y hy
            · rw [if_neg j1] at hx
              by_cases j2 : j = i
              · rw [if_pos j2] at hx; obtain rfl := Option.some.inj hx; exact hcu_hi y (Or.inl hy) (m - 1) b' (by omega) hb'
              · rw [if_neg j2] at hx
                by_cases j3 : j = i + 1
                · rw [if_pos j3] at hx; obtain rfl := Option.some.inj hx; exact hcu_hi y (Or.inr hy) (m - 1) b' (by omega) hb'
                · rw [if_neg j3] at hx; exact s1 (j - 1) x hx (by omega) y hy
          · rw [hcg, if_neg (by omega), if_neg (by omega), if_neg (by omega)] at hx
            exact s2 (j - 1) x hx (by omega) y hy
    -- the children's own facts
    have hkid' : ∀ j x, (put1 cs i c u)[j]? = some x → P (last && (j + 1 == cs.length + 1)) x := by
      intro j x hx
      rw [hcg] at hx
      by_cases j1 : j < i
      · rw [if_pos j1] at hx
        have := hkids j x hx
        rw [show (j + 1 == cs.length) = false by rw [beq_eq_false_iff_ne]; omega] at this
        rw [show (j + 1 == cs.length + 1) = false by rw [beq_eq_false_iff_ne]; omega]
        exact this
      · rw [if_neg j1] at hx
        by_cases j2 : j = i
        · rw [if_pos j2] at hx; obtain rfl := Option.some.inj hx
          rw [show (j + 1 == cs.length + 1) = false by rw [beq_eq_false_iff_ne]; omega, Bool.and_false]
          exact hPc
        · rw [if_neg j2] at hx
          by_cases j3 : j = i + 1
          · rw [if_pos j3] at hx; obtain rfl := Option.some.inj hx
            rw [show (j + 1 == cs.length + 1) = (i + 1 == cs.length) by rw [j3, Bool.eq_iff_iff, beq_iff_eq, beq_iff_eq]; omega]
            exact hPu
          · rw [if_neg j3] at hx
            have := hkids (j - 1) x hx
            rw [show (j + 1 == cs.length + 1) = (j - 1 + 1 == cs.length) by rw [Bool.eq_iff_iff, beq_iff_eq, beq_iff_eq]; omega]
            exact this
    simp only [insInner]
    split
    · rename_i hl
      refine ⟨⟨by simp only; omega, by simp only; omega, by simp only; omega, fun hr => by have := h16 hr; simp only; omega, ?_, hsep'⟩, hkeys⟩
      intro j x hx
      rw [show (j + 1 == (put1 cs i c u).length) = (j + 1 == cs.length + 1) by rw [hcl]]
      exact hkid' j x hx
    · rename_i hl
      have h65 : cs.length = 64 := by omega
      have hb31 : ∃ b1, (putB bs i b)[31]? = some b1 := ⟨(putB bs i b)[31]'(by omega), List.getElem?_eq_getElem (by omega)⟩
      obtain ⟨b1, hb1⟩ := hb31
      have hgd : (putB bs i b).getD 31 b = b1 := by rw [List.getD, hb1]; rfl
      obtain ⟨t1, t2⟩ := hsep' 31 b1 hb1
      refine ⟨⟨?_, ?_, ?_, fun _ => ?_, ?_, ?_⟩, ⟨?_, ?_, ?_, fun _ => ?_, ?_, ?_⟩, ?_, ?_, ?_⟩
      · simp only [List.length_take]; omega
      · simp only [List.length_take]; omega
      · simp only [List.length_take]; omega
      · simp only [List.length_take]; omega
      · intro j x hx
        simp only [List.getElem?_take] at hx
        split at hx
        · have := hkid' j x hx
          rw [show (j + 1 == cs.length + 1) = false by rw [beq_eq_false_iff_ne]; omega, Bool.and_false] at this
          rw [Bool.false_and]; exact this
        · cases hx
      · refine sep_slice hsep' 0 _ _ (fun j x hx => ?_) (fun j x hx => ?_)
        · simp only [List.getElem?_take] at hx; split at hx
          · exact hx
          · cases hx
        · simp only [List.getElem?_take] at hx; split at hx
          · exact hx
          · cases hx
      · simp only [List.length_drop]; omega
      · simp only [List.length_drop]; omega
      · simp only [List.length_drop]; omega
      · simp only [List.length_drop]; omega
      · intro j x hx
        simp only [List.getElem?_drop] at hx
        have := hkid' (32 + j) x hx
        rw [show (32 + j + 1 == cs.length + 1) = (j + 1 == ((put1 cs i c u).drop 32).length) by rw [Bool.eq_iff_iff, beq_iff_eq, beq_iff_eq, List.length_drop]; omega] at this
        exact this
      · refine sep_slice hsep' 32 _ _ (fun j x hx => ?_) (fun j x hx => ?_)
        · simp only [List.getElem?_drop] at hx; rw [Nat.add_comm]; exact hx
        · simp only [List.getElem?_drop] at hx; rw [Nat.add_comm]; exact hx
      · show ((((put1 cs i c u).take 32).map ky).flatten ++ (((put1 cs i c u).drop 32).map ky).flatten).Perm _
        rw [← List.flatten_append, ← List.map_append, List.take_append_drop]
        exact hkeys
      · intro x hx
        rw [hgd]
        simp only [List.mem_flatten, List.mem_map] at hx
        obtain ⟨l, ⟨cc, hcc, rfl⟩, hx⟩ := hx
        obtain ⟨j, hj⟩ := List.getElem?_of_mem hcc
        simp only [List.getElem?_take] at hj
        split at hj
        · exact t1 j cc hj (by omega) x hx
        · cases hj
      · intro x hx
        rw [hgd]
        simp only [List.mem_flatten, List.mem_map] at hx
        obtain ⟨l, ⟨cc, hcc, rfl⟩, hx⟩ := hx
        obtain ⟨j, hj⟩ := List.getElem?_of_mem hcc
        simp only [List.getElem?_drop] at hj
        exact t2 (32 + j) cc hj (by omega) x hx

/-! ### the whole tree -/
theorem keys_ne : ∀ (d : Nat) (last : Bool) (t : T α d), Wf lt K d false last t → keysT d t ≠ []
  | 0, _, _, h => h.2.2.1 rfl
  | d + 1, last, (cs, bs), h => by
    have h' : InnerOk lt K (fun f c => Wf lt K d false f c) (keysT d) false last cs bs := h
    obtain ⟨c, hc⟩ : ∃ c, cs[0]? = some c := ⟨cs[0]'(by have := h'.two; omega), List.getElem?_eq_getElem (by have := h'.two; omega)⟩
    have h1 := keys_ne d _ c (h'.kids 0 c hc)
    obtain ⟨x, hx⟩ := List.exists_mem_of_ne_nil _ h1
    intro e
    have : x ∈ (cs.map (keysT d)).flatten := List.mem_flatten.2 ⟨_, List.mem_map.2 ⟨c, List.mem_of_getElem? hc, rfl⟩, hx⟩
    have e' : (cs.map (keysT d)).flatten = [] := e
    rw [e'] at this; cases this

theorem ins_spec (O : Ord lt) : ∀ (d : Nat) (root last : Bool) (t : T α d) (k : Nat), Wf lt K d root last t → (∀ x ∈ keysT d t, K x ≠ K k) →
    InsPost lt K (fun r l t => Wf lt K d r l t) (keysT d) root last t k (ins lt K d last t k)
  | 0, root, last, t, k, h, hk => insLeaf_spec O root last t k h hk
  | d + 1, root, last, (cs, bs), k, h, hk => by
    have h' : InnerOk lt K (fun f c => Wf lt K d false f c) (keysT d) root last cs bs := h
    have hle := childOf_le (lt := lt) bs (K k)
    have hlen := h'.len
    obtain ⟨c0, hc0⟩ : ∃ c, cs[childOf lt bs (K k)]? = some c := ⟨cs[childOf lt bs (K k)]'(by omega), List.getElem?_eq_getElem (by omega)⟩
    have e : ins lt K (d + 1) last (cs, bs) k = insInner cs bs (childOf lt bs (K k)) (ins lt K d (last && (childOf lt bs (K k) + 1 == cs.length)) c0 k) := by
      simp only [ins, hc0]
      rfl
    rw [e]
    have hk0 : ∀ x ∈ keysT d c0, K x ≠ K k := fun x hx => hk x (List.mem_flatten.2 ⟨_, List.mem_map.2 ⟨c0, List.mem_of_getElem? hc0, rfl⟩, hx⟩)
    have hr := ins_spec O d false (last && (childOf lt bs (K k) + 1 == cs.length)) c0 k (h'.kids _ c0 hc0) hk0
    have hr' : InsPost lt K (fun _ f c => Wf lt K d false f c) (keysT d) false (last && (childOf lt bs (K k) + 1 == cs.length)) c0 k (ins lt K d (last && (childOf lt bs (K k) + 1 == cs.length)) c0 k) := by
      generalize ins lt K d (last && (childOf lt bs (K k) + 1 == cs.length)) c0 k = r at *
      obtain ⟨c, o⟩ := r
      cases o with
      | none => exact hr
      | some bu => exact hr
    have := inner_spec O (P := fun f c => Wf lt K d false f c) (ky := keysT d) (fun f c hc => keys_ne d f c hc) root last cs bs k h' c0 hc0 _ hr'
    generalize insInner cs bs (childOf lt bs (K k)) (ins lt K d (last && (childOf lt bs (K k) + 1 == cs.length)) c0 k) = r at *
    obtain ⟨⟨cs', bs'⟩, o⟩ := r
    cases o with
    | none => exact this
    | some bu =>
      obtain ⟨b, ⟨cs2, bs2⟩⟩ := bu
      exact this

theorem flat_sorted {β : Type} {R : Nat → Nat → Prop} (ky : β → List Nat) : ∀ (cs : List β), (∀ c ∈ cs, (ky c).Pairwise R) → (∀ (i j : Nat) (c c' : β), cs[i]? = some c → cs[j]? = some c' → i < j → ∀ x ∈ ky c, ∀ y ∈ ky c', R x y) → ((cs.map ky).flatten).Pairwise R
  | [], _, _ => by simp
  | c :: r, h1, h2 => by
    have ih := flat_sorted ky r (fun c hc => h1 c (List.mem_cons.2 (Or.inr hc))) (fun i j a b ha hb hij => h2 (i + 1) (j + 1) a b (by simpa using ha) (by simpa using hb) (by omega))
    simp only [List.map_cons, List.flatten_cons, List.pairwise_append]
    refine ⟨h1 c (List.mem_cons.2 (Or.inl rfl)), ih, fun x hx y hy => ?_⟩
    obtain ⟨l, hl, hy⟩ := List.mem_flatten.1 hy
    obtain ⟨c', hc', rfl⟩ := List.mem_map.1 hl
    obtain ⟨j, hj⟩ := List.getElem?_of_mem hc'
    exact h2 0 (j + 1) c c' rfl (by simpa using hj) (by omega) x hx y hy

theorem keys_sorted (O : Ord lt) : ∀ (d : Nat) (root last : Bool) (t : T α d), Wf lt K d root last t → (keysT d t).Pairwise fun a b => lt (K a) (K b) = true
  | 0, _, _, _, h => h.1
  | d + 1, root, last, (cs, bs), h => by
    have h' : InnerOk lt K (fun f c => Wf lt K d false f c) (keysT d) root last cs bs := h
    refine flat_sorted (keysT d) cs (fun c hc => ?_) (fun i j c c' hi hj hij x hx y hy => ?_)
    · obtain ⟨i, hi⟩ := List.getElem?_of_mem hc
      exact keys_sorted O d _ _ c (h'.kids i c hi)
    · have hl := h'.len
      have hjl : j < cs.length := (List.getElem?_eq_some_iff.1 hj).1
      obtain ⟨b, hb⟩ : ∃ b, bs[i]? = some b := ⟨bs[i]'(by omega), List.getElem?_eq_getElem (by omega)⟩
      exact O.lt_of_lt_ge ((h'.sep i b hb).1 i c hi (Nat.le_refl _) x hx) ((h'.sep i b hb).2 j c' hj hij y hy)

theorem flat_len {β : Type} (ky : β → List Nat) (m : Nat) : ∀ (cs : List β), (∀ c ∈ cs, m ≤ (ky c).length) → cs.length * m ≤ ((cs.map ky).flatten).length
  | [], _ => by simp
  | c :: r, h => by
    have ih := flat_len ky m r (fun c hc => h c (List.mem_cons.2 (Or.inr hc)))
    have h0 := h c (List.mem_cons.2 (Or.inl rfl))
    simp only [List.map_cons, List.flatten_cons, List.length_append, List.length_cons, Nat.add_mul, Nat.one_mul]
    omega
/-- A tree of depth d holds 2 to the d keys or more (but for a root that is a leaf). -/
theorem keys_many : ∀ (d : Nat) (root last : Bool) (t : T α d), Wf lt K d root last t → (root = false ∨ 0 < d) → 2 ^ d ≤ (keysT d t).length
  | 0, root, _, t, h, hr => by
    have hr' : root = false := by rcases hr with h | h; exact h; omega
    have := h.2.2.1 hr'
    have h1 : (t : List Nat).length ≠ 0 := fun e => this (List.eq_nil_of_length_eq_zero e)
    show 1 ≤ (t : List Nat).length
    omega
  | d + 1, root, last, (cs, bs), h, _ => by
    have h' : InnerOk lt K (fun f c => Wf lt K d false f c) (keysT d) root last cs bs := h
    have := flat_len (keysT d) (2 ^ d) cs (fun c hc => by
      obtain ⟨i, hi⟩ := List.getElem?_of_mem hc
      exact keys_many d _ _ c (h'.kids i c hi) (Or.inl rfl))
    have h2 : 2 * 2 ^ d ≤ cs.length * 2 ^ d := Nat.mul_le_mul_right _ h'.two
    show 2 ^ (d + 1) ≤ ((cs.map (keysT d)).flatten).length
    rw [Nat.pow_succ]; omega

/-- Two strictly sorted lists of the same members are one. -/
theorem sorted_unique {R : Nat → Nat → Prop} (hirr : ∀ a, ¬ R a a) (has : ∀ a b, R a b → ¬ R b a) : ∀ (l l' : List Nat), l.Pairwise R → l'.Pairwise R → l.Perm l' → l = l'
  | [], l', _, _, h => (List.Perm.eq_nil (h.symm)).symm
  | a :: r, [], _, _, h => by have := h.eq_nil; cases this
  | a :: r, b :: r', h1, h2, h => by
    have hab : a = b := by
      have ha : a ∈ b :: r' := h.subset (List.mem_cons.2 (Or.inl rfl))
      have hb : b ∈ a :: r := h.symm.subset (List.mem_cons.2 (Or.inl rfl))
      rcases List.mem_cons.1 ha with e | ha
      · exact e
      · rcases List.mem_cons.1 hb with e | hb
        · exact e.symm
        · exact absurd ((List.pairwise_cons.1 h1).1 b hb) (has _ _ ((List.pairwise_cons.1 h2).1 a ha))
    subst hab
    rw [sorted_unique hirr has r r' (List.pairwise_cons.1 h1).2 (List.pairwise_cons.1 h2).2 (List.Perm.cons_inv h)]
end
end Bt
end Go.Proofs.Qxb6613201a
