/- '(*table).insert', by induction on the depth. -/
import Derived.Test.Qxb6613201aInner
import Derived.Test.Qxb6613201aInsLeaf2
set_option linter.unusedVariables false
set_option linter.unusedSimpArgs false
namespace Go.Proofs.Qxb6613201a
open Go.RowKit

theorem Keys.sub {bytes : List UInt8} {off : Nat → Nat} {K : Nat → ByteArray} {a b : List Nat} (h : Keys bytes off K a) (hs : ∀ x ∈ b, x ∈ a) : Keys bytes off K b := ⟨fun k hk => h.lies k (hs k hk), fun k hk => h.small k (hs k hk)⟩

theorem insert_leaf (tb cb rb0 cap : Nat) (bytes : List UInt8) (off : Nat → Nat) (K : Nat → ByteArray) (p k : Nat) (ks : List Nat) (F : List Nat) (root last : Bool) (w : World) (E : Env w tb cb rb0 bytes cap) (hv : w.cell? ⟨tb, 3, none⟩ = some (.int .u64 0))
    (hK : Keys bytes off K (k :: ks)) (hwf : Bt.LeafOk klt K root last ks) (hM : Mem w off 0 p ks F) (hF : F.Nodup) (h1 : tb ∉ F) (h2 : cb ∉ F) (h3 : rb0 ∉ F) :
    Calls Try.prog 45 #[.pointer (some ⟨tb, 0, none⟩), .pointer (some ⟨p, 0, none⟩), .string (K k), .agg #[.int .u32 1, .int .u32 (off k)], .bool last] w fun e w' => Ext F w w' ∧ InsOut w w' off 0 p F e (Bt.insLeaf klt K last ks k) := by
  obtain ⟨rb, hN, ho, rfl⟩ := hM
  have hpr : p ≠ rb := by simpa using hF
  have hs := hwf.1
  have hle := hwf.2.1
  have hKs : Keys bytes off K ks := hK.sub (fun x hx => List.mem_cons_of_mem _ hx)
  simp only [List.mem_cons, List.not_mem_nil, or_false, not_or] at h1 h2 h3
  have hpos := Bt.posn_le (lt := klt) (K := K) ks (K k)
  unfold Bt.insLeaf
  obtain ⟨R, hR⟩ : ∃ R, R = ks.take (Bt.posn klt K ks (K k)) ++ k :: ks.drop (Bt.posn klt K ks (K k)) := ⟨_, rfl⟩
  have hRl : R.length = ks.length + 1 := by rw [hR, Bt.ins_len _ _ _ hpos]
  have hKR : Keys bytes off K R := hK.sub (fun x hx => by rw [hR] at hx; exact (Bt.ins_perm ks _ k).mem_iff.1 hx)
  split
  · rename_i hlt
    refine (insert_leaf_room tb cb rb0 cap bytes off K p rb k ks last w E hKs hs hN ho hlt hpr).mono ?_
    rintro e w' ⟨he, hN', ho', hx⟩
    rw [← hR] at ho' ⊢
    rw [← hRl] at hN' ho'
    exact ⟨hx, he, [p, rb], ⟨rb, hN', ho', rfl⟩, hF, fun b hb => Or.inl hb⟩
  · rename_i hlt
    have hlen : ks.length = 256 := by
      have : List.length (α := Nat) ks ≤ 256 := hle
      omega
    have hN2 : NodeAt w p (.slice (some ⟨rb, 0, none⟩) 256 256) (.slice none 0 0) (.slice none 0 0) := by rw [hlen] at hN; exact hN
    have ho2 : w.ownsRow 0 42 2 (.slice (some ⟨rb, 0, none⟩) 256 256) 256 (refCells off ks) := by rw [hlen] at ho; exact ho
    have hd : tb ≠ p ∧ tb ≠ rb ∧ cb ≠ p ∧ cb ≠ rb ∧ rb0 ≠ p ∧ rb0 ≠ rb := ⟨h1.1, h1.2, h2.1, h2.2, h3.1, h3.2⟩
    have hplt : p < w.heap.size := lt_of_block hN
    have hrlt : rb < w.heap.size := owns_lt ho
    split
    · rename_i hc
      have hRe : R = ks ++ [k] := by rw [hR, hc.2, List.take_of_length_le (by omega), List.drop_of_length_le (by omega)]
      rw [hc.1]
      refine (insert_leaf_splitA tb cb rb0 cap bytes off K p rb k k ks R w E hv hKs hKR hs hN2 ho2 hlen hpr hR (by rw [hRe, List.getElem?_append_right (by omega), hlen]; rfl) hc.2 hd).mono ?_
      rintro e w' ⟨q, g, he, hN', ho', hNq, hoq, hq1, hq2, hqg, hx⟩
      rw [hRe, List.take_append_of_le_length (by omega), List.take_of_length_le (by omega)] at ho'
      rw [hRe, List.drop_append_of_le_length (by omega), List.drop_of_length_le (by omega)] at hoq
      refine ⟨hx, q, [p, rb], [q, g], he, ⟨rb, by rw [hlen]; exact hN', by rw [hlen]; exact ho', rfl⟩, ⟨g, hNq, hoq, rfl⟩, ?_, ?_⟩
      · simp; omega
      · intro b hb; simp at hb ⊢; omega
    · rename_i hc
      obtain ⟨x0, hx0⟩ : ∃ x0, R[128]? = some x0 := ⟨R[128]'(by omega), List.getElem?_eq_getElem _⟩
      have hxd : (R.getD 128 0) = x0 := by rw [List.getD_eq_getElem?_getD, hx0]; rfl
      rw [← hR, hxd]
      have l1 : (R.take 128).length = 128 := by rw [List.length_take]; omega
      have l2 : (R.drop 128).length = 129 := by rw [List.length_drop]; omega
      have hpost : ∀ (e : Ending) (w' : World), (∃ q g, e = .returned (.tuple #[.pointer (some ⟨q, 0, none⟩), .string (K x0)]) ∧ NodeAt w' p (.slice (some ⟨rb, 0, none⟩) 128 256) (.slice none 0 0) (.slice none 0 0) ∧
        w'.ownsRow 0 42 2 (.slice (some ⟨rb, 0, none⟩) 128 256) 128 (refCells off (R.take 128)) ∧ NodeAt w' q (.slice (some ⟨g, 0, none⟩) 129 256) (.slice none 0 0) (.slice none 0 0) ∧
        w'.ownsRow 0 42 2 (.slice (some ⟨g, 0, none⟩) 129 256) 129 (refCells off (R.drop 128)) ∧ w.heap.size ≤ q ∧ w.heap.size ≤ g ∧ q ≠ g ∧ Ext [p, rb] w w') → Ext [p, rb] w w' ∧ InsOut w w' off 0 p [p, rb] e (R.take 128, some (K x0, R.drop 128)) := by
        rintro e w' ⟨q, g, he, hN', ho', hNq, hoq, hq1, hq2, hqg, hx⟩
        refine ⟨hx, q, [p, rb], [q, g], he, ⟨rb, by rw [l1]; exact hN', by rw [l1]; exact ho', rfl⟩, ⟨g, by rw [l2]; exact hNq, by rw [l2]; exact hoq, rfl⟩, ?_, ?_⟩
        · simp; omega
        · intro b hb; simp at hb ⊢; omega
      cases last with
      | false => exact (insert_leaf_splitB tb cb rb0 cap bytes off K p rb k x0 ks R w E hv hKs hKR hs hN2 ho2 hlen hpr hR hx0 hd).mono hpost
      | true => exact (insert_leaf_splitC tb cb rb0 cap bytes off K p rb k x0 ks R w E hv hKs hKR hs hN2 ho2 hlen hpr hR hx0 (fun e => hc ⟨rfl, e⟩) hd).mono hpost

/-! ### the blocks -/
theorem nodup_swap {L G R H : List Nat} {B : Nat} (h : (L ++ G ++ R).Nodup) (hH : H.Nodup) (hm : ∀ x ∈ H, x ∈ G ∨ B ≤ x) (hL : ∀ x ∈ L, x < B) (hR : ∀ x ∈ R, x < B) : (L ++ H ++ R).Nodup := by
  simp only [List.nodup_append, List.mem_append] at h ⊢
  obtain ⟨⟨h1, h2, h3⟩, h4, h5⟩ := h
  refine ⟨⟨h1, hH, fun a ha b hb e => ?_⟩, h4, fun a ha b hb e => ?_⟩
  · subst e
    rcases hm a hb with h | h
    · exact h3 a ha a h rfl
    · have := hL a ha; omega
  · subst e
    rcases ha with ha | ha
    · exact h5 a (Or.inl ha) a hb rfl
    · rcases hm a ha with h | h
      · exact h5 a (Or.inr h) a hb rfl
      · have := hR a hb; omega
theorem flat_split {Fs : List (List Nat)} {i : Nat} {G : List Nat} (h : Fs[i]? = some G) : Fs.flatten = (Fs.take i).flatten ++ G ++ (Fs.drop (i + 1)).flatten := by
  conv => lhs; rw [Bt.split_at h]
  simp
theorem flat_put1 {Fs : List (List Nat)} {i : Nat} (G H : List Nat) : (Bt.put1 Fs i G H).flatten = (Fs.take i).flatten ++ (G ++ H) ++ (Fs.drop (i + 1)).flatten := by
  simp [Bt.put1]
theorem flat_set {Fs : List (List Nat)} {i : Nat} (G : List Nat) (h : i < Fs.length) : (Fs.set i G).flatten = (Fs.take i).flatten ++ G ++ (Fs.drop (i + 1)).flatten := by
  rw [List.set_eq_take_append_cons_drop, if_pos h]
  simp

theorem kids_take {β : Type} {M : Nat → β → List Nat → Prop} {ps : List Nat} {cs : List β} {Fs : List (List Nat)} (h : Kids M ps cs Fs) (n : Nat) : Kids M (ps.take n) (cs.take n) (Fs.take n) :=
  ⟨by simp [h.lp], by simp [h.lf], fun j q c G hq hc hG => by
    rw [List.getElem?_take] at hq hc hG
    split at hq
    · rename_i hj; rw [if_pos hj] at hc hG; exact h.each j q c G hq hc hG
    · cases hq⟩
theorem kids_drop {β : Type} {M : Nat → β → List Nat → Prop} {ps : List Nat} {cs : List β} {Fs : List (List Nat)} (h : Kids M ps cs Fs) (n : Nat) : Kids M (ps.drop n) (cs.drop n) (Fs.drop n) :=
  ⟨by simp [h.lp], by simp [h.lf], fun j q c G hq hc hG => by
    rw [List.getElem?_drop] at hq hc hG
    exact h.each _ q c G hq hc hG⟩
theorem kids_set {β : Type} {M M' : Nat → β → List Nat → Prop} {ps : List Nat} {cs : List β} {Fs : List (List Nat)} {i q0 : Nat} {c' : β} {G' : List Nat} (h : Kids M ps cs Fs) (hi : ps[i]? = some q0) (hM : ∀ (j q : Nat) (c : β) (G : List Nat), j ≠ i → Fs[j]? = some G → M q c G → M' q c G) (hn : M' q0 c' G') :
    Kids M' ps (cs.set i c') (Fs.set i G') := by
  refine ⟨by simp [h.lp], by simp [h.lf], fun j q c G hq hc hG => ?_⟩
  rw [List.getElem?_set] at hc hG
  by_cases e : i = j
  · subst e
    rw [if_pos rfl] at hc hG
    split at hc
    · split at hG
      · obtain rfl := Option.some.inj hc; obtain rfl := Option.some.inj hG
        rw [hi] at hq; obtain rfl := Option.some.inj hq
        exact hn
      · cases hG
    · cases hc
  · rw [if_neg e] at hc hG
    exact hM j q c G (fun e' => e e'.symm) hG (h.each j q c G hq hc hG)
theorem kids_put1 {β : Type} {M M' : Nat → β → List Nat → Prop} {ps : List Nat} {cs : List β} {Fs : List (List Nat)} {i q0 qn : Nat} {c' u : β} {G' G2 : List Nat} (h : Kids M ps cs Fs) (hi : i < cs.length) (hM : ∀ (j q : Nat) (c : β) (G : List Nat), j ≠ i → Fs[j]? = some G → M q c G → M' q c G) (hn : M' q0 c' G') (hu : M' qn u G2) :
    Kids M' (Bt.put1 ps i q0 qn) (Bt.put1 cs i c' u) (Bt.put1 Fs i G' G2) := by
  have h1 := h.lp
  have h2 := h.lf
  refine ⟨by rw [Bt.put1_len _ _ _ _ (by omega), Bt.put1_len _ _ _ _ hi, h1], by rw [Bt.put1_len _ _ _ _ (by omega), Bt.put1_len _ _ _ _ hi, h2], fun j q c G hq hc hG => ?_⟩
  rw [Bt.put1_get _ _ _ _ (by omega)] at hq hc hG
  by_cases e1 : j < i
  · rw [if_pos e1] at hq hc hG
    exact hM j q c G (by omega) hG (h.each j q c G hq hc hG)
  · rw [if_neg e1] at hq hc hG
    by_cases e2 : j = i
    · rw [if_pos e2] at hq hc hG
      obtain rfl := Option.some.inj hq; obtain rfl := Option.some.inj hc; obtain rfl := Option.some.inj hG
      exact hn
    · rw [if_neg e2] at hq hc hG
      by_cases e3 : j = i + 1
      · rw [if_pos e3] at hq hc hG
        obtain rfl := Option.some.inj hq; obtain rfl := Option.some.inj hc; obtain rfl := Option.some.inj hG
        exact hu
      · rw [if_neg e3] at hq hc hG
        exact hM (j - 1) q c G (by omega) hG (h.each _ q c G hq hc hG)

/-- The bounds ascend. -/
theorem sep_sorted {β : Type} {K : Nat → ByteArray} {ky : β → List Nat} {cs : List β} {bs : List ByteArray} (h : Bt.Sep klt K ky cs bs) (hl : bs.length + 1 = cs.length) (hne : ∀ c ∈ cs, ky c ≠ []) : bs.Pairwise fun a b => klt a b = true := by
  rw [List.pairwise_iff_getElem]
  intro i j hi hj hij
  obtain ⟨x, hx⟩ := List.exists_mem_of_ne_nil _ (hne (cs[j]'(by omega)) (List.getElem_mem _))
  have a1 := (h i bs[i] (List.getElem?_eq_getElem hi)).2 j _ (List.getElem?_eq_getElem (by omega)) hij x hx
  have a2 := (h j bs[j] (List.getElem?_eq_getElem hj)).1 j _ (List.getElem?_eq_getElem (by omega)) (Nat.le_refl _) x hx
  exact kOrd.lt_of_ge_lt a1 a2
end Go.Proofs.Qxb6613201a
