/- '(*table).insert' at any depth. -/
import Derived.Test.Qxb6613201aInsert
set_option linter.unusedVariables false
set_option linter.unusedSimpArgs false
namespace Go.Proofs.Qxb6613201a
open Go.RowKit

theorem insC_put {ps : List Nat} {i q0 : Nat} (h : ps[i]? = some q0) (qn : Nat) : insC ps i qn = Bt.put1 ps i q0 qn := by
  obtain ⟨hi, rfl⟩ := List.getElem?_eq_some_iff.1 h
  unfold insC Bt.put1
  rw [List.take_succ_eq_append_getElem hi, List.append_assoc]
  rfl

theorem insert_calls (tb cb rb0 cap : Nat) (bytes : List UInt8) (off : Nat → Nat) (K : Nat → ByteArray) (k : Nat) : ∀ (d p : Nat) (t : Bt.T ByteArray d) (F : List Nat) (root last : Bool) (w : World), Env w tb cb rb0 bytes cap → w.cell? ⟨tb, 3, none⟩ = some (.int .u64 0) →
    Keys bytes off K (k :: Bt.keysT d t) → Bt.Wf klt K d root last t → Mem w off d p t F → F.Nodup → tb ∉ F → cb ∉ F → rb0 ∉ F →
    Calls Try.prog 45 #[.pointer (some ⟨tb, 0, none⟩), .pointer (some ⟨p, 0, none⟩), .string (K k), .agg #[.int .u32 1, .int .u32 (off k)], .bool last] w fun e w' => Ext F w w' ∧ InsOut w w' off d p F e (Bt.ins klt K d last t k)
  | 0, p, ks, F, root, last, w, E, hv, hK, hwf, hM, hF, h1, h2, h3 => insert_leaf tb cb rb0 cap bytes off K p k ks F root last w E hv hK hwf hM hF h1 h2 h3
  | d + 1, p, (cs, bs), F, root, last, w, E, hv, hK, hwf, hM, hF, h1, h2, h3 => by
    have h' : Bt.InnerOk klt K (fun f c => Bt.Wf klt K d false f c) (Bt.keysT d) root last cs bs := hwf
    obtain ⟨cb', bb', ps, Fs, hN, hoc, hob, hk, rfl⟩ := hM
    have hle := Bt.childOf_le (lt := klt) bs (K k)
    have hlen := h'.len
    have hlp := hk.lp
    have hlf := hk.lf
    obtain ⟨i, hi⟩ : ∃ i, Bt.childOf klt bs (K k) = i := ⟨_, rfl⟩
    rw [hi] at hle
    obtain ⟨c0, hc0⟩ : ∃ c, cs[i]? = some c := ⟨cs[i]'(by omega), List.getElem?_eq_getElem (by omega)⟩
    obtain ⟨q0, hq0⟩ : ∃ c, ps[i]? = some c := ⟨ps[i]'(by omega), List.getElem?_eq_getElem (by omega)⟩
    obtain ⟨G, hG⟩ : ∃ c, Fs[i]? = some c := ⟨Fs[i]'(by omega), List.getElem?_eq_getElem (by omega)⟩
    have e : Bt.ins klt K (d + 1) last (cs, bs) k = Bt.insInner cs bs i (Bt.ins klt K d (last && (i + 1 == cs.length)) c0 k) := by
      subst hi
      simp only [Bt.ins, hc0]
      rfl
    rw [e]
    have hGF : ∀ x ∈ G, x ∈ Fs.flatten := fun x hx => List.mem_flatten.2 ⟨G, List.mem_of_getElem? hG, hx⟩
    have hMall := hk.each
    have hMlt : ∀ x ∈ Fs.flatten, x < w.heap.size := fun x hx => mem_lt (d + 1) p (cs, bs) _ ⟨cb', bb', ps, Fs, hN, hoc, hob, hk, rfl⟩ x (by simp only [List.mem_cons]; exact Or.inr (Or.inr (Or.inr hx)))
    have hplt : p < w.heap.size := lt_of_block hN
    have hclt : cb' < w.heap.size := owns_lt hoc
    have hblt : bb' < w.heap.size := owns_lt hob
    have hnd := hF
    rw [List.nodup_cons, List.nodup_cons, List.nodup_cons] at hnd
    simp only [List.mem_cons, not_or] at hnd h1 h2 h3
    obtain ⟨⟨hpc, hpb, hpF⟩, ⟨hcb, hcF⟩, hbF, hFs⟩ := hnd
    -- the children that are not chosen lie apart from G
    have hapart : ∀ (j : Nat) (G' : List Nat), j ≠ i → Fs[j]? = some G' → ∀ x ∈ G', x ∉ G := by
      intro j G' hj hG' x hx hxG
      have hp := List.pairwise_iff_getElem.1 (List.pairwise_flatten.1 hFs).2
      obtain ⟨a1, a2⟩ := List.getElem?_eq_some_iff.1 hG
      obtain ⟨b1, b2⟩ := List.getElem?_eq_some_iff.1 hG'
      rcases Nat.lt_or_gt_of_ne hj with h | h
      · have := hp j i b1 a1 h x; rw [a2, b2] at this; exact this hx x hxG rfl
      · have := hp i j a1 b1 h x; rw [a2, b2] at this; exact this hxG x hx rfl
    have hGn : G.Nodup := (List.pairwise_flatten.1 hFs).1 G (List.mem_of_getElem? hG)
    have hsep : bs.Pairwise fun a b => klt a b = true := sep_sorted h'.sep hlen (fun c hc => by
      obtain ⟨j, hj⟩ := List.getElem?_of_mem hc
      exact Bt.keys_ne d _ c (h'.kids j c hj))
    have hM0 := hk.each i q0 c0 G hq0 hc0 hG
    refine (insert_inner tb off K p cb' bb' cs.length bs.length k q0 i ps bs last G (fun op bd w' => InsOut w w' off d q0 G (.returned (.tuple #[ptrO op, .string bd])) (Bt.ins klt K d (last && (i + 1 == cs.length)) c0 k)) w hN hoc hob hlp rfl (by omega) h'.most hi hsep hq0 hv
      (fun h => h1.2.2.2 (hGF _ h)) hpc hpb hcb (fun x hx => hMlt x (hGF x hx)) (fun h => hpF (hGF _ h)) (fun h => hcF (hGF _ h)) (fun h => hbF (hGF _ h)) (fun W hW => ?_)).mono ?_
    · refine (insert_calls tb cb rb0 cap bytes off K k d q0 c0 G false _ W (E.below hW) ((hW.cell (p := ⟨tb, 3, none⟩) (World.block_lt_of_cell? _ _ hv)).trans hv) (hK.sub ?_) (h'.kids i c0 hc0) (mem_ext hM0 (Ext.of_below hW) (by simp)) hGn (fun h => h1.2.2.2 (hGF _ h)) (fun h => h2.2.2.2 (hGF _ h)) (fun h => h3.2.2.2 (hGF _ h))).mono ?_
      · intro x hx
        rcases List.mem_cons.1 hx with rfl | hx
        · simp
        · exact List.mem_cons_of_mem _ (List.mem_flatten.2 ⟨_, List.mem_map.2 ⟨c0, List.mem_of_getElem? hc0, rfl⟩, hx⟩)
      · rintro e' w' ⟨hx, ho⟩
        have hz := hW.size
        generalize Bt.ins klt K d (last && (i + 1 == cs.length)) c0 k = r at ho ⊢
        obtain ⟨c', o⟩ := r
        cases o with
        | none =>
          obtain ⟨he, F', a1, a2, a3⟩ := ho
          exact ⟨none, ⟨#[]⟩, he, hx, rfl, F', a1, a2, fun b hb => by rcases a3 b hb with h | h; exact Or.inl h; exact Or.inr (by omega)⟩
        | some bu =>
          obtain ⟨bd, u⟩ := bu
          obtain ⟨q, F', G2, he, a1, a2, a3, a4⟩ := ho
          exact ⟨some q, bd, he, hx, q, F', G2, rfl, a1, a2, a3, fun b hb => by rcases a4 b hb with h | h; exact Or.inl h; exact Or.inr (by omega)⟩
    · rintro e' w' hor
      generalize Bt.ins klt K d (last && (i + 1 == cs.length)) c0 k = r at hor ⊢
      obtain ⟨c', o⟩ := r
      have hflt := flat_split hG
      rcases hor with ⟨he, bd, hQ, hx⟩ | ⟨qn, bd, w2, hQ, hx, hor⟩
      · cases o with
        | some bu =>
          obtain ⟨bd', u⟩ := bu
          obtain ⟨q, F', G2, hq, _⟩ := hQ
          simp [ptrO] at hq
        | none =>
          obtain ⟨_, F', hM', hF', hb'⟩ := hQ
          refine ⟨hx.mono (fun x hx => by simp only [List.mem_cons]; exact Or.inr (Or.inr (Or.inr (hGF x hx)))), he, p :: cb' :: bb' :: (Fs.set i F').flatten, ?_, ?_, ?_⟩
          · refine ⟨cb', bb', ps, Fs.set i F', ?_, ?_, ?_, kids_set hk hq0 (fun j q c G' hj hG' hm => mem_ext hm hx (hapart j G' hj hG')) hM', rfl⟩
            · have := (hx.block p hplt (fun h => hpF (hGF _ h))).trans hN
              rw [List.length_set]; exact this
            · have := owns_same hoc (hx.block cb' hclt (fun h => hcF (hGF _ h)))
              simpa using this
            · exact owns_same hob (hx.block bb' hblt (fun h => hbF (hGF _ h)))
          · have := nodup_swap (L := p :: cb' :: bb' :: (Fs.take i).flatten) (G := G) (R := (Fs.drop (i + 1)).flatten) (H := F') (B := w.heap.size) (by rw [hflt] at hF; simpa using hF) hF' hb'
              (fun x hx => by
                simp only [List.mem_cons] at hx
                rcases hx with rfl | rfl | rfl | hx
                · exact hplt
                · exact hclt
                · exact hblt
                · exact hMlt x (by rw [hflt]; simp only [List.mem_append]; exact Or.inl (Or.inl hx)))
              (fun x hx => hMlt x (by rw [hflt]; simp only [List.mem_append]; exact Or.inr hx))
            rw [flat_set _ (by omega)]
            simpa using this
          · intro b hb
            rw [flat_set _ (by omega)] at hb
            simp only [List.mem_cons, List.mem_append] at hb ⊢
            rw [hflt]
            simp only [List.mem_append]
            rcases hb with h | h | h | (h | h) | h
            · exact Or.inl (Or.inl h)
            · exact Or.inl (Or.inr (Or.inl h))
            · exact Or.inl (Or.inr (Or.inr (Or.inl h)))
            · exact Or.inl (Or.inr (Or.inr (Or.inr (Or.inl (Or.inl h)))))
            · rcases hb' b h with h | h
              · exact Or.inl (Or.inr (Or.inr (Or.inr (Or.inl (Or.inr h)))))
              · exact Or.inr h
            · exact Or.inl (Or.inr (Or.inr (Or.inr (Or.inr h))))
      · cases o with
        | none =>
          obtain ⟨hq, _⟩ := hQ
          simp [ptrO] at hq
        | some bu =>
          obtain ⟨bd', u⟩ := bu
          obtain ⟨q, F', G2, hq, hM', hMu, hFG, hb'⟩ := hQ
          simp only [ptrO, Ending.returned.injEq, Value.tuple.injEq, Array.mk.injEq, List.cons.injEq, Value.pointer.injEq, Option.some.injEq, Addr.mk.injEq, and_true, Value.string.injEq] at hq
          obtain ⟨rfl, rfl⟩ := hq
          have hz2 := hx.size
          obtain ⟨Fs', hFs'⟩ : ∃ Fs', Bt.put1 Fs i F' G2 = Fs' := ⟨_, rfl⟩
          have hil : i < cs.length := by omega
          -- all at w2
          have hK2 : Kids (Mem w2 off d) (Bt.put1 ps i q0 qn) (Bt.put1 cs i c' u) Fs' := by
            rw [← hFs']
            exact kids_put1 hk hil (fun j q c G' hj hG' hm => mem_ext hm hx (hapart j G' hj hG')) hM' hMu
          have hlt2 : ∀ x ∈ Fs'.flatten, x < w2.heap.size := by
            intro x hx
            obtain ⟨G', hG', hxG⟩ := List.mem_flatten.1 hx
            obtain ⟨j, hj⟩ := List.getElem?_of_mem hG'
            have hjl := (List.getElem?_eq_some_iff.1 hj).1
            have b1 := hK2.lp
            have b2 := hK2.lf
            exact mem_lt d _ _ G' (hK2.each j _ _ G' (List.getElem?_eq_getElem (by omega)) (List.getElem?_eq_getElem (by omega)) hj) x hxG
          have hnd2 : (p :: cb' :: bb' :: Fs'.flatten).Nodup := by
            have := nodup_swap (L := p :: cb' :: bb' :: (Fs.take i).flatten) (G := G) (R := (Fs.drop (i + 1)).flatten) (H := F' ++ G2) (B := w.heap.size) (by rw [hflt] at hF; simpa using hF) hFG hb'
              (fun x hx => by
                simp only [List.mem_cons] at hx
                rcases hx with rfl | rfl | rfl | hx
                · exact hplt
                · exact hclt
                · exact hblt
                · exact hMlt x (by rw [hflt]; simp only [List.mem_append]; exact Or.inl (Or.inl hx)))
              (fun x hx => hMlt x (by rw [hflt]; simp only [List.mem_append]; exact Or.inr hx))
            rw [← hFs', flat_put1]
            simpa using this
          have hmem2 : ∀ x ∈ Fs'.flatten, x ∈ Fs.flatten ∨ w.heap.size ≤ x := by
            intro x hx
            rw [← hFs', flat_put1] at hx
            rw [hflt]
            simp only [List.mem_append] at hx ⊢
            rcases hx with (h | h) | h
            · exact Or.inl (Or.inl (Or.inl h))
            · rcases hb' x (List.mem_append.2 h) with h | h
              · exact Or.inl (Or.inl (Or.inr h))
              · exact Or.inr h
            · exact Or.inl (Or.inr h)
          have hpn : ∀ x ∈ Fs'.flatten, x ∉ [p, cb', bb'] := by
            intro x hx hm
            rw [List.nodup_cons, List.nodup_cons, List.nodup_cons] at hnd2
            simp only [List.mem_cons, not_or, List.not_mem_nil, or_false] at hnd2 hm
            rcases hm with rfl | rfl | rfl
            · exact hnd2.1.2.2 hx
            · exact hnd2.2.1.2 hx
            · exact hnd2.2.2.1 hx
          have hExt : ∀ w', Ext [p, cb', bb'] w2 w' → Ext (p :: cb' :: bb' :: Fs.flatten) w w' := fun w' hx' =>
            (hx.mono (fun x hx => by simp only [List.mem_cons]; exact Or.inr (Or.inr (Or.inr (hGF x hx))))).trans (hx'.mono (fun x hx => by simp only [List.mem_cons, List.not_mem_nil, or_false] at hx ⊢; rcases hx with h | h | h; exact Or.inl h; exact Or.inr (Or.inl h); exact Or.inr (Or.inr (Or.inl h))))
          have hKw : ∀ w', Ext [p, cb', bb'] w2 w' → Kids (Mem w' off d) (Bt.put1 ps i q0 qn) (Bt.put1 cs i c' u) Fs' := fun w' hx' =>
            ⟨hK2.lp, hK2.lf, fun j q c G' a1 a2 a3 => mem_ext (hK2.each j q c G' a1 a2 a3) hx' (fun b hb => hpn b (List.mem_flatten.2 ⟨G', List.mem_of_getElem? a3, hb⟩))⟩
          have hCl : (Bt.put1 cs i c' u).length = cs.length + 1 := Bt.put1_len _ _ _ _ hil
          have hBl : (Bt.putB bs i bd).length = bs.length + 1 := Bt.putB_len _ _ _ (by omega)
          have hFl : Fs'.length = cs.length + 1 := by rw [hK2.lf, hCl]
          rcases hor with ⟨hm, he, hNw, hR1, hR2, hx'⟩ | ⟨hm, q, b31, hb31, he, hNw, hR1, hR2, ⟨ga, gb, hNq, hS1, hS2, hz4, hz5, hz6, hz7, hz8, hz9⟩, hx'⟩
          · simp only [Bt.insInner, if_pos hm]
            rw [insC_put hq0] at hR1
            refine ⟨hExt _ hx', he, p :: cb' :: bb' :: Fs'.flatten, ⟨cb', bb', Bt.put1 ps i q0 qn, Fs', by rw [hCl, hBl]; exact hNw, by rw [hCl]; exact hR1, by rw [hBl]; exact hR2, hKw _ hx', rfl⟩, hnd2, ?_⟩
            intro b hb
            simp only [List.mem_cons] at hb ⊢
            rcases hb with h | h | h | h
            · exact Or.inl (Or.inl h)
            · exact Or.inl (Or.inr (Or.inl h))
            · exact Or.inl (Or.inr (Or.inr (Or.inl h)))
            · rcases hmem2 b h with h | h
              · exact Or.inl (Or.inr (Or.inr (Or.inr h)))
              · exact Or.inr h
          · have hnl : ¬ cs.length < 64 := by omega
            have hb31' : (Bt.putB bs i bd).getD 31 bd = b31 := by
              rw [List.getD_eq_getElem?_getD, show (Bt.putB bs i bd)[31]? = some b31 from hb31]; rfl
            simp only [Bt.insInner, if_neg hnl, hb31']
            rw [insC_put hq0] at hR1 hS1
            have k1 : ((Bt.put1 cs i c' u).take 32).length = 32 := by rw [List.length_take]; omega
            have k2 : ((Bt.putB bs i bd).take 31).length = 31 := by rw [List.length_take]; omega
            have k3 : ((Bt.put1 cs i c' u).drop 32).length = 33 := by rw [List.length_drop]; omega
            have k4 : ((Bt.putB bs i bd).drop 32).length = 32 := by rw [List.length_drop]; omega
            refine ⟨hExt _ hx', q, p :: cb' :: bb' :: (Fs'.take 32).flatten, q :: ga :: gb :: (Fs'.drop 32).flatten, he,
              ⟨cb', bb', (Bt.put1 ps i q0 qn).take 32, Fs'.take 32, by rw [k1, k2]; exact hNw, by rw [k1]; exact hR1, by rw [k2]; exact hR2, kids_take (hKw _ hx') 32, rfl⟩,
              ⟨ga, gb, (Bt.put1 ps i q0 qn).drop 32, Fs'.drop 32, by rw [k3, k4]; exact hNq, by rw [k3]; exact hS1, by rw [k4]; exact hS2, kids_drop (hKw _ hx') 32, rfl⟩, ?_, ?_⟩
            · have hsplit : Fs'.flatten = (Fs'.take 32).flatten ++ (Fs'.drop 32).flatten := by rw [← List.flatten_append, List.take_append_drop]
              have hperm : (p :: cb' :: bb' :: (Fs'.take 32).flatten ++ q :: ga :: gb :: (Fs'.drop 32).flatten).Perm ([q, ga, gb] ++ (p :: cb' :: bb' :: Fs'.flatten)) := by
                rw [hsplit]
                have := List.perm_append_comm_assoc (p :: cb' :: bb' :: (Fs'.take 32).flatten) [q, ga, gb] (Fs'.drop 32).flatten
                simpa using this
              rw [hperm.nodup_iff]
              rw [List.nodup_append]
              refine ⟨by simp; omega, hnd2, fun a ha b hb e => ?_⟩
              subst e
              have hlow : a < w2.heap.size := by
                simp only [List.mem_cons] at hb
                rcases hb with rfl | rfl | rfl | hb
                · omega
                · omega
                · omega
                · exact hlt2 a hb
              simp only [List.mem_cons, List.not_mem_nil, or_false] at ha
              omega
            · intro b hb
              have hmm : b ∈ p :: cb' :: bb' :: Fs'.flatten ∨ w.heap.size ≤ b := by
                simp only [List.mem_append, List.mem_cons] at hb ⊢
                rcases hb with (h | h | h | h) | (h | h | h | h)
                · exact Or.inl (Or.inl h)
                · exact Or.inl (Or.inr (Or.inl h))
                · exact Or.inl (Or.inr (Or.inr (Or.inl h)))
                · refine Or.inl (Or.inr (Or.inr (Or.inr ?_)))
                  obtain ⟨G', g1, g2⟩ := List.mem_flatten.1 h
                  exact List.mem_flatten.2 ⟨G', List.mem_of_mem_take g1, g2⟩
                · exact Or.inr (by omega)
                · exact Or.inr (by omega)
                · exact Or.inr (by omega)
                · refine Or.inl (Or.inr (Or.inr (Or.inr ?_)))
                  obtain ⟨G', g1, g2⟩ := List.mem_flatten.1 h
                  exact List.mem_flatten.2 ⟨G', List.mem_of_mem_drop g1, g2⟩
              rcases hmm with h | h
              · simp only [List.mem_cons] at h ⊢
                rcases h with h | h | h | h
                · exact Or.inl (Or.inl h)
                · exact Or.inl (Or.inr (Or.inl h))
                · exact Or.inl (Or.inr (Or.inr (Or.inl h)))
                · rcases hmem2 b h with h | h
                  · exact Or.inl (Or.inr (Or.inr (Or.inr h)))
                  · exact Or.inr h
              · exact Or.inr h
end Go.Proofs.Qxb6613201a
