/- 'zzVisit' at any depth. -/
import Derived.Test.Qxb6613201aVisit2
set_option linter.unusedVariables false
set_option linter.unusedSimpArgs false
namespace Go.Proofs.Qxb6613201a
open Go.RowKit

theorem visit11 (B zb : Nat) (off : Nat → Nat) (K : Nat → ByteArray) : ∀ (d p : Nat) (t : Bt.T ByteArray d) (F : List Nat) (root last : Bool) (ld : Int) (ks cuts : List Nat) (bds : List ByteArray) (w : World) (dep : Nat), VisE B w off zb ld ks cuts bds → Mem w off d p t F → (∀ b ∈ F, b < B) → Bt.Wf klt K d root last t →
    dep + d ≤ 64 → (ld = -1 ∨ ld = ((dep + d : Nat) : Int)) → ks.length + (Bt.keysT d t).length ≤ 131072 → cuts.length + (Bt.marks ByteArray.empty d t ks.length).length ≤ 131072 → bds.length = cuts.length →
    Calls Try.prog 11 #[.pointer (some ⟨p, 0, none⟩), .int .i64 dep, .bool root, .bool last, .pointer (some ⟨zb, 0, none⟩)] w fun e w' => e = .returned (.tuple #[]) ∧
      VisE B w' off zb ((dep + d : Nat) : Int) (ks ++ Bt.keysT d t) (cuts ++ (Bt.marks ByteArray.empty d t ks.length).map Prod.fst) (bds ++ (Bt.marks ByteArray.empty d t ks.length).map Prod.snd) ∧ Below B w w'
  | 0, p, t, F, root, last, ld, ks, cuts, bds, w, dep, hV, hM, hF, hwf, hdep, hld, h1, h2, h3 => by
    obtain ⟨rb, hN, ho, rfl⟩ := hM
    refine (visit_leaf B zb p rb dep off K root last ld ks cuts t bds w hV hN ho (hF p (by simp)) (hF rb (by simp)) hwf (by omega) (by simpa using hld) h1).mono ?_
    rintro e w' ⟨he, hv, hb⟩
    refine ⟨he, ?_, hb⟩
    simpa [Bt.marks, Bt.keysT] using hv
  | d + 1, p, (cs, bs), F, root, last, ld, ks, cuts, bds, w, dep, hV, hM, hF, hwf, hdep, hld, h1, h2, h3 => by
    have h' : Bt.InnerOk klt K (fun f c => Bt.Wf klt K d false f c) (Bt.keysT d) root last cs bs := hwf
    obtain ⟨cb, bb, ps, Fs, hN, hoc, hob, hk, rfl⟩ := hM
    have hlen := h'.len
    refine (visit_inner B zb p cb bb cs.length bs.length dep off root last ld ((dep + (d + 1) : Nat) : Int) ks cuts ps bds bs cs (Bt.keysT d) (Bt.marks ByteArray.empty d) w hV hN hoc hob (hF cb (by simp)) (hF bb (by simp)) hk.lp rfl rfl hlen h'.two h'.most h'.least (by omega) hld h1 h2 h3 ?_)
    intro i q c W ld' ks' cuts' bds' hq hc hb hv hl c1 c2 c3
    have hlf := hk.lf
    obtain ⟨hil, _⟩ := List.getElem?_eq_some_iff.1 hc
    obtain ⟨G, hG⟩ : ∃ G, Fs[i]? = some G := ⟨Fs[i]'(by omega), List.getElem?_eq_getElem (by omega)⟩
    have hGB : ∀ b ∈ G, b < B := fun b hbG => hF b (by simp only [List.mem_cons, List.mem_flatten]; exact Or.inr (Or.inr (Or.inr ⟨G, List.mem_of_getElem? hG, hbG⟩)))
    have hM' : Mem W off d q c G := mem_same d q c G (hk.each i q c G hq hc hG) (fun b hbG => hb.block b (hGB b hbG))
    have e1 : dep + 1 + d = dep + (d + 1) := by omega
    have := visit11 B zb off K d q c G false (last && (i + 1 == cs.length)) ld' ks' cuts' bds' W (dep + 1) hv hM' hGB (h'.kids i c hc) (by omega) (by rw [e1]; exact hl) c1 c2 c3
    rw [e1] at this
    rw [show ((dep : Int) + 1) = ((dep + 1 : Nat) : Int) by simp]
    exact this
end Go.Proofs.Qxb6613201a
