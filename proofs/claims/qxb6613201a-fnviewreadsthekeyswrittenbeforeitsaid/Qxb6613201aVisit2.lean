/- 'zzVisit' at an inner node, and at any depth. -/
import Derived.Test.Qxb6613201aVisit
import Derived.Test.Qxb6613201aMarks
import Derived.Deep.CutRange
set_option linter.unusedVariables false
set_option linter.unusedSimpArgs false
namespace Go.Proofs.Qxb6613201a
open Go.RowKit

set_option maxHeartbeats 16000000 in
set_option maxRecDepth 100000 in
theorem visit_inner {β : Type} (B zb p cb bb m n dep : Nat) (off : Nat → Nat) (root last : Bool) (ld LD : Int) (ks cuts ps : List Nat) (bds bs : List ByteArray) (cs : List β) (ky : β → List Nat) (mk : β → Nat → List (Nat × ByteArray)) (w : World) (hV : VisE B w off zb ld ks cuts bds)
    (hN : NodeAt w p (.slice none 0 0) (.slice (some ⟨cb, 0, none⟩) m 64) (.slice (some ⟨bb, 0, none⟩) n 63)) (hoc : w.ownsRow 0 36 1 (.slice (some ⟨cb, 0, none⟩) m 64) m (ptrCells ps)) (hob : w.ownsRow 0 9 1 (.slice (some ⟨bb, 0, none⟩) n 63) n (strCells bs))
    (hc : cb < B) (hb : bb < B) (hps : ps.length = m) (hcs : cs.length = m) (hbs : bs.length = n) (hmn : n + 1 = m) (h2 : 2 ≤ m) (h64 : m ≤ 64) (h16 : root = false → 16 ≤ m) (hdep : dep + 1 ≤ 64) (hld : ld = -1 ∨ ld = LD)
    (hc1 : ks.length + ((cs.map ky).flatten).length ≤ 131072) (hc2 : cuts.length + (Bt.mup ByteArray.empty ky mk cs bs ks.length m).length ≤ 131072) (hc3 : bds.length = cuts.length)
    (H : ∀ (i q : Nat) (c : β) (W : World) (ld' : Int) (ks' cuts' : List Nat) (bds' : List ByteArray), ps[i]? = some q → cs[i]? = some c → Below B w W → VisE B W off zb ld' ks' cuts' bds' → (ld' = -1 ∨ ld' = LD) → ks'.length + (ky c).length ≤ 131072 → cuts'.length + (mk c ks'.length).length ≤ 131072 → bds'.length = cuts'.length →
      Calls Try.prog 11 #[.pointer (some ⟨q, 0, none⟩), .int .i64 ((dep : Int) + 1), .bool false, .bool (last && (i + 1 == m)), .pointer (some ⟨zb, 0, none⟩)] W fun e w' => e = .returned (.tuple #[]) ∧ VisE B w' off zb LD (ks' ++ ky c) (cuts' ++ (mk c ks'.length).map Prod.fst) (bds' ++ (mk c ks'.length).map Prod.snd) ∧ Below B W w') :
    Calls Try.prog 11 #[.pointer (some ⟨p, 0, none⟩), .int .i64 dep, .bool root, .bool last, .pointer (some ⟨zb, 0, none⟩)] w fun e w' => e = .returned (.tuple #[]) ∧ VisE B w' off zb LD (ks ++ (cs.map ky).flatten) (cuts ++ (Bt.mup ByteArray.empty ky mk cs bs ks.length m).map Prod.fst) (bds ++ (Bt.mup ByteArray.empty ky mk cs bs ks.length m).map Prod.snd) ∧ Below B w w' := by
  have hk2 := hN.c2
  have hk3 := hN.c3
  have hdep' : (dep : Int) + 1 ≤ 64 := by omega
  have hm2 : (2 : Int) ≤ (m : Int) := by omega
  have hm64 : (m : Int) ≤ 64 := by omega
  have hne : (n : Int) = (m : Int) - 1 := by omega
  have hwr : IntKind.wrap .i64 ((m : Int) - 1) = (m : Int) - 1 := by rw [IntKind.wrap_i64] <;> omega
  have hcellC : Hid (∀ (wr : World) (j q : Nat), Below B w wr → ps[j]? = some q → wr.cell? ⟨cb, j, none⟩ = some (.pointer (some ⟨q, 0, none⟩))) := fun wr j q hbb hq => (hbb.cell (p := ⟨cb, j, none⟩) hc).trans (owns_cell hoc (ptr_get hq))
  have hcellB : Hid (∀ (wr : World) (j : Nat) (b : ByteArray), Below B w wr → bs[j]? = some b → wr.cell? ⟨bb, j, none⟩ = some (.string b)) := fun wr j b hbb hq => (hbb.cell (p := ⟨bb, j, none⟩) hb).trans (owns_cell hob (str_get hq))
  have hguard : root = false → ((m : Int) < 16) = False := fun h1 => by have := h16 h1; simp; omega
  have HG := hid hguard
  have HV := hid hV
  have HNUM := hid (And.intro hps (And.intro hcs (And.intro hbs (And.intro hmn (And.intro h2 hc3)))))
  have HC := hid (And.intro hc1 hc2)
  have HLD := hid hld
  have HH := hid H
  have hq := fun a n c => Lib.run_eql_slice_nil (P := Try.prog) w 64 36 a n c 0 0 Try.underlying64
  clear hV hN hoc hob hc hb hps hcs hbs hmn h2 h64 h16 hdep hld hc1 hc2 hc3 H hguard
  go_enter Try.func11, Try.ntmps11
  go_upto_region 22 with (first | (go_at_call 28; refine (children28 _ _ _ hk2).mono ?_; rintro e w' ⟨rfl, hw⟩; obtain rfl := hw.symm) | (go_at_call 30; refine (bounds30 _ _ _ hk3).mono ?_; rintro e w' ⟨rfl, hw⟩; obtain rfl := hw.symm))
  go_cut [123] from 15 (fun a wx => a = .bool false ∧ wx = w)
  case first =>
    cases root
    · have hgg := HG.out rfl
      go_wp2_with fail
      go_meet
      case rel => exact ⟨rfl, rfl⟩
    · go_wp2_with fail
      go_meet
      case rel => exact ⟨rfl, rfl⟩
  case rest =>
    obtain ⟨ha, hb⟩ := hcut
    obtain rfl := hb.symm
    subst ha
    clear hk2 hk3 hq hne HG
    go_wp2_with fail
    go_loopg [14] m (fun k s14 wr => ∃ i : Nat, s14 = .int .i64 i ∧ i ≤ m ∧ Hid (k = m - i ∧ ∃ ld' : Int, (ld' = -1 ∨ ld' = LD) ∧ (0 < i → ld' = LD) ∧ VisE B wr off zb ld' (ks ++ Bt.kup ky cs i) (cuts ++ (Bt.mup ByteArray.empty ky mk cs bs ks.length i).map Prod.fst) (bds ++ (Bt.mup ByteArray.empty ky mk cs bs ks.length i).map Prod.snd) ∧ Below B w wr))
    case atStart => exact ⟨0, rfl, Nat.zero_le _, rfl, ld, HLD.out, by omega, by simpa [Bt.kup, Bt.mup] using HV.out, Below.refl _ _⟩
    case round =>
      clear HV HLD
      obtain ⟨i, rfl, hin, hR⟩ := hrel
      rename World => w2
      obtain ⟨hgk, ld', hl1, hl2, hv, hbl⟩ := hR.out
      clear hR
      obtain ⟨hps, hcs, hbs, hmn, hm2n, hc3⟩ := HNUM.out
      by_cases hlt : i < m
      · obtain ⟨c, hc⟩ : ∃ c, cs[i]? = some c := ⟨cs[i]'(by omega), List.getElem?_eq_getElem (by omega)⟩
        obtain ⟨q, hq⟩ : ∃ c, ps[i]? = some c := ⟨ps[i]'(by omega), List.getElem?_eq_getElem (by omega)⟩
        have hlt' : (i : Int) < (m : Int) := by omega
        have hcl := Bt.kup_le ky cs i
        have hcl2 := Bt.kup_le ky cs (i + 1)
        have hms := Bt.mup_succ (dfl := ByteArray.empty) (ky := ky) (mk := mk) (bs := bs) (base := ks.length) hc
        have hks := Bt.kup_succ (ky := ky) hc
        have hml := Bt.mup_le (dfl := ByteArray.empty) (ky := ky) (mk := mk) (cs := cs) (bs := bs) (base := ks.length) (show i + 1 ≤ m by omega)
        obtain ⟨hcc1, hcc2⟩ := HC.out
        -- the lists, behind names
        obtain ⟨ks', hks'⟩ : ∃ l, ks ++ Bt.kup ky cs i = l := ⟨_, rfl⟩
        obtain ⟨cu', hcu'⟩ : ∃ l, cuts ++ (Bt.mup ByteArray.empty ky mk cs bs ks.length i).map Prod.fst = l := ⟨_, rfl⟩
        obtain ⟨bd', hbd'⟩ : ∃ l, bds ++ (Bt.mup ByteArray.empty ky mk cs bs ks.length i).map Prod.snd = l := ⟨_, rfl⟩
        rw [hks', hcu', hbd'] at hv
        have hksl : ks'.length = ks.length + (Bt.kup ky cs i).length := by rw [← hks', List.length_append]
        have hlen : bd'.length = cu'.length := by rw [← hcu', ← hbd']; simp [hc3]
        obtain ⟨sp, hsp⟩ : ∃ sp : List (Nat × ByteArray), sp = if i = 0 then [] else [(ks.length + (Bt.kup ky cs i).length, bs.getD (i - 1) ByteArray.empty)] := ⟨_, rfl⟩
        rw [← hsp] at hms
        have hcul : cu'.length + sp.length + (mk c ks'.length).length ≤ 131072 := by
          rw [hms, ← hksl] at hml
          simp only [List.length_append] at hml
          have : cu'.length = cuts.length + (Bt.mup ByteArray.empty ky mk cs bs ks.length i).length := by rw [← hcu']; simp
          omega
        have hkl : ks'.length + (ky c).length ≤ 131072 := by
          rw [hks, List.length_append] at hcl2
          omega
        have HI := hid (And.intro hgk (And.intro hlt (And.intro hc hq)))
        have HL := hid (And.intro hl1 (And.intro hlen (And.intro hcul hkl)))
        have HW : Hid (VisE B w2 off zb ld' ks' cu' bd' ∧ Below B w w2) := ⟨hv, hbl⟩
        have HSP : Hid (sp = if i = 0 then [] else [(ks'.length, bs.getD (i - 1) ByteArray.empty)]) := by rw [hksl]; exact hsp
        have HM : Hid (ks' ++ ky c = ks ++ Bt.kup ky cs (i + 1) ∧ (∀ f : Nat × ByteArray → Nat, f = Prod.fst → cu' ++ sp.map f ++ (mk c ks'.length).map f = cuts ++ (Bt.mup ByteArray.empty ky mk cs bs ks.length (i + 1)).map f) ∧ (∀ f : Nat × ByteArray → ByteArray, f = Prod.snd → bd' ++ sp.map f ++ (mk c ks'.length).map f = bds ++ (Bt.mup ByteArray.empty ky mk cs bs ks.length (i + 1)).map f)) := by
          refine ⟨?_, ?_, ?_⟩
          · rw [hks, ← hks', List.append_assoc]
          · rintro f rfl; rw [hms, ← hcu', hksl]; simp
          · rintro f rfl; rw [hms, ← hbd', hksl]; simp
        have HQ := hid (hcellC.out w2 i q hbl hq)
        clear hv hbl hps hcs hbs hmn hm2n hc3 hc hq hcl hcl2 hms hks hml hcc1 hcc2 hks' hcu' hbd' hksl hlen hsp hcul hkl hgk hl1 hl2 hlt hin
        go_upto_if 134 with fail
        go_cut [] from 127 to 178 (fun wx => Hid (VisE B wx off zb ld' ks' (cu' ++ sp.map Prod.fst) (bd' ++ sp.map Prod.snd) ∧ Below B w wx))
        case first =>
          by_cases hi0 : i = 0
          · subst hi0
            go_wp2_with fail
            go_meet
            case rel =>
              have e : sp = [] := HSP.out
              have := HW.out
              show VisE _ _ _ _ _ _ _ _ ∧ _
              rw [e]; simpa using this
          · have hi1 : (0 : Int) < (i : Int) := by omega
            have e : sp = [(ks'.length, bs.getD (i - 1) ByteArray.empty)] := by rw [HSP.out, if_neg hi0]
            obtain ⟨ra, ca, ba, rc, cc, bc, hv⟩ := HW.out.1
            have hbl := HW.out.2
            have hll := HL.out
            rw [e] at hll
            simp only [List.length_cons, List.length_nil] at hll
            obtain ⟨a1, c1, W1, hap1, q1, q2, hv1, hb1⟩ := hv.pushC (by omega) ks'.length
            have m0 : w2.drew.cell? ⟨zb, 0, none⟩ = some (.slice ra ks'.length rc) := by show w2.cell? _ = _; simp [World.cell?, hv.here]
            have m1 : w2.drew.cell? ⟨zb, 2, none⟩ = some (.slice ca cu'.length cc) := by show w2.cell? _ = _; simp [World.cell?, hv.here]
            have m2 : (w2.alloc (.cells #[.int .i64 (ks'.length : Int)] 3)).drew.cell? ⟨zb, 2, none⟩ = some (.slice ca cu'.length cc) := by
              show (w2.alloc (.cells #[.int .i64 (ks'.length : Int)] 3)).cell? _ = _
              exact Lib.cell?_alloc_some _ m1
            obtain ⟨W2, hW2⟩ : ∃ W2, W1.setCell ⟨zb, 2, none⟩ (.slice a1 (cu'.length + 1) c1) = W2 := ⟨_, rfl⟩
            rw [hW2] at hv1 hb1
            obtain ⟨hps, hcs, hbs, hmn, hm2n, hc3⟩ := HNUM.out
            have hii := HI.out.2.1
            obtain ⟨bx, hbx⟩ : ∃ b, bs[i - 1]? = some b := ⟨bs[i - 1]'(by omega), List.getElem?_eq_getElem (by omega)⟩
            have hbg : bs.getD (i - 1) ByteArray.empty = bx := by rw [List.getD_eq_getElem?_getD, hbx]; rfl
            have hbl2 : Below B w W2 := hbl.trans hb1
            have kb : W2.drew.cell? ⟨bb, i - 1, none⟩ = some (.string bx) := hcellB.out W2 (i - 1) bx hbl2 hbx
            obtain ⟨a2, c2, W3, hap2, r1, r2, hv2, hb2⟩ := hv1.pushB (by omega) bx
            have m3 : W2.drew.cell? ⟨zb, 3, none⟩ = some (.slice ba bd'.length bc) := by show W2.cell? _ = _; simp [World.cell?, hv1.here]
            have m4 : (W2.alloc (.cells #[.string bx] 9)).drew.cell? ⟨zb, 3, none⟩ = some (.slice ba bd'.length bc) := by
              show (W2.alloc (.cells #[.string bx] 9)).cell? _ = _
              exact Lib.cell?_alloc_some _ m3
            have hwi : IntKind.wrap .i64 ((i : Int) - 1) = (i : Int) - 1 := by rw [IntKind.wrap_i64] <;> omega
            have htn : ((i : Int) - 1).toNat = i - 1 := by omega
            have hnn : (0 : Int) ≤ (i : Int) - 1 := by omega
            have hnl : (i : Int) - 1 < (n : Int) := by omega
            have hone : (1 : Int) ≤ (i : Int) := by omega
            have HE : Hid (VisE B (W3.setCell ⟨zb, 3, none⟩ (.slice a2 (bd'.length + 1) c2)) off zb ld' ks' (cu' ++ sp.map Prod.fst) (bd' ++ sp.map Prod.snd) ∧ Below B w (W3.setCell ⟨zb, 3, none⟩ (.slice a2 (bd'.length + 1) c2))) := by
              refine ⟨⟨ra, a1, a2, rc, c1, c2, ?_⟩, hbl2.trans hb2⟩
              rw [e, hbg]
              exact hv2
            have HA1 := hid hap1
            have HA2 := hid hap2
            have HW2 := hid hW2
            obtain ⟨L1, hL1⟩ : ∃ L, ks'.length = L := ⟨_, rfl⟩
            obtain ⟨L2, hL2⟩ : ∃ L, cu'.length = L := ⟨_, rfl⟩
            obtain ⟨L3, hL3⟩ : ∃ L, bd'.length = L := ⟨_, rfl⟩
            rw [hL1, hL2] at HA1 m2
            rw [hL1] at m0
            rw [hL2] at m1 q1 HW2
            rw [hL3] at HA2 m3 m4 r1 HE
            clear hi0 e hv hbl hll hap1 hv1 hb1 hW2 hps hcs hbs hmn hm2n hc3 hii hbx hbg hbl2 hap2 hv2 hb2 hL1 hL2 hL3 HH
            go_wp2_with fail
            go_region_law (refine step_append_run rfl (.tmp 139) (.tmp 145) 25 25 rfl _ _ rfl rfl HA1.out ?_)
            all_goals rw [HW2.out]
            all_goals clear m0 m1 m2 q1 q2 HA1 HW2
            all_goals go_wp2_with fail
            all_goals go_region_law (refine step_append_run rfl (.tmp 153) (.tmp 159) 22 22 rfl _ _ rfl rfl HA2.out ?_)
            all_goals go_wp2_with fail
            all_goals go_meet
            all_goals exact HE.out
        case rest =>
          rename World => w4
          obtain ⟨hc4v, hc4b⟩ := hcut.out
          have hqq := hcellC.out w4 i q hc4b HI.out.2.2.2
          have hll := HL.out
          have H11 := HH.out i q c w4 ld' ks' (cu' ++ sp.map Prod.fst) (bd' ++ sp.map Prod.snd) HI.out.2.2.2 HI.out.2.2.1 hc4b hc4v hll.1 hll.2.2.2 (by simp; omega) (by simp; omega)
          have hg : (last && (i + 1 == m)) = (last && ((i : Int) == (m : Int) - 1)) := by
            congr 1
            by_cases e : i + 1 = m
            · have e' : (i : Int) = (m : Int) - 1 := by omega
              simp [e, e']
            · have e' : ¬ (i : Int) = (m : Int) - 1 := by omega
              rw [beq_eq_false_iff_ne.2 e, beq_eq_false_iff_ne.2 e']
          rw [hg] at H11
          have HB4 := hid hc4b
          have HC11 := hid H11
          clear hc4v hc4b hll hcut H11 hg HW HQ HH
          cases last with
          | true =>
            rw [Bool.true_and] at HC11
            go_wp2_with fail
            refine (Hid.out HC11).mono ?_
            rintro e w5 ⟨rfl, hv5, hb5⟩
            have HE : Hid (VisE B w5 off zb LD (ks ++ Bt.kup ky cs (i + 1)) (cuts ++ (Bt.mup ByteArray.empty ky mk cs bs ks.length (i + 1)).map Prod.fst) (bds ++ (Bt.mup ByteArray.empty ky mk cs bs ks.length (i + 1)).map Prod.snd) ∧ Below B w w5) := by
              obtain ⟨h1, h2, h3⟩ := HM.out
              refine ⟨?_, HB4.out.trans hb5⟩
              rw [← h1, ← h2 _ rfl, ← h3 _ rfl]; exact hv5
            clear hv5 hb5 HC11 hqq
            go_wp2_with fail
            go_roundg (m - (i + 1))
            case measure => have := HI.out; omega
            case rel => exact ⟨i + 1, by simp, HI.out.2.1, rfl, LD, Or.inr rfl, fun _ => rfl, HE.out⟩
          | false =>
            rw [Bool.false_and] at HC11
            go_wp2_with fail
            refine (Hid.out HC11).mono ?_
            rintro e w5 ⟨rfl, hv5, hb5⟩
            have HE : Hid (VisE B w5 off zb LD (ks ++ Bt.kup ky cs (i + 1)) (cuts ++ (Bt.mup ByteArray.empty ky mk cs bs ks.length (i + 1)).map Prod.fst) (bds ++ (Bt.mup ByteArray.empty ky mk cs bs ks.length (i + 1)).map Prod.snd) ∧ Below B w w5) := by
              obtain ⟨h1, h2, h3⟩ := HM.out
              refine ⟨?_, HB4.out.trans hb5⟩
              rw [← h1, ← h2 _ rfl, ← h3 _ rfl]; exact hv5
            clear hv5 hb5 HC11 hqq
            go_wp2_with fail
            go_roundg (m - (i + 1))
            case measure => have := HI.out; omega
            case rel => exact ⟨i + 1, by simp, HI.out.2.1, rfl, LD, Or.inr rfl, fun _ => rfl, HE.out⟩
      · obtain rfl : m = i := by omega
        have HE : Hid (VisE B w2 off zb LD (ks ++ (cs.map ky).flatten) (cuts ++ (Bt.mup ByteArray.empty ky mk cs bs ks.length m).map Prod.fst) (bds ++ (Bt.mup ByteArray.empty ky mk cs bs ks.length m).map Prod.snd) ∧ Below B w w2) := by
          refine ⟨?_, hbl⟩
          rw [hl2 (by omega), ← hcs, Bt.kup_all, hcs] at hv
          exact hv
        clear hv hbl hgk hl1 hl2 hps hcs hbs hmn hm2n hc3 hlt hin HH
        go_wp2_with fail
        refine bodyPost_end (results_none rfl _ _ _) rfl ?_
        exact ⟨rfl, HE.out⟩
end Go.Proofs.Qxb6613201a
