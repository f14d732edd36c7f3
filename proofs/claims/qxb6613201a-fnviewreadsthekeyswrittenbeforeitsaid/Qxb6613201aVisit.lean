/- 'zzVisit' at a leaf. -/
import Derived.Test.Qxb6613201aVis
import Derived.Deep.Cut
set_option linter.unusedVariables false
set_option linter.unusedSimpArgs false
namespace Go.Proofs.Qxb6613201a
open Go.RowKit

def VisE (B : Nat) (w : World) (off : Nat → Nat) (zb : Nat) (ld : Int) (ks cuts : List Nat) (bds : List ByteArray) : Prop := ∃ ra ca ba rc cc bc, Vis B w off zb ra ca ba rc cc bc ld ks cuts bds
theorem VisE.low {B : Nat} {w : World} {off : Nat → Nat} {zb : Nat} {ld : Int} {ks cuts : List Nat} {bds : List ByteArray} (h : VisE B w off zb ld ks cuts bds) : B ≤ w.heap.size := by
  obtain ⟨ra, ca, ba, rc, cc, bc, h⟩ := h
  exact Nat.le_of_lt (Nat.lt_of_le_of_lt h.low (lt_of_block h.here))
theorem VisE.keep {B : Nat} {w w' : World} {off : Nat → Nat} {zb : Nat} {ld : Int} {ks cuts : List Nat} {bds : List ByteArray} (h : VisE B w off zb ld ks cuts bds) (hx : Ext [] w w') : VisE B w' off zb ld ks cuts bds := by
  obtain ⟨ra, ca, ba, rc, cc, bc, h⟩ := h
  exact ⟨ra, ca, ba, rc, cc, bc, h.keep hx⟩
theorem below_drop {B : Nat} {w w' : World} (h : Ext [] w w') (hB : B ≤ w.heap.size) : Below B w w' := h.belowB hB (by simp)

set_option maxHeartbeats 8000000 in
set_option maxRecDepth 100000 in
theorem visit_leaf (B zb p rb dep : Nat) (off : Nat → Nat) (K : Nat → ByteArray) (root last : Bool) (ld : Int) (ks cuts t : List Nat) (bds : List ByteArray) (w : World) (hV : VisE B w off zb ld ks cuts bds)
    (hN : NodeAt w p (.slice (some ⟨rb, 0, none⟩) t.length 256) (.slice none 0 0) (.slice none 0 0)) (ho : w.ownsRow 0 42 2 (.slice (some ⟨rb, 0, none⟩) t.length 256) t.length (refCells off t)) (hp : p < B) (hr : rb < B) (hwf : Bt.LeafOk klt K root last t)
    (hdep : dep ≤ 64) (hld : ld = -1 ∨ ld = dep) (hcount : ks.length + t.length ≤ 131072) :
    Calls Try.prog 11 #[.pointer (some ⟨p, 0, none⟩), .int .i64 dep, .bool root, .bool last, .pointer (some ⟨zb, 0, none⟩)] w fun e w' => e = .returned (.tuple #[]) ∧ VisE B w' off zb dep (ks ++ t) cuts bds ∧ Below B w w' := by
  have hc1 := hN.c1
  have hc2 := hN.c2
  have hc3 := hN.c3
  obtain ⟨n, hn⟩ : ∃ n, t.length = n := ⟨_, rfl⟩
  rw [hn] at hc1
  have hn256 : (n : Int) ≤ 256 := by have : List.length (α := Nat) t ≤ 256 := hwf.2.1; omega
  have hdep' : (dep : Int) ≤ 64 := by omega
  have hcell : Hid (∀ (wr : World) (j x : Nat), Below B w wr → t[j]? = some x → wr.cell? ⟨rb, j * 2, none⟩ = some (.int .u32 1) ∧ wr.cell? ⟨rb, j * 2 + 1, none⟩ = some (.int .u32 (off x))) := fun wr j x hb hx =>
    ⟨(hb.cell (p := ⟨rb, j * 2, none⟩) hr).trans (owns_cell ho (refCells_get off t j x hx).1), (hb.cell (p := ⟨rb, j * 2 + 1, none⟩) hr).trans (owns_cell ho (refCells_get off t j x hx).2)⟩
  have hguard : root = false → last = false → ((n : Int) < 64) = False := fun h1 h2 => by
    have : 64 ≤ List.length (α := Nat) t := hwf.2.2.2 h1 h2
    simp; omega
  have HG := hid hguard
  have HV := hid hV
  have HN := hid hn
  have HCO := hid hcount
  have hq := fun a n c => Lib.run_eql_slice_nil (P := Try.prog) w 64 36 a n c 0 0 Try.underlying64
  have HLD := hid hld
  clear hV hN ho hp hr hwf hcount hn hld hguard hdep
  go_enter Try.func11, Try.ntmps11
  go_upto_region 7 with (first | (go_at_call 28; refine (children28 _ _ _ hc2).mono ?_; rintro e w' ⟨rfl, hw⟩; obtain rfl := hw.symm) | (go_at_call 29; refine (refs29 _ _ _ hc1).mono ?_; rintro e w' ⟨rfl, hw⟩; obtain rfl := hw.symm))
  go_cut [46] from 15 (fun a wx => a = .bool false ∧ wx = w)
  case first =>
    cases root <;> cases last
    · have hgg := HG.out rfl rfl
      go_wp2_with fail
      go_meet
      case rel => exact ⟨rfl, rfl⟩
    all_goals
      go_wp2_with fail
      go_meet
      case rel => exact ⟨rfl, rfl⟩
  case rest =>
    obtain ⟨ha, hb⟩ := hcut
    obtain rfl := hb.symm
    subst ha
    clear hc1 hc2 hc3 hq
    obtain ⟨ra, ca, ba, rc, cc, bc, hv⟩ := HV.out
    have n1 : w.cell? ⟨zb, 1, none⟩ = some (.int .i64 ld) := by simp [World.cell?, hv.here]
    have e1 : w.frozen? ⟨zb, 1, none⟩ = false := by simp [World.frozen?, hv.here]
    have HS := hid (hv.setD dep)
    have HV2 := hid hv
    clear hv HV
    go_upto_if 54 with fail
    go_cut [] from 15 (fun wx => Hid (VisE B wx off zb dep ks cuts bds ∧ Below B w wx))
    case first =>
      rcases HLD.out with h | h
      · subst h
        go_wp2_with fail
        go_meet
        case rel => exact ⟨⟨_, _, _, _, _, _, HS.out.1⟩, HS.out.2⟩
      · subst h
        go_wp2_with fail
        go_meet
        case rel => exact ⟨⟨_, _, _, _, _, _, HV2.out⟩, Below.refl _ _⟩
    case rest =>
      rename World => w1
      clear n1 e1 HS HV2
      go_wp2_with fail
      go_loopw [12] (fun s12 wr => ∃ i : Nat, s12 = .int .i64 i ∧ i ≤ n ∧ Hid (VisE B wr off zb dep (ks ++ t.take i) cuts bds ∧ Below B w wr)) (fun s12 _ => n - (intOf s12).toNat)
      case atStart => exact ⟨0, rfl, Nat.zero_le _, (show VisE B w1 off zb dep (ks ++ t.take 0) cuts bds ∧ Below B w w1 by simpa using hcut.out)⟩
      case round =>
        obtain ⟨i, rfl, hin, hR⟩ := hrel
        rename World => w2
        clear hcut
        by_cases hlt : i < n
        · obtain ⟨x, hx⟩ : ∃ x, t[i]? = some x := ⟨t[i]'(by rw [HN.out]; exact hlt), List.getElem?_eq_getElem _⟩
          obtain ⟨c1, c2⟩ := hcell.out w2 i x hR.out.2 hx
          have hlt' : (i : Int) < (n : Int) := by omega
          have HX := hid (And.intro hx hlt)
          have H22 := hid (refChunk22 1 (off x : Int) w2)
          clear hx hlt hin
          go_wp2_with fail
          refine (Hid.out H22).mono ?_
          rintro e w3 ⟨rfl, hx3⟩
          have hB2 := hR.out.1.low
          have hb3 : Below B w w3 := hR.out.2.trans (below_drop hx3 hB2)
          obtain ⟨ra, ca, ba, rc, cc, bc, hv⟩ := hR.out.1.keep hx3
          obtain ⟨k1, k2⟩ := hcell.out w3 i x hb3 HX.out.1
          obtain ⟨a', c', W', hap, q1, q2, hv', hb'⟩ := hv.pushR (by rw [List.length_append, List.length_take, HN.out]; have := HCO.out; rw [HN.out] at this; omega) x
          have m1 : w3.drew.cell? ⟨zb, 0, none⟩ = some (.slice ra (ks ++ t.take i).length rc) := by show w3.cell? _ = _; simp [World.cell?, hv.here]
          have hzl := lt_of_block hv.here
          have m2 : (w3.alloc (.cells #[.int .u32 1, .int .u32 (off x)] 42)).drew.cell? ⟨zb, 0, none⟩ = some (.slice ra (ks ++ t.take i).length rc) := by
            show (w3.alloc (.cells #[.int .u32 1, .int .u32 (off x)] 42)).cell? _ = _
            exact Lib.cell?_alloc_some _ m1
          have k1' : w3.drew.cell? ⟨rb, i * 2, none⟩ = some (.int .u32 1) := k1
          have k2' : w3.drew.cell? ⟨rb, i * 2 + 1, none⟩ = some (.int .u32 (off x)) := k2
          have HAP := hid hap
          obtain ⟨L, hL⟩ : ∃ L, (ks ++ t.take i).length = L := ⟨_, rfl⟩
          have HE : Hid (VisE B (W'.setCell ⟨zb, 0, none⟩ (.slice a' ((ks ++ t.take i).length + 1) c')) off zb dep (ks ++ t.take (i + 1)) cuts bds ∧ Below B w (W'.setCell ⟨zb, 0, none⟩ (.slice a' ((ks ++ t.take i).length + 1) c'))) := by
            refine ⟨⟨a', ca, ba, c', cc, bc, ?_⟩, hb3.trans hb'⟩
            have e1 : t.take (i + 1) = t.take i ++ [x] := by
              obtain ⟨h1, h2⟩ := List.getElem?_eq_some_iff.1 HX.out.1
              rw [List.take_succ_eq_append_getElem h1, h2]
            rw [e1, ← List.append_assoc]
            exact hv'
          rw [hL] at HAP q1 m1 m2 HE
          clear hap hv hv' hb' hL hb3 hx3 hB2 c1 c2 k1 k2 H22 hzl hR
          generalize off x = ox at *
          go_wp2_with fail
          go_region_law (refine step_append_run rfl (.tmp 87) (.tmp 92) 32 32 rfl _ _ rfl rfl HAP.out ?_)
          all_goals go_wp2_with fail
          all_goals go_roundw
          all_goals first
            | exact ⟨i + 1, by simp, HX.out.2, HE.out⟩
            | (simp [intOf]; have := HX.out.2; omega)
        · obtain rfl : n = i := by omega
          have HE : Hid (VisE B w2 off zb dep (ks ++ t) cuts bds ∧ Below B w w2) := by
            have := hR.out
            rw [← HN.out, List.take_length] at this
            exact this
          clear hR hin hlt
          go_wp2_with fail
          refine bodyPost_ret (results_none rfl _ _ _) rfl ?_
          exact ⟨rfl, HE.out⟩
end Go.Proofs.Qxb6613201a
