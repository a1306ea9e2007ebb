/-
  THE WALK of FnStepFinishesMigrationWithinBound.
-/
import Derived.Test.Qxb6601018aSt
set_option linter.unusedVariables false
namespace Go.Proofs.Qxb6601018a
open Go.RowKit

theorem bytes39 (a0 a1 : Option Addr) (l0 c0 l1 c1 : Nat) (w : World) :
    Calls Try.prog 39 #[.slice a0 l0 c0, .slice a1 l1 c1] w fun e w' => w' = w ∧ BoolR e := by
  go_enter Try.func39, Try.ntmps39
  go_wp2
  all_goals
    go_ret
    exact ⟨rfl, _, rfl⟩

/-- behind c extra calls of step; P: the bound -/
def S5 (hs locs : Nat → Nat) (B b k P c : Nat) (w : World) : Prop :=
  ∃ x, GO hs locs B b k x w ∧ (x.om = 0 ∨ (x.om - x.nx) / 32 + cnt (liveB x.O) x.om / 4 + c ≤ P)

theorem GO.step {hs locs : Nat → Nat} {B b k : Nat} {x : Ix} {w : World} (h : GO hs locs B b k x w) :
    Calls Try.prog 40 #[.pointer (some ⟨b, 0, none⟩)] w fun e w' => e = .returned (.tuple #[]) ∧ Below B w w' ∧ ∃ x', StepAny x x' (lastM hs locs noDel k) (cnt (firstB hs) k) ∧ GO hs locs B b k x' w' := by
  obtain ⟨pb, ob, h1, h2, h3, hI⟩ := h.ix
  refine zzStep_of (R := fun w' => Below B w w' ∧ ∃ x', StepAny x x' (lastM hs locs noDel k) (cnt (firstB hs) k) ∧ GO hs locs B b k x' w') ((step_any (B := B) hI h.core h1 h2 h3 (fun _ => h.load.room h.core (by omega))).mono ?_)
  rintro e w' ⟨rfl, hb, x', hS, hI'⟩
  refine ⟨rfl, hb, x', hS, ⟨pb, ob, h1, h2, fun h0 => h3 (hS.om h0), hI'⟩, hS.core h.core, ?_⟩
  rcases hS with ⟨h0, rfl⟩ | ⟨h0, hP⟩
  · exact h.load
  · exact hP.load h.core h0 h.load (by omega)

theorem s5_step {hs locs : Nat → Nat} {B b k P c : Nat} {w : World} (h : S5 hs locs B b k P c w) :
    Calls Try.prog 40 #[.pointer (some ⟨b, 0, none⟩)] w fun e w' => e = .returned (.tuple #[]) ∧ Below B w w' ∧ S5 hs locs B b k P (c + 1) w' := by
  obtain ⟨x, hG, hP⟩ := h
  refine hG.step.mono ?_
  rintro e w' ⟨rfl, hb, x', hS, hG'⟩
  refine ⟨rfl, hb, x', hG', ?_⟩
  rcases hS with ⟨h0, rfl⟩ | ⟨h0, hSP⟩
  · exact .inl h0
  · rcases hSP.less hG.core h0 with e | ⟨_, hl⟩
    · exact .inl e
    · right
      rcases hP with e | e
      · exact absurd e h0
      · omega

theorem s5_end {hs locs : Nat → Nat} {B b k P : Nat} {w : World} (h : S5 hs locs B b k P (P + 1) w) : ∃ x, GO hs locs B b k x w ∧ x.om = 0 := by
  obtain ⟨x, hG, hP⟩ := h
  refine ⟨x, hG, ?_⟩
  rcases hP with e | e
  · exact e
  · omega

set_option maxRecDepth 100000 in
set_option maxHeartbeats 4000000 in
theorem fin_walk (a0 a1 : Option Addr) (l0 c0 l1 c1 : Nat) (hs locs : Nat → Nat) (w : World) (h0 : SlU w w.heap.size a0 l0 hs) (n0 : a0 = none → l0 = 0) (h1 : SlU w w.heap.size a1 l1 locs) (n1 : a1 = none → l1 = 0) :
    Calls Try.prog 8 #[.slice a0 l0 c0, .slice a1 l1 c1] w fun e w' => e = .returned (.bool true) ∧ Below w.heap.size w w' := by
  have H0 : Hid (SlU w w.heap.size a0 l0 hs) := h0
  have H1 : Hid (SlU w w.heap.size a1 l1 locs) := h1
  have N0 : Hid (a0 = none → l0 = 0) := n0
  have N1 : Hid (a1 = none → l1 = 0) := n1
  clear h0 h1 n0 n1
  go_enter Try.func8, Try.ntmps8
  go_wp2_with fail
  refine (bytes39 _ _ _ _ _ _ _).mono ?_
  rintro e w' ⟨rfl, bb, rfl⟩
  cases bb with
  | false =>
    go_wp2
    go_ret
    exact ⟨rfl, Below.refl _ _⟩
  | true =>
  by_cases g0 : 4096 < l0
  · have g0' : (4096 : Int) < (l0 : Int) := by omega
    go_wp2
    go_ret
    exact ⟨rfl, Below.refl _ _⟩
  by_cases g1 : 4096 < l1
  · have g1' : (4096 : Int) < (l1 : Int) := by omega
    have g0' : ¬ (4096 : Int) < (l0 : Int) := by omega
    go_wp2
    go_ret
    exact ⟨rfl, Below.refl _ _⟩
  have g0' : (l0 : Int) ≤ 4096 := by omega
  have g1' : (l1 : Int) ≤ 4096 := by omega
  have gd0 : decide ((4096 : Int) < (l0 : Int)) = false := decide_eq_false (by omega)
  have gd1 : decide ((4096 : Int) < (l1 : Int)) = false := decide_eq_false (by omega)
  have gd2 : decide ((1048576 : Int) < 8 * (l0 : Int) + 8 * (l1 : Int)) = false := decide_eq_false (by omega)
  go_wp2_with fail
  refine (pairs_any _ _ _ _ _ _ _ (by omega) (by omega)).mono ?_
  rintro e w2 ⟨rfl, rfl⟩
  have hk0 : min l0 l1 ≤ l0 := Nat.min_le_left _ _
  have hk1 : min l0 l1 ≤ l1 := Nat.min_le_right _ _
  generalize min l0 l1 = k at *
  go_wp2_with fail
  refine (locsFit_any _ _ _ _ _ locs _ H1.out hk1 (by omega)).mono ?_
  rintro e w3 ⟨rfl, bb, rfl, hfit⟩
  cases bb with
  | false =>
    go_wp2
    go_ret
    exact ⟨rfl, Below.refl _ _⟩
  | true =>
  have HFit : Hid (∀ i, i < k → locs i < 18446744073709551614) := hfit rfl
  clear hfit
  go_wp2_with fail
  refine (clone64 _ _ _ hs _ H0.out N0.out (by omega)).mono ?_
  rintro e w4 ⟨hb4, a0', rfl, S0, M0⟩
  have H1' : Hid (SlU w4 w4.heap.size a1 l1 locs) := (H1.out.below hb4).mono hb4.size
  have S0' : Hid (SlU w4 w4.heap.size a0' l0 hs) := S0
  have B4 : Hid (Below w3.heap.size w3 w4) := hb4
  clear S0 H1 H0 N0 M0 hb4
  go_wp2_with fail
  refine (clone64 _ _ _ locs _ H1'.out N1.out (by omega)).mono ?_
  rintro e w6 ⟨hb5, a1', rfl, S1, M1⟩
  have T0 : Hid (SlU w6 w6.heap.size a0' l0 hs) := (S0'.out.below hb5).mono hb5.size
  have T1 : Hid (SlU w6 w6.heap.size a1' l1 locs) := S1
  have B6 : Hid (Below w3.heap.size w3 w6) := B4.out.trans (hb5.mono B4.out.size)
  clear S0' S1 H1' N1 M1 hb5 B4
  go_wp2_with fail
  refine (zzNewIndex 8 (by decide) _).mono ?_
  rintro e w7 ⟨rfl, hb7, hs7, hI7⟩
  have B7 : Hid (Below w6.heap.size w6 w7) := hb7
  have HLs : Hid (G hs locs w6.heap.size (w6.heap.size + 1) 0 w7) := g_new hI7 (Nat.le_succ _) (Nat.le_refl _)
  clear hb7 hs7 hI7
  generalize hB : w6.heap.size = B1 at *
  have HEB : Hid (w6.heap.size = B1) := hB
  clear hB
  go_wp2_with fail
  go_loopw [7] (fun v wr => ∃ i : Nat, i ≤ k ∧ v = .int .i64 i ∧ Hid (G hs locs B1 (B1 + 1) i wr) ∧ Hid (Below B1 w6 wr)) (fun v _ => k - (intOf v).toNat)
  case atStart => exact ⟨0, Nat.zero_le _, rfl, HLs, B7⟩
  case round =>
    obtain ⟨i, hi, rfl, hL, hB⟩ := hrel
    clear HLs B7
    have HZ : Hid (B1 ≤ wr.heap.size) := by have := hB.out.size; rw [HEB.out] at this; exact this
    by_cases hlt : i < k
    · obtain ⟨b0, o0, rfl, hb0, hc0⟩ := (T0.out.below hB.out) i (by omega)
      obtain ⟨b1, o1, rfl, hb1, hc1⟩ := (T1.out.below hB.out) i (by omega)
      have hil0 : (i : Int) < (l0 : Int) := by omega
      have hil1 : (i : Int) < (l1 : Int) := by omega
      have hi4 : i < 4096 := by omega
      have HF : Hid (locs i < 18446744073709551614) := HFit.out i hlt
      have HL2 : Hid (G hs locs B1 (B1 + 1) i wr.drew) := hL.out.ext (Below.refl _ _).drew
      have HB2 : Hid (Below B1 w6 wr.drew) := hB.out.drew
      clear hL hB
      go_wp2_with fail
      go_region_held3 (fun w' => w'.cell? ⟨b0, o0 + i, none⟩ = some (.int .u64 (hs i : Int)) ∧ w'.cell? ⟨b1, o1 + i, none⟩ = some (.int .u64 (locs i : Int))) (go_keep)
        ((go_at_call 17; refine (g_put HL2.out hi4 HF.out).mono ?_; rintro e w' ⟨rfl, hFr, hM⟩; have kc0 := (hFr.cell (p := ⟨b0, o0 + i, none⟩) hb0).trans hc0; have kc1 := (hFr.cell (p := ⟨b1, o1 + i, none⟩) hb1).trans hc1))
      have HE : Hid (G hs locs B1 (B1 + 1) (i + 1) w') := hM
      have HB3 : Hid (Below B1 w6 w') := HB2.out.trans hFr
      clear hM hFr kc0 kc1
      go_wp2
      go_roundw
      case rel => exact ⟨i + 1, by omega, by go_num, HE, HB3⟩
      case measure => simp [intOf]; omega
    · have hik : i = k := by omega
      subst hik
      clear HFit
      obtain ⟨x, hGO⟩ := hL.out.open_
      have HG : Hid (GO hs locs B1 (B1 + 1) i x wr) := hGO
      clear hGO hL
      have U0 : Hid (SlU wr B1 a0' l0 hs) := T0.out.below hB.out
      have U1 : Hid (SlU wr B1 a1' l1 locs) := T1.out.below hB.out
      clear T0 T1
      have HW : Hid (Below w3.heap.size w3 wr) := B6.out.trans (hB.out.mono (by have := B6.out.size; rw [HEB.out] at this; exact this))
      have HB3s : Hid (w3.heap.size ≤ B1) := by have := B6.out.size; rw [HEB.out] at this; exact this
      clear hB B6 HEB
      obtain ⟨wq, hwq⟩ : ∃ wq, wq = wr := ⟨_, rfl⟩
      subst hwq
      go_wp2_with fail
      refine (go_hasOld HG.out).mono ?_
      rintro e w8 ⟨rfl, rfl⟩
      by_cases ho : x.om = 0
      · rw [hasOld_false ho]
        have HO : Hid (x.om = 0) := ho
        clear ho
        have HBq : Hid (Below B1 w8 w8) := Below.refl _ _
        obtain ⟨wz, hwz⟩ : ∃ wz, wz = w8 := ⟨_, rfl⟩
        have HBz : Hid (Below B1 w8 wz) := by rw [hwz]; exact Below.refl _ _
        have HGz : Hid (GO hs locs B1 (B1 + 1) i x wz) := by rw [hwz]; exact HG.out
        rw [← hwz]
        clear hwz HBq
        go_wp2_with fail
        have X0 : Hid (SlU wz B1 a0' l0 hs) := U0.out.below HBz.out
        have X1 : Hid (SlU wz B1 a1' l1 locs) := U1.out.below HBz.out
        have HZz : Hid (B1 ≤ wz.heap.size) := Nat.le_trans HZ.out HBz.out.size
        have HWz : Hid (Below w3.heap.size w3 wz) := HW.out.trans (HBz.out.mono HB3s.out)
        clear U0 U1 HZ HW HBz
        refine (go_hasOld HGz.out).mono ?_
        rintro e wy ⟨rfl, rfl⟩
        rw [hasOld_false HO.out]
        go_wp2_with fail
        refine (go_n HGz.out).mono ?_
        rintro e wy ⟨rfl, rfl⟩
        have hneq : x.n = cnt (firstB hs) i := HGz.out.core.nil HO.out
        go_wp2_with fail
        refine (distinct_any _ _ _ _ _ hs _ X0.out hk0 (by omega)).mono ?_
        rintro e wx ⟨rfl, hbx⟩
        have HBx : Hid (Below wy.heap.size wy wx) := hbx
        have HGx : Hid (GO hs locs B1 (B1 + 1) i x wx) := HGz.out.ext hbx
        have Y0 : Hid (SlU wx B1 a0' l0 hs) := X0.out.below (hbx.mono HZz.out)
        have Y1 : Hid (SlU wx B1 a1' l1 locs) := X1.out.below (hbx.mono HZz.out)
        have HZx : Hid (B1 ≤ wx.heap.size) := Nat.le_trans HZz.out hbx.size
        rw [← hneq]
        clear hbx hneq
        go_wp2_with fail
        refine (go_occ HGx.out).mono ?_
        rintro e wv ⟨rfl, hbv⟩
        have HBv : Hid (Below wy.heap.size wy wv) := HBx.out.trans (hbv.mono HBx.out.size)
        have HGv : Hid (GO hs locs B1 (B1 + 1) i x wv) := HGx.out.ext hbv
        have Z0 : Hid (SlU wv B1 a0' l0 hs) := Y0.out.below (hbv.mono HZx.out)
        have Z1 : Hid (SlU wv B1 a1' l1 locs) := Y1.out.below (hbv.mono HZx.out)
        have HZv : Hid (B1 ≤ wv.heap.size) := Nat.le_trans HZx.out hbv.size
        clear hbv
        go_wp2_with fail
        refine (go_n HGv.out).mono ?_
        rintro e wu ⟨rfl, rfl⟩
        go_wp2_with fail
        refine (contents_any HGv.out _ _ _ _ _ _ Z0.out Z1.out HZv.out hk0 hk1 (by omega) (by omega)).mono ?_
        rintro e wt ⟨rfl, hbt⟩
        have HBt : Hid (Below wy.heap.size wy wt) := HBv.out.trans (hbt.mono HBv.out.size)
        clear hbt
        go_wp2
        go_ret
        exact ⟨rfl, HWz.out.trans (HBt.out.mono HWz.out.size)⟩
      · rw [hasOld_true ho]
        have HO : Hid (x.om ≠ 0) := ho
        clear ho
        have hom := HG.out.core.om_le
        have hnx := (HG.out.core.old HO.out).nx
        have hlc : liveC x = cnt (liveB x.O) x.om := by simp [liveC, HO.out]
        have hlv := go_sum HG.out
        have hcc := HG.out.core.cle
        go_wp2_with fail
        refine (go_oldLen HG.out).mono ?_
        rintro e w9 ⟨rfl, rfl⟩
        go_wp2_with fail
        refine (go_next HG.out).mono ?_
        rintro e w10 ⟨rfl, rfl⟩
        have hlv4 : (liveC x : Int) ≤ 4096 := by omega
        clear hlv
        go_wp2_with fail
        refine (go_live HG.out).mono ?_
        rintro e w11 ⟨rfl, hb11⟩
        obtain ⟨P, hP⟩ : ∃ P : Nat, P = (x.om - x.nx) / 32 + liveC x / 4 := ⟨_, rfl⟩
        have hPI : ((x.om : Int) - (x.nx : Int)) / 32 + (liveC x : Int) / 4 + 1 = ((P : Nat) : Int) + 1 := by omega
        have HS : Hid (S5 hs locs B1 (B1 + 1) i P 0 w11) := ⟨x, HG.out.ext hb11, .inr (by rw [← hlc]; omega)⟩
        have HB11 : Hid (Below B1 w10 w11) := hb11.mono HZ.out
        have hP4 : P ≤ 4096 := by omega
        clear hlc hb11 hP
        go_wp2_with fail
        go_loopw [9] (fun v wx => ∃ c : Nat, c ≤ P + 1 ∧ v = .int .i64 c ∧ Hid (S5 hs locs B1 (B1 + 1) i P c wx) ∧ Hid (Below B1 w10 wx)) (fun v _ => P + 1 - (intOf v).toNat)
        case atStart => exact ⟨0, Nat.zero_le _, rfl, HS, HB11⟩
        case round =>
          obtain ⟨c, hc, rfl, hS, hBr⟩ := hrel
          clear HS HB11
          by_cases hcl : c < P + 1
          · go_wp2_with fail
            refine (s5_step hS.out).mono ?_
            rintro e w12 ⟨rfl, hb12, hS12⟩
            have HS12 : Hid (S5 hs locs B1 (B1 + 1) i P (c + 1) w12) := hS12
            have HB12 : Hid (Below B1 w10 w12) := hBr.out.trans hb12
            clear hb12 hS12
            go_wp2
            go_roundw
            case rel => exact ⟨c + 1, by omega, by go_num, HS12, HB12⟩
            case measure => simp [intOf]; omega
          · have hce : c = P + 1 := by omega
            subst hce
            obtain ⟨x2, hG2, ho2⟩ := s5_end hS.out
            clear hS hcl hPI hP4 hc HG HO hom hnx hlv4 hcc
            have HGz : Hid (GO hs locs B1 (B1 + 1) i x2 wr) := hG2
            have HO : Hid (x2.om = 0) := ho2
            have HBz : Hid (Below B1 w10 wr) := hBr
            clear hG2 ho2 hBr
            obtain ⟨x, hx⟩ : ∃ x, x = x2 := ⟨_, rfl⟩
            subst hx
            obtain ⟨wz, hwz⟩ : ∃ wz, wz = wr := ⟨_, rfl⟩
            subst hwz
            obtain ⟨w8, hw8⟩ : ∃ w8, w8 = w10 := ⟨_, rfl⟩
            subst hw8
            go_wp2_with fail
            have X0 : Hid (SlU wz B1 a0' l0 hs) := U0.out.below HBz.out
            have X1 : Hid (SlU wz B1 a1' l1 locs) := U1.out.below HBz.out
            have HZz : Hid (B1 ≤ wz.heap.size) := Nat.le_trans HZ.out HBz.out.size
            have HWz : Hid (Below w3.heap.size w3 wz) := HW.out.trans (HBz.out.mono HB3s.out)
            clear U0 U1 HZ HW HBz
            refine (go_hasOld HGz.out).mono ?_
            rintro e wy ⟨rfl, rfl⟩
            rw [hasOld_false HO.out]
            go_wp2_with fail
            refine (go_n HGz.out).mono ?_
            rintro e wy ⟨rfl, rfl⟩
            have hneq : x.n = cnt (firstB hs) i := HGz.out.core.nil HO.out
            go_wp2_with fail
            refine (distinct_any _ _ _ _ _ hs _ X0.out hk0 (by omega)).mono ?_
            rintro e wx ⟨rfl, hbx⟩
            have HBx : Hid (Below wy.heap.size wy wx) := hbx
            have HGx : Hid (GO hs locs B1 (B1 + 1) i x wx) := HGz.out.ext hbx
            have Y0 : Hid (SlU wx B1 a0' l0 hs) := X0.out.below (hbx.mono HZz.out)
            have Y1 : Hid (SlU wx B1 a1' l1 locs) := X1.out.below (hbx.mono HZz.out)
            have HZx : Hid (B1 ≤ wx.heap.size) := Nat.le_trans HZz.out hbx.size
            rw [← hneq]
            clear hbx hneq
            go_wp2_with fail
            refine (go_occ HGx.out).mono ?_
            rintro e wv ⟨rfl, hbv⟩
            have HBv : Hid (Below wy.heap.size wy wv) := HBx.out.trans (hbv.mono HBx.out.size)
            have HGv : Hid (GO hs locs B1 (B1 + 1) i x wv) := HGx.out.ext hbv
            have Z0 : Hid (SlU wv B1 a0' l0 hs) := Y0.out.below (hbv.mono HZx.out)
            have Z1 : Hid (SlU wv B1 a1' l1 locs) := Y1.out.below (hbv.mono HZx.out)
            have HZv : Hid (B1 ≤ wv.heap.size) := Nat.le_trans HZx.out hbv.size
            clear hbv
            go_wp2_with fail
            refine (go_n HGv.out).mono ?_
            rintro e wu ⟨rfl, rfl⟩
            go_wp2_with fail
            refine (contents_any HGv.out _ _ _ _ _ _ Z0.out Z1.out HZv.out hk0 hk1 (by omega) (by omega)).mono ?_
            rintro e wt ⟨rfl, hbt⟩
            have HBt : Hid (Below wy.heap.size wy wt) := HBv.out.trans (hbt.mono HBv.out.size)
            clear hbt
            go_wp2
            go_ret
            exact ⟨rfl, HWz.out.trans (HBt.out.mono HWz.out.size)⟩

end Go.Proofs.Qxb6601018a
