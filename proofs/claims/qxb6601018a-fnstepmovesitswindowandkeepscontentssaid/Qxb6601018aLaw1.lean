/-
  THE WALK of FnShiftBackLeavesTableAsIfNeverPut.
-/
import Derived.Test.Qxb6601018aNp
import Derived.Deep.RegionHeld3
set_option linter.unusedVariables false
namespace Go.Proofs.Qxb6601018a
open Go.RowKit

theorem bytes25 (a0 a1 : Option Addr) (l0 c0 l1 c1 d : Nat) (w : World) :
    Calls Try.prog 25 #[.slice a0 l0 c0, .slice a1 l1 c1, .int .u64 (d : Int)] w fun e w' => w' = w ∧ BoolR e := by
  go_enter Try.func25, Try.ntmps25
  go_wp2
  all_goals
    go_ret
    exact ⟨rfl, _, rfl⟩

theorem bel_cells {w w' : World} {B1 b0 o0 b1 o1 i : Nat} {v0 v1 : Value} {S : List Nat} (hF : Fr S w w') (hS : ∀ x, x ∈ S → B1 ≤ x) (hz : B1 ≤ w.heap.size) (hb0 : b0 < B1) (hb1 : b1 < B1)
    (hc0 : w.cell? ⟨b0, o0 + i, none⟩ = some v0) (hc1 : w.cell? ⟨b1, o1 + i, none⟩ = some v1) :
    w'.cell? ⟨b0, o0 + i, none⟩ = some v0 ∧ w'.cell? ⟨b1, o1 + i, none⟩ = some v1 := by
  have hb := hF.below hS hz
  exact ⟨(hb.cell hb0).trans hc0, (hb.cell hb1).trans hc1⟩

set_option maxRecDepth 100000 in
set_option maxHeartbeats 4000000 in
theorem np_walk (a0 a1 : Option Addr) (l0 c0 l1 c1 d : Nat) (hs locs : Nat → Nat) (w : World) (h0 : SlU w w.heap.size a0 l0 hs) (n0 : a0 = none → l0 = 0) (h1 : SlU w w.heap.size a1 l1 locs) (n1 : a1 = none → l1 = 0) :
    Calls Try.prog 4 #[.slice a0 l0 c0, .slice a1 l1 c1, .int .u64 (d : Int)] w fun e w' => e = .returned (.bool true) ∧ Below w.heap.size w w' := by
  have H0 : Hid (SlU w w.heap.size a0 l0 hs) := h0
  have H1 : Hid (SlU w w.heap.size a1 l1 locs) := h1
  have N0 : Hid (a0 = none → l0 = 0) := n0
  have N1 : Hid (a1 = none → l1 = 0) := n1
  clear h0 h1 n0 n1
  go_enter Try.func4, Try.ntmps4
  go_wp2_with fail
  refine (bytes25 _ _ _ _ _ _ _ _).mono ?_
  rintro e w' ⟨rfl, bb, rfl⟩
  cases bb with
  | false =>
    go_wp2
    go_ret
    exact ⟨rfl, Below.refl _ _⟩
  | true =>
  by_cases g0 : 4096 < l0
  · have g0' : (4096 : Int) < (l0 : Int) := by omega
    go_wp2
    go_ret
    exact ⟨rfl, Below.refl _ _⟩
  by_cases g1 : 4096 < l1
  · have g1' : (4096 : Int) < (l1 : Int) := by omega
    have g0' : ¬ (4096 : Int) < (l0 : Int) := by omega
    go_wp2
    go_ret
    exact ⟨rfl, Below.refl _ _⟩
  have g0' : (l0 : Int) ≤ 4096 := by omega
  have g1' : (l1 : Int) ≤ 4096 := by omega
  have gd0 : decide ((4096 : Int) < (l0 : Int)) = false := decide_eq_false (by omega)
  have gd1 : decide ((4096 : Int) < (l1 : Int)) = false := decide_eq_false (by omega)
  have gd2 : decide ((1048576 : Int) < 8 * (l0 : Int) + 8 * (l1 : Int)) = false := decide_eq_false (by omega)
  go_wp2_with fail
  refine (pairs_any _ _ _ _ _ _ _ (by omega) (by omega)).mono ?_
  rintro e w2 ⟨rfl, rfl⟩
  have hk0 : min l0 l1 ≤ l0 := Nat.min_le_left _ _
  have hk1 : min l0 l1 ≤ l1 := Nat.min_le_right _ _
  generalize min l0 l1 = k at *
  go_wp2_with fail
  refine (locsFit_any _ _ _ _ _ locs _ H1.out hk1 (by omega)).mono ?_
  rintro e w3 ⟨rfl, bb, rfl, hfit⟩
  cases bb with
  | false =>
    go_wp2
    go_ret
    exact ⟨rfl, Below.refl _ _⟩
  | true =>
  have HFit : Hid (∀ i, i < k → locs i < 18446744073709551614) := hfit rfl
  clear hfit
  go_wp2_with fail
  refine (clone64 _ _ _ hs _ H0.out N0.out (by omega)).mono ?_
  rintro e w4 ⟨hb4, a0', rfl, S0, M0⟩
  have H1' : Hid (SlU w4 w4.heap.size a1 l1 locs) := (H1.out.below hb4).mono hb4.size
  have S0' : Hid (SlU w4 w4.heap.size a0' l0 hs) := S0
  have B4 : Hid (Below w3.heap.size w3 w4) := hb4
  clear S0 H1 H0 N0 M0 hb4
  go_wp2_with fail
  refine (clone64 _ _ _ locs _ H1'.out N1.out (by omega)).mono ?_
  rintro e w5 ⟨hb5, a1', rfl, S1, M1⟩
  have S0 : Hid (SlU w5 w5.heap.size a0' l0 hs) := (S0'.out.below hb5).mono hb5.size
  have S1' : Hid (SlU w5 w5.heap.size a1' l1 locs) := S1
  have B5 : Hid (Below w3.heap.size w3 w5) := B4.out.trans (hb5.mono B4.out.size)
  clear S0' S1 H1' N1 M1 hb5 B4
  go_wp2_with fail
  refine (zzNewIndex 8192 (by decide) _).mono ?_
  rintro e w6 ⟨rfl, hb6, hs6, hI6⟩
  have B6 : Hid (Below w5.heap.size w5 w6) := hb6
  have I6 : Hid (IxAt w6 (w5.heap.size + 1) w5.heap.size 0 (newIx 8192)) := hI6
  clear hb6 hI6
  have HS6 : Hid (w6.heap.size = w5.heap.size + 2) := hs6
  clear hs6
  go_wp2_with fail
  refine (zzNewIndex 8192 (by decide) _).mono ?_
  rintro e w7 ⟨rfl, hb7, hs7, hI7⟩
  have B7 : Hid (Below w5.heap.size w5 w7) := B6.out.trans (hb7.mono B6.out.size)
  have hLs : L1 d (w5.heap.size + 1) w5.heap.size (w6.heap.size + 1) w6.heap.size 0 w7 := by
    refine ⟨emptyTab, emptyTab, 0, 0, I6.out.ext hb7, hI7, Nat.le_refl _, Nat.le_refl _, ⟨⟨fun q c _ _ h => absurd rfl h, fun q r _ _ h => absurd rfl h⟩, fun q _ => rfl, fun q _ => rfl⟩, fun q => by show (0 : Nat) ≠ gone; decide, ?_, ?_, .inl ⟨fun q _ h => absurd rfl h, rfl⟩⟩
    all_goals rw [cnt_zero (p := occB emptyTab) (fun i _ => rfl)]; exact Nat.le_refl _
  have HLs : Hid (L1 d (w5.heap.size + 1) w5.heap.size (w6.heap.size + 1) w6.heap.size 0 w7) := hLs
  have hne : (w6.heap.size + 1 ≠ w5.heap.size + 1 ∧ w6.heap.size + 1 ≠ w5.heap.size ∧ w6.heap.size ≠ w5.heap.size + 1 ∧ w6.heap.size ≠ w5.heap.size) := by rw [HS6.out]; omega
  have hne2 : (w5.heap.size + 1 ≠ w6.heap.size + 1 ∧ w5.heap.size + 1 ≠ w6.heap.size ∧ w5.heap.size ≠ w6.heap.size + 1 ∧ w5.heap.size ≠ w6.heap.size) := by rw [HS6.out]; omega
  have HB7 : Hid (w5.heap.size ≤ w7.heap.size) := B7.out.size
  have hge1 : w5.heap.size ≤ w6.heap.size := B6.out.size
  clear hLs hb7 hs7 hI7 B6 I6 HS6
  generalize hB : w5.heap.size = B1 at *
  generalize w6.heap.size = B2 at *
  have HNE : Hid (B2 + 1 ≠ B1 + 1 ∧ B2 + 1 ≠ B1 ∧ B2 ≠ B1 + 1 ∧ B2 ≠ B1) := hne
  have HNE2 : Hid (B1 + 1 ≠ B2 + 1 ∧ B1 + 1 ≠ B2 ∧ B1 ≠ B2 + 1 ∧ B1 ≠ B2) := hne2
  clear hne hne2
  have HEB : Hid (w5.heap.size = B1) := hB
  clear hB
  go_wp2_with fail
  go_loopw [10] (fun v wr => ∃ i : Nat, i ≤ k ∧ v = .int .i64 i ∧ Hid (L1 d (B1 + 1) B1 (B2 + 1) B2 i wr) ∧ Hid (Below B1 w5 wr)) (fun v _ => k - (intOf v).toNat)
  case atStart => exact ⟨0, Nat.zero_le _, rfl, HLs, B7⟩
  case round =>
    obtain ⟨i, hi, rfl, hL, hB⟩ := hrel
    clear HLs B7 HB7
    by_cases hlt : i < k
    · obtain ⟨b0, o0, rfl, hb0, hc0⟩ := (S0.out.below hB.out) i (by omega)
      obtain ⟨b1, o1, rfl, hb1, hc1⟩ := (S1'.out.below hB.out) i (by omega)
      have hfit := HFit.out i hlt
      have HF : Hid (locs i < 18446744073709551614) := hfit
      clear hfit
      have HL2 : Hid (L1 d (B1 + 1) B1 (B2 + 1) B2 i wr.drew) := hL.out.ext (Below.refl _ _).drew
      have HB2 : Hid (Below B1 w5 wr.drew) := hB.out.drew
      clear hL hB
      have hi4 : i < 4096 := by omega
      have hil0 : (i : Int) < (l0 : Int) := by omega
      have hil1 : (i : Int) < (l1 : Int) := by omega
      have HSS : Hid (∀ x, x ∈ [B1 + 1, B1] → B1 ≤ x) := fun x hx => by simp at hx; omega
      have HZ : Hid (B1 ≤ wr.drew.heap.size) := by have := HB2.out.size; rw [HEB.out] at this; exact this
      go_wp2_with fail
      go_region_held3 (fun w' => w'.cell? ⟨b0, o0 + i, none⟩ = some (.int .u64 (hs i : Int)) ∧ w'.cell? ⟨b1, o1 + i, none⟩ = some (.int .u64 (locs i : Int))) (go_keep)
        ((go_at_call 17; refine (l1_putA HL2.out hi4 HF.out HNE.out).mono ?_; rintro e w' ⟨rfl, hFr, hM⟩; have kc := bel_cells hFr HSS.out HZ.out hb0 hb1 hc0 hc1))
      obtain ⟨kc0, kc1⟩ := kc
      have HM : Hid (L1M d (B1 + 1) B1 (B2 + 1) B2 i (hs i) (locs i) w') := hM
      have HB3 : Hid (Below B1 w5 w') := HB2.out.trans (hFr.below HSS.out HZ.out)
      have HZ3 : Hid (B1 ≤ w'.heap.size) := by have := HB3.out.size; rw [HEB.out] at this; exact this
      clear hM hFr hc0 hc1 HL2 HB2 HSS HZ
      by_cases hd : hs i = d
      · have hdn : (((hs i : Nat) : Int) != (d : Int)) = false := by rw [hd]; simp
        have HE : Hid (L1 d (B1 + 1) B1 (B2 + 1) B2 (i + 1) w') := l1_skip (hd ▸ HM.out) hi4
        clear hd HM
        go_wp2
        go_roundw
        case rel => exact ⟨i + 1, by omega, by go_num, HE, HB3⟩
        case measure => simp [intOf]; omega
      · have hdn : (((hs i : Nat) : Int) != (d : Int)) = true := by rw [bne_iff_ne]; omega
        have HM2 : Hid (L1M d (B1 + 1) B1 (B2 + 1) B2 i (hs i) (locs i) w'.drew) := HM.out.ext (Below.refl _ _).drew
        have HD : Hid (hs i ≠ d) := hd
        have HSS : Hid (∀ x, x ∈ [B2 + 1, B2] → B1 ≤ x) := fun x hx => by simp at hx; omega
        have HZ : Hid (B1 ≤ w'.drew.heap.size) := HZ3
        clear hd HM
        go_wp2_with fail
        go_region_held3 (fun w' => w'.cell? ⟨b0, o0 + i, none⟩ = some (.int .u64 (hs i : Int)) ∧ w'.cell? ⟨b1, o1 + i, none⟩ = some (.int .u64 (locs i : Int))) (go_keep)
          ((go_at_call 17; refine (l1_putB HM2.out hi4 HD.out HNE2.out).mono ?_; rintro e w2 ⟨rfl, hFr, hM⟩; have kc := bel_cells hFr HSS.out HZ.out hb0 hb1 kc0 kc1))
        have HE : Hid (L1 d (B1 + 1) B1 (B2 + 1) B2 (i + 1) w2) := hM
        have HB4 : Hid (Below B1 w5 w2) := HB3.out.trans ((Below.refl _ _).drew.trans (hFr.below HSS.out HZ.out))
        clear hM hFr kc
        go_wp2
        go_roundw
        case rel => exact ⟨i + 1, by omega, by go_num, HE, HB4⟩
        case measure => simp [intOf]; omega
    · have hik : i = k := by omega
      subst hik
      clear HFit S0 S1'
      go_wp2_with fail
      refine (l1_find hL.out (by omega) ⟨HNE.out.2.1, HNE.out.2.2.2⟩).mono ?_
      rintro e w8 ⟨hb8, hF8⟩
      have B8 : Hid (Below B1 w5 w8) := hB.out.trans (hb8.mono (by have := hB.out.size; rw [HEB.out] at this; exact this))
      clear hb8 hL
      clear hB
      have HF8 : Hid (L1F d (B1 + 1) B1 (B2 + 1) B2 e w8) := hF8
      clear hF8
      rcases HF8.out with ⟨rfl, hE⟩ | ⟨r, rfl, hC⟩
      · have HE : Hid (L1E (B1 + 1) B1 (B2 + 1) B2 w8) := hE
        clear hE HF8
        generalize w8 = w9 at *
        go_wp2_with fail
        obtain ⟨T, nA, nB, hIA, hIB⟩ := HE.out
        have HIA : Hid (IxAt w9 (B1 + 1) B1 0 (fixIx nA T)) := hIA
        have HIB : Hid (IxAt w9 (B2 + 1) B2 0 (fixIx nB T)) := hIB
        clear hIA hIB HE
        refine (fix_hasOld HIA.out).mono ?_
        rintro e wa ⟨rfl, rfl⟩
        go_wp2_with fail
        refine (fix_hasOld HIB.out).mono ?_
        rintro e wb ⟨rfl, rfl⟩
        go_wp2_with fail
        refine (fix_len HIA.out).mono ?_
        rintro e wa ⟨rfl, rfl⟩
        go_wp2_with fail
        refine (fix_len HIB.out).mono ?_
        rintro e wb ⟨rfl, rfl⟩
        go_wp2_with fail
        go_loopw [13] (fun v wr => ∃ p : Nat, p ≤ 8192 ∧ v = .int .i64 p ∧ Hid (Below wb.heap.size wb wr)) (fun v _ => 8192 - (intOf v).toNat)
        case atStart => exact ⟨0, Nat.zero_le _, rfl, Below.refl _ _⟩
        case round =>
          obtain ⟨p, hp, rfl, hBr⟩ := hrel
          by_cases hlt : p < 8192
          · have hI1 := HIA.out.ext hBr.out
            have HI1 : Hid (IxAt wr (B1 + 1) B1 0 (fixIx nA T)) := hI1
            clear hI1
            go_wp2_with fail
            refine (fix_placeAt HI1.out p hlt).mono ?_
            rintro e wc ⟨rfl, hbc⟩
            have HBc : Hid (Below wb.heap.size wb wc) := hBr.out.trans (hbc.mono hBr.out.size)
            have HI2 : Hid (IxAt wc (B2 + 1) B2 0 (fixIx nB T)) := HIB.out.ext HBc.out
            clear hbc
            go_wp2_with fail
            refine (fix_placeAt HI2.out p hlt).mono ?_
            rintro e wd ⟨rfl, hbd⟩
            have HBd : Hid (Below wb.heap.size wb wd) := HBc.out.trans (hbd.mono HBc.out.size)
            clear hbd
            go_wp2
            go_roundw
            case rel => exact ⟨p + 1, by omega, by go_num, HBd⟩
            case measure => simp [intOf]; omega
          · go_wp2
            go_ret
            exact ⟨rfl, (B5.out.trans ((B8.out.mono (by have := B5.out.size; rw [HEB.out] at this; exact this)))).trans (hBr.out.mono (by have h1 := B5.out.size; have h2 := B8.out.size; omega))⟩
      · have HC : Hid (∀ w', Below w8.heap.size w8 w' → Calls Try.prog 16 #[.pointer (some ⟨B1 + 1, 0, none⟩), .int .i64 (r : Int)] w' fun e w'' => e = .returned (.tuple #[]) ∧ Fr [B1] w' w'' ∧ L1E (B1 + 1) B1 (B2 + 1) B2 w'') := hC
        clear hC HF8
        go_wp2_with fail
        refine (HC.out _ (Below.refl _ _)).mono ?_
        rintro e w9 ⟨rfl, hFr, hE⟩
        have HE : Hid (L1E (B1 + 1) B1 (B2 + 1) B2 w9) := hE
        have B9 : Hid (Below B1 w5 w9) := B8.out.trans (hFr.below (fun x hx => by simp at hx; omega) (by have := B8.out.size; rw [HEB.out] at this; exact this))
        clear hE hFr HC B8
        have B8 := B9
        clear B9
        go_wp2_with fail
        obtain ⟨T, nA, nB, hIA, hIB⟩ := HE.out
        have HIA : Hid (IxAt w9 (B1 + 1) B1 0 (fixIx nA T)) := hIA
        have HIB : Hid (IxAt w9 (B2 + 1) B2 0 (fixIx nB T)) := hIB
        clear hIA hIB HE
        refine (fix_hasOld HIA.out).mono ?_
        rintro e wa ⟨rfl, rfl⟩
        go_wp2_with fail
        refine (fix_hasOld HIB.out).mono ?_
        rintro e wb ⟨rfl, rfl⟩
        go_wp2_with fail
        refine (fix_len HIA.out).mono ?_
        rintro e wa ⟨rfl, rfl⟩
        go_wp2_with fail
        refine (fix_len HIB.out).mono ?_
        rintro e wb ⟨rfl, rfl⟩
        go_wp2_with fail
        go_loopw [13] (fun v wr => ∃ p : Nat, p ≤ 8192 ∧ v = .int .i64 p ∧ Hid (Below wb.heap.size wb wr)) (fun v _ => 8192 - (intOf v).toNat)
        case atStart => exact ⟨0, Nat.zero_le _, rfl, Below.refl _ _⟩
        case round =>
          obtain ⟨p, hp, rfl, hBr⟩ := hrel
          by_cases hlt : p < 8192
          · have hI1 := HIA.out.ext hBr.out
            have HI1 : Hid (IxAt wr (B1 + 1) B1 0 (fixIx nA T)) := hI1
            clear hI1
            go_wp2_with fail
            refine (fix_placeAt HI1.out p hlt).mono ?_
            rintro e wc ⟨rfl, hbc⟩
            have HBc : Hid (Below wb.heap.size wb wc) := hBr.out.trans (hbc.mono hBr.out.size)
            have HI2 : Hid (IxAt wc (B2 + 1) B2 0 (fixIx nB T)) := HIB.out.ext HBc.out
            clear hbc
            go_wp2_with fail
            refine (fix_placeAt HI2.out p hlt).mono ?_
            rintro e wd ⟨rfl, hbd⟩
            have HBd : Hid (Below wb.heap.size wb wd) := HBc.out.trans (hbd.mono HBc.out.size)
            clear hbd
            go_wp2
            go_roundw
            case rel => exact ⟨p + 1, by omega, by go_num, HBd⟩
            case measure => simp [intOf]; omega
          · go_wp2
            go_ret
            exact ⟨rfl, (B5.out.trans ((B8.out.mono (by have := B5.out.size; rw [HEB.out] at this; exact this)))).trans (hBr.out.mono (by have h1 := B5.out.size; have h2 := B8.out.size; omega))⟩

end Go.Proofs.Qxb6601018a
