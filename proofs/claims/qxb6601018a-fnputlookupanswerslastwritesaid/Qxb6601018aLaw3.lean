/-
  THE WALK of FnPutLookupAnswersLastWrite.
-/
import Derived.Test.Qxb6601018aSt
set_option linter.unusedVariables false
namespace Go.Proofs.Qxb6601018a
open Go.RowKit

theorem bytes28 (a0 a1 a2 : Option Addr) (l0 c0 l1 c1 l2 c2 : Nat) (w : World) :
    Calls Try.prog 28 #[.slice a0 l0 c0, .slice a1 l1 c1, .slice a2 l2 c2] w fun e w' => w' = w ∧ BoolR e := by
  go_enter Try.func28, Try.ntmps28
  go_wp2
  all_goals
    go_ret
    exact ⟨rfl, _, rfl⟩

set_option maxRecDepth 100000 in
set_option maxHeartbeats 4000000 in
theorem look_walk (a0 a1 a2 : Option Addr) (l0 c0 l1 c1 l2 c2 : Nat) (hs locs prs : Nat → Nat) (w : World) (h0 : SlU w w.heap.size a0 l0 hs) (n0 : a0 = none → l0 = 0) (h1 : SlU w w.heap.size a1 l1 locs) (n1 : a1 = none → l1 = 0)
    (h2 : SlU w w.heap.size a2 l2 prs) (n2 : a2 = none → l2 = 0) :
    Calls Try.prog 5 #[.slice a0 l0 c0, .slice a1 l1 c1, .slice a2 l2 c2] w fun e w' => e = .returned (.bool true) ∧ Below w.heap.size w w' := by
  have H0 : Hid (SlU w w.heap.size a0 l0 hs) := h0
  have H1 : Hid (SlU w w.heap.size a1 l1 locs) := h1
  have H2 : Hid (SlU w w.heap.size a2 l2 prs) := h2
  have N0 : Hid (a0 = none → l0 = 0) := n0
  have N1 : Hid (a1 = none → l1 = 0) := n1
  have N2 : Hid (a2 = none → l2 = 0) := n2
  clear h0 h1 n0 n1 h2 n2
  go_enter Try.func5, Try.ntmps5
  go_wp2_with fail
  refine (bytes28 _ _ _ _ _ _ _ _ _ _).mono ?_
  rintro e w' ⟨rfl, bb, rfl⟩
  cases bb with
  | false =>
    go_wp2
    go_ret
    exact ⟨rfl, Below.refl _ _⟩
  | true =>
  by_cases g0 : 4096 < l0
  · have g0' : (4096 : Int) < (l0 : Int) := by omega
    go_wp2
    go_ret
    exact ⟨rfl, Below.refl _ _⟩
  by_cases g1 : 4096 < l1
  · have g1' : (4096 : Int) < (l1 : Int) := by omega
    have g0' : ¬ (4096 : Int) < (l0 : Int) := by omega
    go_wp2
    go_ret
    exact ⟨rfl, Below.refl _ _⟩
  by_cases g2 : 4096 < l2
  · have g2' : (4096 : Int) < (l2 : Int) := by omega
    have g0' : ¬ (4096 : Int) < (l0 : Int) := by omega
    have g1' : ¬ (4096 : Int) < (l1 : Int) := by omega
    go_wp2
    go_ret
    exact ⟨rfl, Below.refl _ _⟩
  have g0' : (l0 : Int) ≤ 4096 := by omega
  have g1' : (l1 : Int) ≤ 4096 := by omega
  have g2' : (l2 : Int) ≤ 4096 := by omega
  have gd0 : decide ((4096 : Int) < (l0 : Int)) = false := decide_eq_false (by omega)
  have gd1 : decide ((4096 : Int) < (l1 : Int)) = false := decide_eq_false (by omega)
  have gd2 : decide ((4096 : Int) < (l2 : Int)) = false := decide_eq_false (by omega)
  have gd3 : decide ((1048576 : Int) < 8 * (l0 : Int) + 8 * (l1 : Int) + 8 * (l2 : Int)) = false := decide_eq_false (by omega)
  go_wp2_with fail
  refine (pairs_any _ _ _ _ _ _ _ (by omega) (by omega)).mono ?_
  rintro e w2 ⟨rfl, rfl⟩
  have hk0 : min l0 l1 ≤ l0 := Nat.min_le_left _ _
  have hk1 : min l0 l1 ≤ l1 := Nat.min_le_right _ _
  generalize min l0 l1 = k at *
  go_wp2_with fail
  refine (locsFit_any _ _ _ _ _ locs _ H1.out hk1 (by omega)).mono ?_
  rintro e w3 ⟨rfl, bb, rfl, hfit⟩
  cases bb with
  | false =>
    go_wp2
    go_ret
    exact ⟨rfl, Below.refl _ _⟩
  | true =>
  have HFit : Hid (∀ i, i < k → locs i < 18446744073709551614) := hfit rfl
  clear hfit
  go_wp2_with fail
  refine (clone64 _ _ _ hs _ H0.out N0.out (by omega)).mono ?_
  rintro e w4 ⟨hb4, a0', rfl, S0, M0⟩
  have H1' : Hid (SlU w4 w4.heap.size a1 l1 locs) := (H1.out.below hb4).mono hb4.size
  have H2' : Hid (SlU w4 w4.heap.size a2 l2 prs) := (H2.out.below hb4).mono hb4.size
  have S0' : Hid (SlU w4 w4.heap.size a0' l0 hs) := S0
  have B4 : Hid (Below w3.heap.size w3 w4) := hb4
  clear S0 H1 H0 N0 M0 hb4 H2
  go_wp2_with fail
  refine (clone64 _ _ _ locs _ H1'.out N1.out (by omega)).mono ?_
  rintro e w5 ⟨hb5, a1', rfl, S1, M1⟩
  have S0 : Hid (SlU w5 w5.heap.size a0' l0 hs) := (S0'.out.below hb5).mono hb5.size
  have S1' : Hid (SlU w5 w5.heap.size a1' l1 locs) := S1
  have H2 : Hid (SlU w5 w5.heap.size a2 l2 prs) := (H2'.out.below hb5).mono hb5.size
  have B5 : Hid (Below w3.heap.size w3 w5) := B4.out.trans (hb5.mono B4.out.size)
  clear S0' S1 H1' N1 M1 hb5 B4 H2'
  go_wp2_with fail
  refine (clone64 _ _ _ prs _ H2.out N2.out (by omega)).mono ?_
  rintro e w6 ⟨hb6, a2', rfl, S2, M2⟩
  have T0 : Hid (SlU w6 w6.heap.size a0' l0 hs) := (S0.out.below hb6).mono hb6.size
  have T1 : Hid (SlU w6 w6.heap.size a1' l1 locs) := (S1'.out.below hb6).mono hb6.size
  have T2 : Hid (SlU w6 w6.heap.size a2' l2 prs) := S2
  have B6 : Hid (Below w3.heap.size w3 w6) := B5.out.trans (hb6.mono B5.out.size)
  clear S0 S1' S2 H2 N2 M2 hb6 B5
  go_wp2_with fail
  refine (zzNewIndex 8 (by decide) _).mono ?_
  rintro e w7 ⟨rfl, hb7, hs7, hI7⟩
  have B7 : Hid (Below w6.heap.size w6 w7) := hb7
  have HLs : Hid (G hs locs w6.heap.size (w6.heap.size + 1) 0 w7) := g_new hI7 (Nat.le_succ _) (Nat.le_refl _)
  clear hb7 hs7 hI7
  generalize hB : w6.heap.size = B1 at *
  have HEB : Hid (w6.heap.size = B1) := hB
  clear hB
  go_wp2_with fail
  go_loopw [9] (fun v wr => ∃ i : Nat, i ≤ k ∧ v = .int .i64 i ∧ Hid (G hs locs B1 (B1 + 1) i wr) ∧ Hid (Below B1 w6 wr)) (fun v _ => k - (intOf v).toNat)
  case atStart => exact ⟨0, Nat.zero_le _, rfl, HLs, B7⟩
  case round =>
    obtain ⟨i, hi, rfl, hL, hB⟩ := hrel
    clear HLs B7
    have HZ : Hid (B1 ≤ wr.heap.size) := by have := hB.out.size; rw [HEB.out] at this; exact this
    by_cases hlt : i < k
    · obtain ⟨b0, o0, rfl, hb0, hc0⟩ := (T0.out.below hB.out) i (by omega)
      obtain ⟨b1, o1, rfl, hb1, hc1⟩ := (T1.out.below hB.out) i (by omega)
      have hil0 : (i : Int) < (l0 : Int) := by omega
      have hil1 : (i : Int) < (l1 : Int) := by omega
      have hi4 : i < 4096 := by omega
      have HF : Hid (locs i < 18446744073709551614) := HFit.out i hlt
      have HL2 : Hid (G hs locs B1 (B1 + 1) i wr.drew) := hL.out.ext (Below.refl _ _).drew
      have HB2 : Hid (Below B1 w6 wr.drew) := hB.out.drew
      clear hL hB
      go_wp2_with fail
      go_region_held3 (fun w' => w'.cell? ⟨b0, o0 + i, none⟩ = some (.int .u64 (hs i : Int)) ∧ w'.cell? ⟨b1, o1 + i, none⟩ = some (.int .u64 (locs i : Int))) (go_keep)
        ((go_at_call 17; refine (g_put HL2.out hi4 HF.out).mono ?_; rintro e w' ⟨rfl, hFr, hM⟩; have kc0 := (hFr.cell (p := ⟨b0, o0 + i, none⟩) hb0).trans hc0; have kc1 := (hFr.cell (p := ⟨b1, o1 + i, none⟩) hb1).trans hc1))
      have HE : Hid (G hs locs B1 (B1 + 1) (i + 1) w') := hM
      have HB3 : Hid (Below B1 w6 w') := HB2.out.trans hFr
      clear hM hFr kc0 kc1
      go_wp2
      go_roundw
      case rel => exact ⟨i + 1, by omega, by go_num, HE, HB3⟩
      case measure => simp [intOf]; omega
    · have hik : i = k := by omega
      subst hik
      clear HFit
      obtain ⟨x, hGO⟩ := hL.out.open_
      have HG : Hid (GO hs locs B1 (B1 + 1) i x wr) := hGO
      clear hGO hL
      have U0 : Hid (SlU wr B1 a0' l0 hs) := T0.out.below hB.out
      have U1 : Hid (SlU wr B1 a1' l1 locs) := T1.out.below hB.out
      have U2 : Hid (SlU wr B1 a2' l2 prs) := T2.out.below hB.out
      clear T0 T1 T2
      have HW : Hid (Below w3.heap.size w3 wr) := B6.out.trans (hB.out.mono (by have := B6.out.size; rw [HEB.out] at this; exact this))
      clear hB B6 HEB
      obtain ⟨wq, hwq⟩ : ∃ wq, wq = wr := ⟨_, rfl⟩
      subst hwq
      go_wp2_with fail
      refine (contents_any HG.out _ _ _ _ _ _ U0.out U1.out HZ.out hk0 hk1 (by omega) (by omega)).mono ?_
      rintro e w8 ⟨rfl, hb8⟩
      have B8 : Hid (Below wq.heap.size wq w8) := hb8
      clear hb8
      go_wp2_with fail
      go_loopw [10] (fun v wx => ∃ p : Nat, p ≤ l2 ∧ v = .int .i64 p ∧ Hid (Below wq.heap.size wq wx)) (fun v _ => l2 - (intOf v).toNat)
      case atStart => exact ⟨0, Nat.zero_le _, rfl, B8⟩
      case round =>
        obtain ⟨p, hp, rfl, hBr⟩ := hrel
        clear B8
        have V0 : Hid (SlU wr B1 a0' l0 hs) := U0.out.below (hBr.out.mono HZ.out)
        have V1 : Hid (SlU wr B1 a1' l1 locs) := U1.out.below (hBr.out.mono HZ.out)
        have HGr : Hid (GO hs locs B1 (B1 + 1) i x wr) := HG.out.ext hBr.out
        have HZr : Hid (B1 ≤ wr.heap.size) := Nat.le_trans HZ.out hBr.out.size
        by_cases hpl : p < l2
        · obtain ⟨b2, o2, ea, hb2, hc2⟩ := (U2.out.below (hBr.out.mono HZ.out)) p hpl
          have HCL : Hid (Calls Try.prog 30 #[.slice a0' l0 l0, .slice a1' l1 l1, .int .i64 (i : Int), .int .u64 ((prs p : Nat) : Int)] wr fun e w' => e = .returned (lastV (lastM hs locs noDel i (prs p))) ∧ w' = wr) :=
            lastPut_any a0' a1' l0 l0 l1 l1 i B1 (prs p) hs locs wr V0.out V1.out hk0 hk1 (by omega) (by omega)
          have HLk : Hid (Calls Try.prog 21 #[.pointer (some ⟨B1 + 1, 0, none⟩), .int .u64 ((prs p : Nat) : Int)] wr fun e w' => e = .returned (lookV (lastM hs locs noDel i (prs p))) ∧ Below wr.heap.size wr w') := go_lookup HGr.out (prs p)
          clear V0 V1
          subst ea
          generalize lastM hs locs noDel i (prs p) = m at *
          go_wp2_with fail
          refine HCL.out.mono ?_
          rintro e w9 ⟨rfl, rfl⟩
          clear HCL
          by_cases hz : m = 0
          · subst hz
            have e1 : lastV 0 = .tuple #[.int .u64 0, .bool false] := rfl
            rw [e1]; clear e1
            go_wp2_with fail
            refine HLk.out.mono ?_
            rintro e w10 ⟨rfl, hb10⟩
            have HB10 : Hid (Below wq.heap.size wq w10) := hBr.out.trans (hb10.mono hBr.out.size)
            clear hb10 HLk
            rw [lookV_zero]
            go_wp2
            go_roundw
            case rel => exact ⟨p + 1, by omega, by go_num, HB10⟩
            case measure => simp [intOf]; omega
          · rw [lastV_pos hz]
            have HMz : Hid (m ≠ 0) := hz
            clear hz
            generalize hm1 : ((m - 1 : Nat) : Int) = m1 at *
            clear hm1
            go_wp2_with fail
            refine HLk.out.mono ?_
            rintro e w10 ⟨rfl, hb10⟩
            have HB10 : Hid (Below wq.heap.size wq w10) := hBr.out.trans (hb10.mono hBr.out.size)
            clear hb10 HLk
            rw [lookV_pos HMz.out]
            go_wp2
            go_roundw
            case rel => exact ⟨p + 1, by omega, by go_num, HB10⟩
            case measure => simp [intOf]; omega
        · have hsum := go_sum HGr.out
          have hn4 := HGr.out.core.n_le
          have hc4 := HGr.out.core.cle
          go_wp2_with fail
          refine (go_n HGr.out).mono ?_
          rintro e w9 ⟨rfl, rfl⟩
          go_wp2_with fail
          refine (go_live HGr.out).mono ?_
          rintro e w10 ⟨rfl, hb10⟩
          have HB10 : Hid (Below wq.heap.size wq w10) := hBr.out.trans (hb10.mono hBr.out.size)
          have HG10 : Hid (GO hs locs B1 (B1 + 1) i x w10) := HGr.out.ext hb10
          have W0 : Hid (SlU w10 B1 a0' l0 hs) := V0.out.below (hb10.mono HZr.out)
          clear hb10 V0 V1
          go_wp2_with fail
          refine (distinct_any _ _ _ _ _ hs _ W0.out hk0 (by omega)).mono ?_
          rintro e w11 ⟨rfl, hb11⟩
          have HB11 : Hid (Below wq.heap.size wq w11) := HB10.out.trans (hb11.mono HB10.out.size)
          have HG11 : Hid (GO hs locs B1 (B1 + 1) i x w11) := HG10.out.ext hb11
          clear hb11
          have hsumI : (x.n : Int) + ((liveC x : Nat) : Int) = ((cnt (firstB hs) i : Nat) : Int) := by omega
          have hbe : ((x.n : Int) + ((liveC x : Nat) : Int) == ((cnt (firstB hs) i : Nat) : Int)) = true := by rw [hsumI]; simp
          clear hsumI
          have hlv : (liveC x : Int) ≤ 4096 := by omega
          clear hsum
          generalize cnt (firstB hs) i = cc at *
          generalize liveC x = lc at *
          go_wp2_with fail
          refine (go_occ HG11.out).mono ?_
          rintro e w12 ⟨rfl, hb12⟩
          have HB12 : Hid (Below wq.heap.size wq w12) := HB11.out.trans (hb12.mono HB11.out.size)
          have HG12 : Hid (GO hs locs B1 (B1 + 1) i x w12) := HG11.out.ext hb12
          clear hb12
          go_wp2_with fail
          refine (go_n HG12.out).mono ?_
          rintro e w13 ⟨rfl, rfl⟩
          go_wp2
          go_ret
          exact ⟨rfl, HW.out.trans (HB12.out.mono HW.out.size)⟩

end Go.Proofs.Qxb6601018a
