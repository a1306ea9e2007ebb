/-
  THE WALK of FnStepMovesItsWindowAndKeepsContents.
-/
import Derived.Test.Qxb6601018aCso
set_option linter.unusedVariables false
namespace Go.Proofs.Qxb6601018a
open Go.RowKit

theorem bytes37 (a0 a1 a2 : Option Addr) (l0 c0 l1 c1 l2 c2 : Nat) (w : World) :
    Calls Try.prog 37 #[.slice a0 l0 c0, .slice a1 l1 c1, .slice a2 l2 c2] w fun e w' => w' = w ∧ BoolR e := by
  go_enter Try.func37, Try.ntmps37
  go_wp2
  all_goals
    go_ret
    exact ⟨rfl, _, rfl⟩

set_option maxRecDepth 100000 in
set_option maxHeartbeats 4000000 in
theorem mov_walk (a0 a1 a2 : Option Addr) (l0 c0 l1 c1 l2 c2 : Nat) (hs locs : Nat → Nat) (prs : Nat → Bool) (w : World) (h0 : SlU w w.heap.size a0 l0 hs) (n0 : a0 = none → l0 = 0) (h1 : SlU w w.heap.size a1 l1 locs) (n1 : a1 = none → l1 = 0)
    (h2 : SlB w w.heap.size a2 l2 prs) (n2 : a2 = none → l2 = 0) :
    Calls Try.prog 7 #[.slice a0 l0 c0, .slice a1 l1 c1, .slice a2 l2 c2] w fun e w' => e = .returned (.bool true) ∧ Below w.heap.size w w' := by
  have H0 : Hid (SlU w w.heap.size a0 l0 hs) := h0
  have H1 : Hid (SlU w w.heap.size a1 l1 locs) := h1
  have H2 : Hid (SlB w w.heap.size a2 l2 prs) := h2
  have N0 : Hid (a0 = none → l0 = 0) := n0
  have N1 : Hid (a1 = none → l1 = 0) := n1
  have N2 : Hid (a2 = none → l2 = 0) := n2
  clear h0 h1 n0 n1 h2 n2
  go_enter Try.func7, Try.ntmps7
  go_wp2_with fail
  refine (bytes37 _ _ _ _ _ _ _ _ _ _).mono ?_
  rintro e w' ⟨rfl, bb, rfl⟩
  cases bb with
  | false =>
    go_wp2
    go_ret
    exact ⟨rfl, Below.refl _ _⟩
  | true =>
  by_cases g0 : 4096 < l0
  · have g0' : (4096 : Int) < (l0 : Int) := by omega
    go_wp2
    go_ret
    exact ⟨rfl, Below.refl _ _⟩
  by_cases g1 : 4096 < l1
  · have g1' : (4096 : Int) < (l1 : Int) := by omega
    have g0' : ¬ (4096 : Int) < (l0 : Int) := by omega
    go_wp2
    go_ret
    exact ⟨rfl, Below.refl _ _⟩
  by_cases g2 : 4096 < l2
  · have g2' : (4096 : Int) < (l2 : Int) := by omega
    have g0' : ¬ (4096 : Int) < (l0 : Int) := by omega
    have g1' : ¬ (4096 : Int) < (l1 : Int) := by omega
    go_wp2
    go_ret
    exact ⟨rfl, Below.refl _ _⟩
  have g0' : (l0 : Int) ≤ 4096 := by omega
  have g1' : (l1 : Int) ≤ 4096 := by omega
  have g2' : (l2 : Int) ≤ 4096 := by omega
  have gd0 : decide ((4096 : Int) < (l0 : Int)) = false := decide_eq_false (by omega)
  have gd1 : decide ((4096 : Int) < (l1 : Int)) = false := decide_eq_false (by omega)
  have gd2 : decide ((4096 : Int) < (l2 : Int)) = false := decide_eq_false (by omega)
  have gd3 : decide ((1048576 : Int) < 8 * (l0 : Int) + 8 * (l1 : Int) + (l2 : Int)) = false := decide_eq_false (by omega)
  go_wp2_with fail
  refine (pairs_any _ _ _ _ _ _ _ (by omega) (by omega)).mono ?_
  rintro e w2 ⟨rfl, rfl⟩
  have hk0 : min l0 l1 ≤ l0 := Nat.min_le_left _ _
  have hk1 : min l0 l1 ≤ l1 := Nat.min_le_right _ _
  generalize min l0 l1 = k at *
  go_wp2_with fail
  refine (locsFit_any _ _ _ _ _ locs _ H1.out hk1 (by omega)).mono ?_
  rintro e w3 ⟨rfl, bb, rfl, hfit⟩
  cases bb with
  | false =>
    go_wp2
    go_ret
    exact ⟨rfl, Below.refl _ _⟩
  | true =>
  have HFit : Hid (∀ i, i < k → locs i < 18446744073709551614) := hfit rfl
  clear hfit
  go_wp2_with fail
  refine (clone64 _ _ _ hs _ H0.out N0.out (by omega)).mono ?_
  rintro e w4 ⟨hb4, a0', rfl, S0, M0⟩
  have H1' : Hid (SlU w4 w4.heap.size a1 l1 locs) := (H1.out.below hb4).mono hb4.size
  have H2' : Hid (SlB w4 w4.heap.size a2 l2 prs) := (H2.out.below hb4).mono hb4.size
  have S0' : Hid (SlU w4 w4.heap.size a0' l0 hs) := S0
  have B4 : Hid (Below w3.heap.size w3 w4) := hb4
  clear S0 H1 H0 N0 M0 hb4 H2
  go_wp2_with fail
  refine (clone64 _ _ _ locs _ H1'.out N1.out (by omega)).mono ?_
  rintro e w5 ⟨hb5, a1', rfl, S1, M1⟩
  have S0 : Hid (SlU w5 w5.heap.size a0' l0 hs) := (S0'.out.below hb5).mono hb5.size
  have S1' : Hid (SlU w5 w5.heap.size a1' l1 locs) := S1
  have H2 : Hid (SlB w5 w5.heap.size a2 l2 prs) := (H2'.out.below hb5).mono hb5.size
  have B5 : Hid (Below w3.heap.size w3 w5) := B4.out.trans (hb5.mono B4.out.size)
  clear S0' S1 H1' N1 M1 hb5 B4 H2'
  go_wp2_with fail
  refine (cloneBool _ _ _ prs _ H2.out N2.out (by omega)).mono ?_
  rintro e w6 ⟨hb6, a2', rfl, S2, M2⟩
  have T0 : Hid (SlU w6 w6.heap.size a0' l0 hs) := (S0.out.below hb6).mono hb6.size
  have T1 : Hid (SlU w6 w6.heap.size a1' l1 locs) := (S1'.out.below hb6).mono hb6.size
  have T2 : Hid (SlB w6 w6.heap.size a2' l2 prs) := S2
  have B6 : Hid (Below w3.heap.size w3 w6) := B5.out.trans (hb6.mono B5.out.size)
  clear S0 S1' S2 H2 N2 M2 hb6 B5
  go_wp2_with fail
  refine (zzNewIndex 8 (by decide) _).mono ?_
  rintro e w7 ⟨rfl, hb7, hs7, hI7⟩
  have B7 : Hid (Below w6.heap.size w6 w7) := hb7
  have HLs : Hid (G hs locs w6.heap.size (w6.heap.size + 1) 0 w7) := g_new hI7 (Nat.le_succ _) (Nat.le_refl _)
  clear hb7 hs7 hI7
  generalize hB : w6.heap.size = B1 at *
  have HEB : Hid (w6.heap.size = B1) := hB
  clear hB
  go_wp2_with fail
  go_loopw [9] (fun v wr => ∃ i : Nat, i ≤ k ∧ v = .int .i64 i ∧ Hid (G hs locs B1 (B1 + 1) i wr) ∧ Hid (Below B1 w6 wr)) (fun v _ => k - (intOf v).toNat)
  case atStart => exact ⟨0, Nat.zero_le _, rfl, HLs, B7⟩
  case round =>
    obtain ⟨i, hi, rfl, hL, hB⟩ := hrel
    clear HLs B7
    have HZ : Hid (B1 ≤ wr.heap.size) := by have := hB.out.size; rw [HEB.out] at this; exact this
    by_cases hlt : i < k
    · obtain ⟨b0, o0, rfl, hb0, hc0⟩ := (T0.out.below hB.out) i (by omega)
      obtain ⟨b1, o1, rfl, hb1, hc1⟩ := (T1.out.below hB.out) i (by omega)
      have hil0 : (i : Int) < (l0 : Int) := by omega
      have hil1 : (i : Int) < (l1 : Int) := by omega
      have hi4 : i < 4096 := by omega
      have HF : Hid (locs i < 18446744073709551614) := HFit.out i hlt
      have HL2 : Hid (G hs locs B1 (B1 + 1) i wr.drew) := hL.out.ext (Below.refl _ _).drew
      have HB2 : Hid (Below B1 w6 wr.drew) := hB.out.drew
      clear hL hB
      go_wp2_with fail
      go_region_held3 (fun w' => w'.cell? ⟨b0, o0 + i, none⟩ = some (.int .u64 (hs i : Int)) ∧ w'.cell? ⟨b1, o1 + i, none⟩ = some (.int .u64 (locs i : Int))) (go_keep)
        ((go_at_call 17; refine (g_put HL2.out hi4 HF.out).mono ?_; rintro e w' ⟨rfl, hFr, hM⟩; have kc0 := (hFr.cell (p := ⟨b0, o0 + i, none⟩) hb0).trans hc0; have kc1 := (hFr.cell (p := ⟨b1, o1 + i, none⟩) hb1).trans hc1))
      have HE : Hid (G hs locs B1 (B1 + 1) (i + 1) w') := hM
      have HB3 : Hid (Below B1 w6 w') := HB2.out.trans hFr
      have HZ3 : Hid (B1 ≤ w'.heap.size) := by have := HB3.out.size; rw [HEB.out] at this; exact this
      clear hM hFr kc0 kc1 hc0 hc1
      by_cases hx2 : i < l2
      · obtain ⟨b2, o2, rfl, hb2, hc2⟩ := (T2.out.below HB3.out) i hx2
        have hx2I : (i : Int) < (l2 : Int) := by omega
        cases hp : prs i with
        | false =>
          rw [hp] at hc2
          clear hp
          go_wp2
          go_roundw
          case rel => exact ⟨i + 1, by omega, by go_num, HE, HB3⟩
          case measure => simp [intOf]; omega
        | true =>
          rw [hp] at hc2
          clear hp
          go_wp2_with fail
          refine (checkedStep_any HE.out HZ3.out).mono ?_
          rintro e w8 ⟨rfl, hb8, hG8⟩
          have HE8 : Hid (G hs locs B1 (B1 + 1) (i + 1) w8) := hG8
          have HB8 : Hid (Below B1 w6 w8) := HB3.out.trans hb8
          clear hb8 hG8 hc2
          go_wp2
          go_roundw
          case rel => exact ⟨i + 1, by omega, by go_num, HE8, HB8⟩
          case measure => simp [intOf]; omega
      · have hx2I : ¬ (i : Int) < (l2 : Int) := by omega
        go_wp2
        go_roundw
        case rel => exact ⟨i + 1, by omega, by go_num, HE, HB3⟩
        case measure => simp [intOf]; omega
    · have hik : i = k := by omega
      subst hik
      clear HFit
      obtain ⟨x, hGO⟩ := hL.out.open_
      have HG : Hid (GO hs locs B1 (B1 + 1) i x wr) := hGO
      clear hGO hL
      have U0 : Hid (SlU wr B1 a0' l0 hs) := T0.out.below hB.out
      have U1 : Hid (SlU wr B1 a1' l1 locs) := T1.out.below hB.out
      clear T0 T1 T2
      have HW : Hid (Below w3.heap.size w3 wr) := B6.out.trans (hB.out.mono (by have := B6.out.size; rw [HEB.out] at this; exact this))
      clear hB B6 HEB
      obtain ⟨wq, hwq⟩ : ∃ wq, wq = wr := ⟨_, rfl⟩
      subst hwq
      go_wp2_with fail
      refine (contents_any HG.out _ _ _ _ _ _ U0.out U1.out HZ.out hk0 hk1 (by omega) (by omega)).mono ?_
      rintro e w8 ⟨rfl, hb8⟩
      have B8 : Hid (Below wq.heap.size wq w8) := hb8
      have HG8 : Hid (GO hs locs B1 (B1 + 1) i x w8) := HG.out.ext hb8
      clear hb8
      go_wp2_with fail
      refine (go_occ HG8.out).mono ?_
      rintro e w9 ⟨rfl, hb9⟩
      have B9 : Hid (Below wq.heap.size wq w9) := B8.out.trans (hb9.mono B8.out.size)
      have HG9 : Hid (GO hs locs B1 (B1 + 1) i x w9) := HG8.out.ext hb9
      clear hb9
      go_wp2_with fail
      refine (go_n HG9.out).mono ?_
      rintro e w10 ⟨rfl, rfl⟩
      go_wp2
      go_ret
      exact ⟨rfl, HW.out.trans (B9.out.mono HW.out.size)⟩

end Go.Proofs.Qxb6601018a
