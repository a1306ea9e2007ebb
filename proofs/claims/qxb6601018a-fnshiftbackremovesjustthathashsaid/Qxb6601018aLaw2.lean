/-
  THE WALK of FnShiftBackRemovesJustThatHash.
-/
import Derived.Test.Qxb6601018aRem
import Derived.Test.Qxb6601018aLaw1
set_option linter.unusedVariables false
namespace Go.Proofs.Qxb6601018a
open Go.RowKit

def L2 (hs locs : Nat → Nat) (del : Nat → Bool) (b pb i : Nat) (w : World) : Prop :=
  ∃ T n, IxAt w b pb 0 (fixIx n T) ∧ n ≤ i ∧ Cont T 8192 (lastM hs locs del i) ∧ cnt (occB T) 8192 ≤ i

theorem L2.ext {hs locs : Nat → Nat} {del : Nat → Bool} {b pb i : Nat} {w w' : World} (h : L2 hs locs del b pb i w) (hb : Below w.heap.size w w') : L2 hs locs del b pb i w' := by
  obtain ⟨T, n, h1, r⟩ := h
  exact ⟨T, n, h1.ext hb, r⟩

theorem l2_put {hs locs : Nat → Nat} {del : Nat → Bool} {b pb i : Nat} {w : World} (hL : L2 hs locs del b pb i w) (hi : i < 4096) (hd : ¬ del i = true) (hloc : locs i < 18446744073709551614) :
    Calls Try.prog 17 #[.pointer (some ⟨b, 0, none⟩), .int .u64 ((hs i : Nat) : Int), .int .u64 ((locs i : Nat) : Int)] w fun e w' => e = .returned (.tuple #[]) ∧ Fr [b, pb] w w' ∧ L2 hs locs del b pb (i + 1) w' := by
  obtain ⟨T, n, h1, hn, hC, hc⟩ := hL
  refine (put_fix h1 (hs i) (locs i) hloc (by omega) (by omega)).mono ?_
  rintro e w' ⟨rfl, hF, r, n', hr, hn', hI⟩
  have hcp := cnt_put (A := T) (n := 8192) (K := hs i) (v := locs i + 1) (r := r) (by omega) hr.lt
  refine ⟨rfl, hF, _, n', hI, by omega, (cont_put hC (by decide) (by omega) (by unfold gone; omega) hr).congr (fun h => (lastM_put hd h).symm), ?_⟩
  rw [hcp]; split <;> omega

def L2F (hs locs : Nat → Nat) (del : Nat → Bool) (b pb i : Nat) (e : Ending) (w : World) : Prop :=
  (e = .returned (.tuple #[.int .i64 0, .bool false]) ∧ L2 hs locs del b pb (i + 1) w) ∨
  ∃ r : Nat, e = .returned (.tuple #[.int .i64 (r : Int), .bool true]) ∧
    ∀ w', Below w.heap.size w w' → Calls Try.prog 16 #[.pointer (some ⟨b, 0, none⟩), .int .i64 (r : Int)] w' fun e w'' => e = .returned (.tuple #[]) ∧ Fr [pb] w' w'' ∧ L2 hs locs del b pb (i + 1) w''

theorem l2_find {hs locs : Nat → Nat} {del : Nat → Bool} {b pb i : Nat} {w : World} (hL : L2 hs locs del b pb i w) (hi : i < 4096) (hd : del i = true) :
    Calls Try.prog 15 #[.pointer (some ⟨b, 0, none⟩), .int .u64 ((hs i : Nat) : Int)] w fun e w' => Below w.heap.size w w' ∧ L2F hs locs del b pb i e w' := by
  obtain ⟨T, n, h1, hn, hC, hc⟩ := hL
  refine (zzFind h1 (hs i) pw8192 (show (8192 : Nat) ≤ 16384 by decide) (free_of_cnt (T := T) (n := 8192) (by omega))).mono ?_
  rintro e w' ⟨hb, r, hr, rfl⟩
  have hr' : IsProbe (stopF T (hs i)) 8192 (hs i % 8192) r := hr
  refine ⟨hb, ?_⟩
  show L2F hs locs del b pb i (.returned (findV T r)) w'
  by_cases h0 : (T r).2 = 0
  · left
    refine ⟨by simp [findV, h0], T, n, h1.ext hb, by omega, hC.congr (fun h => ?_), by omega⟩
    rw [lastM_del hd]; simp only [setM]; split
    · rename_i e; rw [← e]; exact cont_absent hC hr' h0
    · rfl
  · right
    have hA := cont_found hC hr' h0
    refine ⟨r, by simp [findV, h0], fun w2 hb2 => ?_⟩
    obtain ⟨q, hq, hqr, hq0⟩ := free_two (A := T) (n := 8192) (r := r) (by omega)
    obtain ⟨f, hf⟩ := firstFree_exists (A := T) hr'.lt ⟨q, hq, hqr, hq0⟩
    obtain ⟨hC2, hcc⟩ := cont_del hC hr'.lt h0 hA.1 hf
    refine zzShiftBack_of ((shiftBack_any ((h1.ext hb).ext hb2) r hr'.lt pw8192 (show (8192 : Nat) ≤ 16384 by decide) f hf).mono ?_)
    rintro e w3 ⟨rfl, hF, hI⟩
    exact ⟨rfl, hF, _, n, hI, by omega, hC2.congr (fun h => (lastM_del hd h).symm), show cnt (occB (sbk T 8192 r (f - 1)).2) 8192 ≤ i + 1 by omega⟩

theorem l2_still {hs locs : Nat → Nat} {del : Nat → Bool} {b pb i : Nat} {w : World} (hL : L2 hs locs del b pb (i + 1) w) (hi : i < 4096) (hd : del i = true) :
    Calls Try.prog 15 #[.pointer (some ⟨b, 0, none⟩), .int .u64 ((hs i : Nat) : Int)] w fun e w' => e = .returned (.tuple #[.int .i64 0, .bool false]) ∧ Below w.heap.size w w' := by
  obtain ⟨T, n, h1, hn, hC, hc⟩ := hL
  refine (zzFind h1 (hs i) pw8192 (show (8192 : Nat) ≤ 16384 by decide) (free_of_cnt (T := T) (n := 8192) (by omega))).mono ?_
  rintro e w' ⟨hb, r, hr, rfl⟩
  have hr' : IsProbe (stopF T (hs i)) 8192 (hs i % 8192) r := hr
  refine ⟨?_, hb⟩
  show Ending.returned (findV T r) = _
  by_cases h0 : (T r).2 = 0
  · simp [findV, h0]
  · have hA := cont_found hC hr' h0
    rw [lastM_del hd] at hA
    simp [setM] at hA
    exact absurd hA.2 h0

theorem fix_shape {n : Nat} {T : Tab} (hc : cnt (occB T) 8192 ≤ 4096) : Shape (fixIx n T) :=
  ⟨pw8192, show (8192 : Nat) ≤ 16384 by decide, free_of_cnt (T := T) (n := 8192) (by omega), fun h => absurd rfl h, Nat.zero_le _, fun h => absurd rfl h⟩

theorem fix_look {n h m : Nat} {T : Tab} {M : Nat → Nat} (hC : Cont T 8192 M) (hl : LookR (fixIx n T) h m) : m = M h := by
  obtain ⟨r, hr, hc⟩ := hl
  have hr' : IsProbe (stopF T h) 8192 (h % 8192) r := hr
  rcases hc with ⟨h0, e⟩ | ⟨h0, ⟨_, e⟩ | ⟨h1, _⟩⟩
  · rw [e]; exact (cont_found hC hr' h0).2
  · rw [e]; exact (cont_absent hC hr' h0).symm
  · exact absurd rfl h1

theorem bytes9 (a0 a1 a2 : Option Addr) (l0 c0 l1 c1 l2 c2 : Nat) (w : World) :
    Calls Try.prog 9 #[.slice a0 l0 c0, .slice a1 l1 c1, .slice a2 l2 c2] w fun e w' => w' = w ∧ BoolR e := by
  go_enter Try.func9, Try.ntmps9
  go_wp2
  all_goals
    go_ret
    exact ⟨rfl, _, rfl⟩

set_option maxRecDepth 100000 in
set_option maxHeartbeats 4000000 in
theorem rem_walk (a0 a1 a2 : Option Addr) (l0 c0 l1 c1 l2 c2 : Nat) (hs locs : Nat → Nat) (g : Nat → Bool) (w : World) (h0 : SlU w w.heap.size a0 l0 hs) (n0 : a0 = none → l0 = 0) (h1 : SlU w w.heap.size a1 l1 locs) (n1 : a1 = none → l1 = 0)
    (h2 : SlB w w.heap.size a2 l2 g) (n2 : a2 = none → l2 = 0) :
    Calls Try.prog 3 #[.slice a0 l0 c0, .slice a1 l1 c1, .slice a2 l2 c2] w fun e w' => e = .returned (.bool true) ∧ Below w.heap.size w w' := by
  have H0 : Hid (SlU w w.heap.size a0 l0 hs) := h0
  have H1 : Hid (SlU w w.heap.size a1 l1 locs) := h1
  have H2 : Hid (SlB w w.heap.size a2 l2 g) := h2
  have N0 : Hid (a0 = none → l0 = 0) := n0
  have N1 : Hid (a1 = none → l1 = 0) := n1
  have N2 : Hid (a2 = none → l2 = 0) := n2
  clear h0 h1 n0 n1 h2 n2
  go_enter Try.func3, Try.ntmps3
  go_wp2_with fail
  refine (bytes9 _ _ _ _ _ _ _ _ _ _).mono ?_
  rintro e w' ⟨rfl, bb, rfl⟩
  cases bb with
  | false =>
    go_wp2
    go_ret
    exact ⟨rfl, Below.refl _ _⟩
  | true =>
  by_cases g0 : 4096 < l0
  · have g0' : (4096 : Int) < (l0 : Int) := by omega
    go_wp2
    go_ret
    exact ⟨rfl, Below.refl _ _⟩
  by_cases g1 : 4096 < l1
  · have g1' : (4096 : Int) < (l1 : Int) := by omega
    have g0' : ¬ (4096 : Int) < (l0 : Int) := by omega
    go_wp2
    go_ret
    exact ⟨rfl, Below.refl _ _⟩
  by_cases g2 : 4096 < l2
  · have g2' : (4096 : Int) < (l2 : Int) := by omega
    have g0' : ¬ (4096 : Int) < (l0 : Int) := by omega
    have g1' : ¬ (4096 : Int) < (l1 : Int) := by omega
    go_wp2
    go_ret
    exact ⟨rfl, Below.refl _ _⟩
  have g0' : (l0 : Int) ≤ 4096 := by omega
  have g1' : (l1 : Int) ≤ 4096 := by omega
  have g2' : (l2 : Int) ≤ 4096 := by omega
  have gd0 : decide ((4096 : Int) < (l0 : Int)) = false := decide_eq_false (by omega)
  have gd1 : decide ((4096 : Int) < (l1 : Int)) = false := decide_eq_false (by omega)
  have gd2 : decide ((4096 : Int) < (l2 : Int)) = false := decide_eq_false (by omega)
  have gd3 : decide ((1048576 : Int) < 8 * (l0 : Int) + 8 * (l1 : Int) + (l2 : Int)) = false := decide_eq_false (by omega)
  go_wp2_with fail
  refine (pairs_any _ _ _ _ _ _ _ (by omega) (by omega)).mono ?_
  rintro e w2 ⟨rfl, rfl⟩
  have hk0 : min l0 l1 ≤ l0 := Nat.min_le_left _ _
  have hk1 : min l0 l1 ≤ l1 := Nat.min_le_right _ _
  generalize min l0 l1 = k at *
  go_wp2_with fail
  refine (locsFitPuts_any _ _ _ _ _ _ _ _ locs g _ H1.out H2.out hk1 (by omega) (by omega)).mono ?_
  rintro e w3 ⟨rfl, bb, rfl, hfit⟩
  cases bb with
  | false =>
    go_wp2
    go_ret
    exact ⟨rfl, Below.refl _ _⟩
  | true =>
  have HFit : Hid (∀ i, i < k → ¬ (i < l2 ∧ g i = true) → locs i < 18446744073709551614) := hfit rfl
  clear hfit
  go_wp2_with fail
  refine (clone64 _ _ _ hs _ H0.out N0.out (by omega)).mono ?_
  rintro e w4 ⟨hb4, a0', rfl, S0, M0⟩
  have H1' : Hid (SlU w4 w4.heap.size a1 l1 locs) := (H1.out.below hb4).mono hb4.size
  have H2' : Hid (SlB w4 w4.heap.size a2 l2 g) := (H2.out.below hb4).mono hb4.size
  have S0' : Hid (SlU w4 w4.heap.size a0' l0 hs) := S0
  have B4 : Hid (Below w3.heap.size w3 w4) := hb4
  clear S0 H1 H0 N0 M0 hb4 H2
  go_wp2_with fail
  refine (clone64 _ _ _ locs _ H1'.out N1.out (by omega)).mono ?_
  rintro e w5 ⟨hb5, a1', rfl, S1, M1⟩
  have S0 : Hid (SlU w5 w5.heap.size a0' l0 hs) := (S0'.out.below hb5).mono hb5.size
  have S1' : Hid (SlU w5 w5.heap.size a1' l1 locs) := S1
  have H2 : Hid (SlB w5 w5.heap.size a2 l2 g) := (H2'.out.below hb5).mono hb5.size
  have B5 : Hid (Below w3.heap.size w3 w5) := B4.out.trans (hb5.mono B4.out.size)
  clear S0' S1 H1' N1 M1 hb5 B4 H2'
  go_wp2_with fail
  refine (cloneBool _ _ _ g _ H2.out N2.out (by omega)).mono ?_
  rintro e w6 ⟨hb6, a2', rfl, S2, M2⟩
  have T0 : Hid (SlU w6 w6.heap.size a0' l0 hs) := (S0.out.below hb6).mono hb6.size
  have T1 : Hid (SlU w6 w6.heap.size a1' l1 locs) := (S1'.out.below hb6).mono hb6.size
  have T2 : Hid (SlB w6 w6.heap.size a2' l2 g) := S2
  have B6 : Hid (Below w3.heap.size w3 w6) := B5.out.trans (hb6.mono B5.out.size)
  clear S0 S1' S2 H2 N2 M2 hb6 B5
  go_wp2_with fail
  refine (zzNewIndex 8192 (by decide) _).mono ?_
  rintro e w7 ⟨rfl, hb7, hs7, hI7⟩
  have B7 : Hid (Below w6.heap.size w6 w7) := hb7
  obtain ⟨del, hdel⟩ : ∃ del : Nat → Bool, ∀ i, del i = (decide (i < l2) && g i) := ⟨fun i => decide (i < l2) && g i, fun _ => rfl⟩
  have HDel : Hid (∀ i, del i = (decide (i < l2) && g i)) := hdel
  have HLs : Hid (L2 hs locs del (w6.heap.size + 1) w6.heap.size 0 w7) := by
    refine ⟨emptyTab, 0, hI7, Nat.le_refl _, ⟨⟨fun q c _ _ h => absurd rfl h, fun q r _ _ h => absurd rfl h⟩, fun q _ h => absurd rfl h, fun h hh => absurd rfl hh, fun h => by show 0 < gone; decide⟩, ?_⟩
    rw [cnt_zero (p := occB emptyTab) (fun i _ => rfl)]; exact Nat.le_refl _
  clear hb7 hs7 hI7 hdel
  generalize hB : w6.heap.size = B1 at *
  have HEB : Hid (w6.heap.size = B1) := hB
  clear hB
  have HSS : Hid (∀ x, x ∈ [B1 + 1, B1] → B1 ≤ x) := fun x hx => by simp at hx; omega
  have HSS1 : Hid (∀ x, x ∈ [B1] → B1 ≤ x) := fun x hx => by simp at hx; omega
  go_wp2_with fail
  go_loopw [9] (fun v wr => ∃ i : Nat, i ≤ k ∧ v = .int .i64 i ∧ Hid (L2 hs locs del (B1 + 1) B1 i wr) ∧ Hid (Below B1 w6 wr)) (fun v _ => k - (intOf v).toNat)
  case atStart => exact ⟨0, Nat.zero_le _, rfl, HLs, B7⟩
  case round =>
    obtain ⟨i, hi, rfl, hL, hB⟩ := hrel
    clear HLs B7
    have HZ : Hid (B1 ≤ wr.heap.size) := by have := hB.out.size; rw [HEB.out] at this; exact this
    by_cases hlt : i < k
    · obtain ⟨b0, o0, rfl, hb0, hc0⟩ := (T0.out.below hB.out) i (by omega)
      obtain ⟨b1, o1, rfl, hb1, hc1⟩ := (T1.out.below hB.out) i (by omega)
      have hil0 : (i : Int) < (l0 : Int) := by omega
      have hil1 : (i : Int) < (l1 : Int) := by omega
      have hi4 : i < 4096 := by omega
      have hdi := HDel.out i
      by_cases hdd : del i = true
      · -- a deletion
        have HDd : Hid (del i = true) := hdd
        rw [hdi] at hdd
        simp at hdd
        obtain ⟨hd2, hg⟩ := hdd
        obtain ⟨b2, o2, rfl, hb2, hc2⟩ := (T2.out.below hB.out) i hd2
        rw [hg] at hc2
        clear hdi hg
        go_wp2_with fail
        refine (l2_find hL.out hi4 HDd.out).mono ?_
        rintro e w8 ⟨hb8, hF8⟩
        have B8 : Hid (Below B1 w6 w8) := hB.out.trans (hb8.mono HZ.out)
        have HZ8 : Hid (B1 ≤ w8.heap.size) := by have := B8.out.size; rw [HEB.out] at this; exact this
        have hc0' := (hb8.cell (p := ⟨b0, o0 + i, none⟩) (by have := HZ.out; show b0 < _; omega)).trans hc0
        clear hb8 hL hc0 hc1 hc2
        have HF8 : Hid (L2F hs locs del (B1 + 1) B1 i e w8) := hF8
        clear hF8
        rcases HF8.out with ⟨rfl, hE⟩ | ⟨r, rfl, hC⟩
        · have HE : Hid (L2 hs locs del (B1 + 1) B1 (i + 1) w8) := hE
          clear hE HF8
          go_wp2_with fail
          refine (l2_still HE.out hi4 HDd.out).mono ?_
          rintro e w9 ⟨rfl, hb9⟩
          have B9 : Hid (Below B1 w6 w9) := B8.out.trans (hb9.mono HZ8.out)
          have HE9 : Hid (L2 hs locs del (B1 + 1) B1 (i + 1) w9) := HE.out.ext hb9
          clear hb9 hc0'
          go_wp2
          go_roundw
          case rel => exact ⟨i + 1, by omega, by go_num, HE9, B9⟩
          case measure => simp [intOf]; omega
        · have HC : Hid (∀ w', Below w8.heap.size w8 w' → Calls Try.prog 16 #[.pointer (some ⟨B1 + 1, 0, none⟩), .int .i64 (r : Int)] w' fun e w'' => e = .returned (.tuple #[]) ∧ Fr [B1] w' w'' ∧ L2 hs locs del (B1 + 1) B1 (i + 1) w'') := hC
          clear hC HF8
          go_wp2_with fail
          refine (HC.out _ (Below.refl _ _)).mono ?_
          rintro e w9 ⟨rfl, hFr, hE⟩
          have HE : Hid (L2 hs locs del (B1 + 1) B1 (i + 1) w9) := hE
          have hb9 := hFr.below HSS1.out HZ8.out
          have B9 : Hid (Below B1 w6 w9) := B8.out.trans hb9
          have HZ9 : Hid (B1 ≤ w9.heap.size) := by have := B9.out.size; rw [HEB.out] at this; exact this
          have hc0'' := (hb9.cell (p := ⟨b0, o0 + i, none⟩) hb0).trans hc0'
          clear hE hFr HC hc0' hb9
          go_wp2_with fail
          refine (l2_still HE.out hi4 HDd.out).mono ?_
          rintro e w10 ⟨rfl, hb10⟩
          have B10 : Hid (Below B1 w6 w10) := B9.out.trans (hb10.mono HZ9.out)
          have HE10 : Hid (L2 hs locs del (B1 + 1) B1 (i + 1) w10) := HE.out.ext hb10
          clear hb10 hc0''
          go_wp2
          go_roundw
          case rel => exact ⟨i + 1, by omega, by go_num, HE10, B10⟩
          case measure => simp [intOf]; omega
      · -- a put
        have HDd : Hid (¬ del i = true) := hdd
        have HF : Hid (locs i < 18446744073709551614) := HFit.out i hlt (fun hh => hdd (by rw [hdi]; simp [hh.1, hh.2]))
        have HL2 : Hid (L2 hs locs del (B1 + 1) B1 i wr.drew) := hL.out.ext (Below.refl _ _).drew
        have HB2 : Hid (Below B1 w6 wr.drew) := hB.out.drew
        have HZ2 : Hid (B1 ≤ wr.drew.heap.size) := HZ
        by_cases hd2 : i < l2
        · obtain ⟨b2, o2, rfl, hb2, hc2⟩ := (T2.out.below hB.out) i hd2
          have hg : g i = false := by
            rw [hdi] at hdd; simpa [hd2] using hdd
          rw [hg] at hc2
          clear hdi hg hL hB hdd
          go_wp2_with fail
          go_region_held3 (fun w' => w'.cell? ⟨b0, o0 + i, none⟩ = some (.int .u64 (hs i : Int)) ∧ w'.cell? ⟨b1, o1 + i, none⟩ = some (.int .u64 (locs i : Int))) (go_keep)
            ((go_at_call 17; refine (l2_put HL2.out hi4 HDd.out HF.out).mono ?_; rintro e w' ⟨rfl, hFr, hM⟩; have kc := bel_cells hFr HSS.out HZ2.out hb0 hb1 hc0 hc1))
          have HE : Hid (L2 hs locs del (B1 + 1) B1 (i + 1) w') := hM
          have HB3 : Hid (Below B1 w6 w') := HB2.out.trans (hFr.below HSS.out HZ2.out)
          clear hM hFr kc
          go_wp2
          go_roundw
          case rel => exact ⟨i + 1, by omega, by go_num, HE, HB3⟩
          case measure => simp [intOf]; omega
        · clear hdi hL hB hdd
          go_wp2_with fail
          go_region_held3 (fun w' => w'.cell? ⟨b0, o0 + i, none⟩ = some (.int .u64 (hs i : Int)) ∧ w'.cell? ⟨b1, o1 + i, none⟩ = some (.int .u64 (locs i : Int))) (go_keep)
            ((go_at_call 17; refine (l2_put HL2.out hi4 HDd.out HF.out).mono ?_; rintro e w' ⟨rfl, hFr, hM⟩; have kc := bel_cells hFr HSS.out HZ2.out hb0 hb1 hc0 hc1))
          have HE : Hid (L2 hs locs del (B1 + 1) B1 (i + 1) w') := hM
          have HB3 : Hid (Below B1 w6 w') := HB2.out.trans (hFr.below HSS.out HZ2.out)
          clear hM hFr kc
          go_wp2
          go_roundw
          case rel => exact ⟨i + 1, by omega, by go_num, HE, HB3⟩
          case measure => simp [intOf]; omega
    · have hik : i = k := by omega
      subst hik
      clear HFit
      obtain ⟨T, n, hI, hn, hC, hcn⟩ := hL.out
      have HI : Hid (IxAt wr (B1 + 1) B1 0 (fixIx n T)) := hI
      have HC : Hid (Cont T 8192 (lastM hs locs del i)) := hC
      have HS : Hid (Shape (fixIx n T)) := fix_shape (by omega)
      clear hI hC hL hn
      go_wp2_with fail
      refine (fix_hasOld HI.out).mono ?_
      rintro e wa ⟨rfl, rfl⟩
      go_wp2_with fail
      refine (fix_len HI.out).mono ?_
      rintro e wb ⟨rfl, rfl⟩
      have U0 : Hid (SlU wb B1 a0' l0 hs) := T0.out.below hB.out
      have U1 : Hid (SlU wb B1 a1' l1 locs) := T1.out.below hB.out
      have U2 : Hid (SlB wb B1 a2' l2 g) := T2.out.below hB.out
      clear T0 T1 T2
      go_wp2_with fail
      go_loopw [14] (fun v wr => ∃ j : Nat, j ≤ i ∧ v = .int .i64 j ∧ Hid (Below wb.heap.size wb wr)) (fun v _ => i - (intOf v).toNat)
      case atStart => exact ⟨0, Nat.zero_le _, rfl, Below.refl _ _⟩
      case round =>
        obtain ⟨j, hj, rfl, hBr⟩ := hrel
        have V0 : Hid (SlU wr B1 a0' l0 hs) := U0.out.below (hBr.out.mono HZ.out)
        have V1 : Hid (SlU wr B1 a1' l1 locs) := U1.out.below (hBr.out.mono HZ.out)
        have V2 : Hid (SlB wr B1 a2' l2 g) := U2.out.below (hBr.out.mono HZ.out)
        have HI2 : Hid (IxAt wr (B1 + 1) B1 0 (fixIx n T)) := HI.out.ext hBr.out
        have HZr : Hid (B1 ≤ wr.heap.size) := Nat.le_trans HZ.out hBr.out.size
        by_cases hjl : j < i
        · obtain ⟨b0, o0, ea, hb0, hc0⟩ := V0.out j (by omega)
          have HCL : Hid (Calls Try.prog 20 #[.slice a0' l0 l0, .slice a1' l1 l1, .slice a2' l2 l2, .int .i64 (i : Int), .int .u64 ((hs j : Nat) : Int)] wr fun e w' => e = .returned (lastV (lastM hs locs del i (hs j))) ∧ w' = wr) :=
            lastOp_any a0' a1' a2' l0 l0 l1 l1 l2 l2 i _ (hs j) hs locs g del wr V0.out V1.out V2.out hk0 hk1 (by omega) (by omega) (by omega) HDel.out
          have hil0 : (j : Int) < (l0 : Int) := by omega
          subst ea
          go_wp2_with fail
          refine HCL.out.mono ?_
          rintro e w2 ⟨rfl, rfl⟩
          clear HCL
          have hmg := HC.out.nog (hs j)
          generalize hm : lastM hs locs del i (hs j) = m at *
          have HM : Hid (lastM hs locs del i (hs j) = m) := hm
          have HG : Hid (m < gone) := hmg
          clear hm hmg
          by_cases hz : m = 0
          · subst hz
            have e1 : lastV 0 = .tuple #[.int .u64 0, .bool false] := rfl
            rw [e1]; clear e1
            go_wp2_with fail
            refine (lookup_any HI2.out HS.out (hs j)).mono ?_
            rintro e w3 ⟨hb3, m', rfl, hlk⟩
            have hm' : m' = 0 := (fix_look HC.out hlk).trans HM.out
            subst hm'
            have HB3 : Hid (Below wb.heap.size wb w3) := hBr.out.trans (hb3.mono hBr.out.size)
            clear hb3 hlk
            rw [lookV_zero]
            go_wp2
            go_roundw
            case rel => exact ⟨j + 1, by omega, by go_num, HB3⟩
            case measure => simp [intOf]; omega
          · have e1 : lastV m = .tuple #[.int .u64 ((m - 1 : Nat) : Int), .bool true] := by
              have : (m == 0) = false := by simp [hz]
              simp [lastV, this]
            rw [e1]; clear e1
            have HZm : Hid (m ≠ 0) := hz
            have hwr : IntKind.u64.wrap (((m - 1 : Nat) : Int) + 1) = (m : Int) := by
              have := HG.out; unfold gone at this
              rw [IntKind.wrap_u64]; omega
            clear hz
            generalize hm1 : ((m - 1 : Nat) : Int) = m1 at *
            clear hm1
            go_wp2_with fail
            refine (lookup_any HI2.out HS.out (hs j)).mono ?_
            rintro e w3 ⟨hb3, m', rfl, hlk⟩
            have hm' : m' = m := (fix_look HC.out hlk).trans HM.out
            subst hm'
            have HB3 : Hid (Below wb.heap.size wb w3) := hBr.out.trans (hb3.mono hBr.out.size)
            clear hb3 hlk
            rw [lookV_pos HZm.out]
            go_wp2
            go_roundw
            case rel => exact ⟨j + 1, by omega, by go_num, HB3⟩
            case measure => simp [intOf]; omega
        · go_wp2_with fail
          refine (occupied_any HI2.out (show (8192 : Nat) ≤ 16384 by decide)).mono ?_
          rintro e w3 ⟨rfl, hb3⟩
          have HB3 : Hid (Below wb.heap.size wb w3) := hBr.out.trans (hb3.mono hBr.out.size)
          have X0 : Hid (SlU w3 B1 a0' l0 hs) := V0.out.below (hb3.mono HZr.out)
          have X1 : Hid (SlU w3 B1 a1' l1 locs) := V1.out.below (hb3.mono HZr.out)
          have X2 : Hid (SlB w3 B1 a2' l2 g) := V2.out.below (hb3.mono HZr.out)
          have HI3 : Hid (IxAt w3 (B1 + 1) B1 0 (fixIx n T)) := HI2.out.ext hb3
          have HZ3 : Hid (B1 ≤ w3.heap.size) := Nat.le_trans HZr.out hb3.size
          clear hb3 V0 V1 V2
          have hpe : cnt (occB (fixIx n T).P) (fixIx n T).sz = cnt (presB hs locs del i) i := present_eq HC.out
          rw [hpe]
          clear hpe
          go_wp2_with fail
          refine (present_any _ _ _ _ _ _ _ _ _ _ _ hs locs g del _ X0.out X1.out X2.out hk0 hk1 (by omega) (by omega) (by omega) HDel.out HZ3.out).mono ?_
          rintro e w4 ⟨rfl, hb4⟩
          have HB4 : Hid (Below wb.heap.size wb w4) := HB3.out.trans (hb4.mono HB3.out.size)
          have HI4 : Hid (IxAt w4 (B1 + 1) B1 0 (fixIx n T)) := HI3.out.ext hb4
          clear hb4
          generalize cnt (presB hs locs del i) i = cc at *
          go_wp2_with fail
          refine (reachable_any HI4.out HS.out ?_).mono ?_
          · intro q r hq ho hr
            have hr' : IsProbe (stopF T (T q).1) 8192 ((T q).1 % 8192) r := hr
            have ho' : (T q).2 ≠ 0 := ho
            by_cases hz : (T r).2 = 0
            · exact absurd (HC.out.inv.absent hr' hz q hq rfl ho') (HC.out.nogone q hq)
            · exact HC.out.inv.uniq r q hr'.lt hq hz ho' (cont_found HC.out hr' hz).1
          · rintro e w5 ⟨rfl, hb5⟩
            have HB5 : Hid (Below wb.heap.size wb w5) := HB4.out.trans (hb5.mono HB4.out.size)
            clear hb5
            go_wp2
            go_ret
            exact ⟨rfl, (B6.out.trans (hB.out.mono (by have := B6.out.size; rw [HEB.out] at this; exact this))).trans (HB5.out.mono (by have h1 := B6.out.size; have h2 := hB.out.size; omega))⟩

end Go.Proofs.Qxb6601018a
