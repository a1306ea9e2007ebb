/-
  siftDownOrdered and heapSortOrdered at uint64.
-/
import Derived.Test.Qxb6601576aIns
import Derived.Test.Qxb6601576aHeapP
set_option linter.unusedVariables false
namespace Go.Proofs.Qxb6601576a
open Go.RowKit

set_option maxHeartbeats 16000000 in
theorem siftDown_u64 (blk off n cap lo hi f : Nat) (D : Row) (w : World) (hR : RowAt .u64 w blk off n D) (hb : f + hi ≤ n) (hn : n ≤ 1000) (hlo : lo ≤ n) (hH : HeapR D f (lo + 1) hi) :
    Calls Try.prog 50 #[.slice (some ⟨blk, off, none⟩) n cap, .int .i64 lo, .int .i64 hi, .int .i64 f] w fun e w' =>
      e = .returned (.tuple #[]) ∧ ∃ D', Left w w' blk off n D D' f (f + hi) ∧ HeapR D' f lo hi := by
  have HH : Hid (HeapR D f (lo + 1) hi) := hH
  clear hH
  go_enter Try.func50, Try.ntmps50
  go_wp2_with fail
  go_loopw [8] (fun vi wr => ∃ (r : Nat) (E : Row), vi = .int .i64 r ∧ r ≤ 1000 ∧ Left w wr blk off n D E f (f + hi) ∧ SiftIn E f lo hi r) (fun vi _ => 1001 - (intOf vi).toNat)
  case atStart => exact ⟨lo, D, by go_num, by omega, Left.start hR, sift_start HH.out⟩
  case round =>
    obtain ⟨r, E, rfl, hr, hL, hS⟩ := hrel
    have hcw := hL.row.cell
    have hfw := hL.row.fz
    have HL : Hid (Left w wr blk off n D E f (f + hi)) := hL
    have HS : Hid (SiftIn E f lo hi r) := hS
    clear hL hS hR
    by_cases h1 : hi ≤ 2 * r + 1
    · go_wp2_with fail
      go_end0
      exact ⟨rfl, E, HL.out, sift_end HS.out (fun c hc1 hc2 hc3 => by omega)⟩
    · have h1i : ¬ ((hi : Int) ≤ 2 * (r : Int) + 1) := by omega
      go_wp2_with fail
      by_cases h2 : 2 * r + 1 + 1 < hi
      · have h2i : (2 * (r : Int) + 1 + 1 < hi) := by omega
        go_big_quiet (first | (go_at_call 45; refine Calls.quiet_of_same (less_u64 _ _ _)))
        go_wp2_with fail
        · have hsb : E (f + (2 * r + 1)) < E (f + (2 * r + 2)) := by assumption
          obtain ⟨w2, ew2⟩ : ∃ w2, w2 = wr.drewN nq := ⟨_, rfl⟩
          have HL2 : Hid (Left w w2 blk off n D E f (f + hi)) := by rw [ew2]; exact HL.out.drewN nq
          have hcw2 := HL2.out.row.cell
          have hfw2 := HL2.out.row.fz
          rw [← ew2]
          clear ew2 hcw hfw nq
          have hsib : ∀ c, 0 < c → c < hi → (c - 1) / 2 = r → E (f + c) ≤ E (f + (2 * r + 2)) := by
            intro c hc1 hc2 hc3
            have : c = 2 * r + 1 ∨ c = 2 * r + 2 := by omega
            rcases this with e | e
            · subst e; exact Int.le_of_lt hsb
            · subst e; exact Int.le_refl _
          have HB : Hid _ := hsib
          clear hsib
          go_wp2_with fail
          go_big_quiet (first | (go_at_call 45; refine Calls.quiet_of_same (less_u64 _ _ _)))
          go_wp2_with fail
          · have hl : (!decide (E (f + r) < E (f + (2 * r + 2)))) = true := by assumption
            have hl2 : ¬ E (f + r) < E (f + (2 * r + 2)) := by simpa using hl
            have HQ : Hid _ := hl2
            clear hl hl2
            exact bodyPost_ret (results_none Try.results50 _ _ _) rfl ⟨rfl, E, HL2.out.drewN nq, sift_end HS.out (fun c hc1 hc2 hc3 => Int.le_trans (HB.out c hc1 hc2 hc3) (Int.not_lt.1 HQ.out))⟩
          · have hl : (!decide (E (f + r) < E (f + (2 * r + 2)))) = false := by assumption
            have hl2 : E (f + r) < E (f + (2 * r + 2)) := by simpa using hl
            go_region
            all_goals go_wp2_with fail
            go_roundw
            case rel =>
              refine ⟨(2 * r + 2), swp E (f + r) (f + (2 * r + 2)), by go_num, by omega, ?_, ?_⟩
              · exact (HL2.out.drewN (nq + 1)).swap (f + r) (f + (2 * r + 2)) (by omega) (by omega)
              · exact sift_step HS.out (by omega) (by omega) (by omega) HB.out hl2
            case measure => simp [intOf]; omega
        · have hsb : E (f + (2 * r + 2)) ≤ E (f + (2 * r + 1)) := by assumption
          obtain ⟨w2, ew2⟩ : ∃ w2, w2 = wr.drewN nq := ⟨_, rfl⟩
          have HL2 : Hid (Left w w2 blk off n D E f (f + hi)) := by rw [ew2]; exact HL.out.drewN nq
          have hcw2 := HL2.out.row.cell
          have hfw2 := HL2.out.row.fz
          rw [← ew2]
          clear ew2 hcw hfw nq
          have hsib : ∀ c, 0 < c → c < hi → (c - 1) / 2 = r → E (f + c) ≤ E (f + (2 * r + 1)) := by
            intro c hc1 hc2 hc3
            have : c = 2 * r + 1 ∨ c = 2 * r + 2 := by omega
            rcases this with e | e
            · subst e; exact Int.le_refl _
            · subst e; exact hsb
          have HB : Hid _ := hsib
          clear hsib
          go_wp2_with fail
          go_big_quiet (first | (go_at_call 45; refine Calls.quiet_of_same (less_u64 _ _ _)))
          go_wp2_with fail
          · have hl : (!decide (E (f + r) < E (f + (2 * r + 1)))) = true := by assumption
            have hl2 : ¬ E (f + r) < E (f + (2 * r + 1)) := by simpa using hl
            have HQ : Hid _ := hl2
            clear hl hl2
            exact bodyPost_ret (results_none Try.results50 _ _ _) rfl ⟨rfl, E, HL2.out.drewN nq, sift_end HS.out (fun c hc1 hc2 hc3 => Int.le_trans (HB.out c hc1 hc2 hc3) (Int.not_lt.1 HQ.out))⟩
          · have hl : (!decide (E (f + r) < E (f + (2 * r + 1)))) = false := by assumption
            have hl2 : E (f + r) < E (f + (2 * r + 1)) := by simpa using hl
            go_region
            all_goals go_wp2_with fail
            go_roundw
            case rel =>
              refine ⟨(2 * r + 1), swp E (f + r) (f + (2 * r + 1)), by go_num, by omega, ?_, ?_⟩
              · exact (HL2.out.drewN (nq + 1)).swap (f + r) (f + (2 * r + 1)) (by omega) (by omega)
              · exact sift_step HS.out (by omega) (by omega) (by omega) HB.out hl2
            case measure => simp [intOf]; omega
      · have h2i : ¬ (2 * (r : Int) + 1 + 1 < hi) := by omega
        go_big_quiet (first | (go_at_call 45; refine Calls.quiet_of_same (less_u64 _ _ _)))
        go_wp2_with fail
        obtain ⟨w2, ew2⟩ : ∃ w2, w2 = wr.drewN nq := ⟨_, rfl⟩
        have HL2 : Hid (Left w w2 blk off n D E f (f + hi)) := by rw [ew2]; exact HL.out.drewN nq
        have hcw2 := HL2.out.row.cell
        have hfw2 := HL2.out.row.fz
        rw [← ew2]
        clear ew2 hcw hfw nq
        have hsib : ∀ c, 0 < c → c < hi → (c - 1) / 2 = r → E (f + c) ≤ E (f + (2 * r + 1)) := by
          intro c hc1 hc2 hc3
          have : c = 2 * r + 1 := by omega
          subst this; exact Int.le_refl _
        have HB : Hid _ := hsib
        clear hsib
        go_wp2_with fail
        go_big_quiet (first | (go_at_call 45; refine Calls.quiet_of_same (less_u64 _ _ _)))
        go_wp2_with fail
        · have hl : (!decide (E (f + r) < E (f + (2 * r + 1)))) = true := by assumption
          have hl2 : ¬ E (f + r) < E (f + (2 * r + 1)) := by simpa using hl
          have HQ : Hid _ := hl2
          clear hl hl2
          exact bodyPost_ret (results_none Try.results50 _ _ _) rfl ⟨rfl, E, HL2.out.drewN nq, sift_end HS.out (fun c hc1 hc2 hc3 => Int.le_trans (HB.out c hc1 hc2 hc3) (Int.not_lt.1 HQ.out))⟩
        · have hl : (!decide (E (f + r) < E (f + (2 * r + 1)))) = false := by assumption
          have hl2 : E (f + r) < E (f + (2 * r + 1)) := by simpa using hl
          go_region
          all_goals go_wp2_with fail
          go_roundw
          case rel =>
            refine ⟨(2 * r + 1), swp E (f + r) (f + (2 * r + 1)), by go_num, by omega, ?_, ?_⟩
            · exact (HL2.out.drewN (nq + 1)).swap (f + r) (f + (2 * r + 1)) (by omega) (by omega)
            · exact sift_step HS.out (by omega) (by omega) (by omega) HB.out hl2
          case measure => simp [intOf]; omega

theorem half_i64 {a b : Nat} (hab : a ≤ b) : ((b : Int) - (a : Int) - 1).tdiv 2 = (((b - a - 1) / 2 + 1 : Nat) : Int) - 1 := by
  rcases Nat.lt_or_ge a b with h | h
  · rw [Int.tdiv_eq_ediv_of_nonneg (by omega)]
    omega
  · have : b = a := by omega
    subst this
    rw [show (b : Int) - (b : Int) - 1 = -1 by omega]
    simp

/-- what holds behind the swap of the root with the last -/
structure Swapped (F : Row) (a k b : Nat) : Prop where
  heap : HeapR F a 1 k
  sorted : SortedR F (a + k) b
  parted : ∀ p q, a ≤ p → p < a + k → a + k ≤ q → q < b → F p ≤ F q

set_option maxHeartbeats 16000000 in
theorem heapSort_u64 (blk off n cap a b : Nat) (D : Row) (w : World) (hR : RowAt .u64 w blk off n D) (hab : a ≤ b) (hb : b ≤ n) (hn : n ≤ 1000) :
    Calls Try.prog 40 #[.slice (some ⟨blk, off, none⟩) n cap, .int .i64 a, .int .i64 b] w fun e w' =>
      e = .returned (.tuple #[]) ∧ ∃ D', Left w w' blk off n D D' a b ∧ SortedR D' a b := by
  have ecast : ((b - a : Nat) : Int) = (b : Int) - (a : Int) := by omega
  go_enter Try.func40, Try.ntmps40
  go_wp2_with fail
  go_loopg [9] ((b - a - 1) / 2 + 1) (fun gk s9 wr => s9 = .int .i64 ((gk : Int) - 1) ∧ gk ≤ (b - a - 1) / 2 + 1 ∧ ∃ E : Row, Left w wr blk off n D E a b ∧ HeapR E a gk (b - a))
  case atStart => exact ⟨by rw [half_i64 hab], Nat.le_refl _, D, Left.start hR, fun c h1 h2 h3 => by omega⟩
  case round =>
    obtain ⟨rfl, hkk, E, hL, hH⟩ := hrel
    have HL : Hid (Left w wr blk off n D E a b) := hL
    have HH : Hid (HeapR E a gk (b - a)) := hH
    clear hL hH
    cases gk with
    | zero =>
      clear hkk
      go_wp2_with fail
      go_loopg [10] (b - a) (fun gk s10 wr2 => s10 = .int .i64 ((gk : Int) - 1) ∧ gk ≤ b - a ∧ ∃ E2 : Row, Left w wr2 blk off n D E2 a b ∧ PopIn E2 a gk b)
      case atStart => exact ⟨by rw [ecast], Nat.le_refl _, E, HL.out, pop_start HH.out hab⟩
      case round =>
        obtain ⟨rfl, hkk, E2, hL2, hP⟩ := hrel
        have hcw := hL2.row.cell
        have hfw := hL2.row.fz
        have HL2 : Hid (Left w wr blk off n D E2 a b) := hL2
        have HP : Hid (PopIn E2 a gk b) := hP
        clear hL2 hP
        cases gk with
        | zero =>
          go_wp2_with fail
          go_end0
          exact ⟨rfl, E2, HL2.out, pop_end HP.out⟩
        | succ k =>
          have sw : Swapped (swp E2 a (a + k)) a k b := by
            have := pop_swap HP.out (by omega)
            exact ⟨this.1, this.2.1, this.2.2⟩
          have HW : Hid _ := sw
          clear sw
          rcases Nat.eq_zero_or_pos k with hk0 | hkp
          · subst hk0
            have hL3 := HL2.out.swap a (a + 0) (by omega) (by omega)
            go_wp2_with fail
            go_region
            go_wp2_with fail
            refine (siftDown_u64 blk off n cap 0 0 a _ _ (hL3.drew).row (by omega) hn (by omega) HW.out.heap).mono ?_
            rintro e w1 ⟨rfl, E', hL', hH'⟩
            go_wp2_with fail
            go_roundg 0
            case measure => omega
            case rel =>
              refine ⟨by simp, by omega, E', hL3.drew.trans (hL'.mono (Nat.le_refl _) (by omega)), ?_⟩
              exact pop_next hL'.perm hH' HW.out.sorted HW.out.parted
          · have hL3 := HL2.out.swap a (a + k) (by omega) (by omega)
            go_wp2_with fail
            go_region
            go_wp2_with fail
            refine (siftDown_u64 blk off n cap 0 k a _ _ (hL3.drew).row (by omega) hn (by omega) HW.out.heap).mono ?_
            rintro e w1 ⟨rfl, E', hL', hH'⟩
            go_wp2_with fail
            go_roundg k
            case measure => omega
            case rel =>
              refine ⟨by simp, by omega, E', hL3.drew.trans (hL'.mono (Nat.le_refl _) (by omega)), ?_⟩
              exact pop_next hL'.perm hH' HW.out.sorted HW.out.parted
    | succ k =>
      have hcall := siftDown_u64 blk off n cap k (b - a) a E wr HL.out.row (by omega) hn (by omega) HH.out
      rw [ecast] at hcall
      go_wp2_with (go_at_call 50; refine hcall.mono ?_; rintro e w1 ⟨rfl, E', hL', hH'⟩)
      go_roundg k
      case measure => omega
      case rel =>
        rw [show a + (b - a) = b by omega] at hL'
        exact ⟨by simp, by omega, E', HL.out.trans hL', hH'⟩

end Go.Proofs.Qxb6601576a
