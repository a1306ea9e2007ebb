/-
  insertionSortOrdered and reverseRangeOrdered at uint64.
-/
import Derived.Test.Qxb6601576aBase
set_option linter.unusedVariables false
namespace Go.Proofs.Qxb6601576a
open Go.RowKit

/-- what is left of a row behind a call that permutes it -/
structure Left (w w' : World) (blk off n : Nat) (D D' : Row) (a b : Nat) : Prop where
  row : RowAt .u64 w' blk off n D'
  fr : Fr [blk] w w'
  perm : PermR D D' a b

theorem Left.start {w : World} {blk off n a b : Nat} {D : Row} (h : RowAt .u64 w blk off n D) : Left w w blk off n D D a b := ⟨h, Fr.refl _ _, PermR.refl _ _ _⟩
theorem Left.drewN {w w' : World} {blk off n a b : Nat} {D D' : Row} (h : Left w w' blk off n D D' a b) (m : Nat) : Left w (w'.drewN m) blk off n D D' a b := ⟨h.row.drewN m, h.fr.drewN m, h.perm⟩
theorem Left.drew {w w' : World} {blk off n a b : Nat} {D D' : Row} (h : Left w w' blk off n D D' a b) : Left w w'.drew blk off n D D' a b := ⟨h.row.drew, h.fr.drew, h.perm⟩
theorem Left.swap {w w' : World} {blk off n a b : Nat} {D D' : Row} (h : Left w w' blk off n D D' a b) (i j : Nat) (hi : a ≤ i ∧ i < b) (hj : a ≤ j ∧ j < b) :
    Left w ((w'.setCell ⟨blk, off + i, none⟩ (.int .u64 (D' j))).setCell ⟨blk, off + j, none⟩ (.int .u64 (D' i))) blk off n D (swp D' i j) a b :=
  ⟨h.row.swap i j, (h.fr.setCell (.inl (by simp)) _).setCell (.inl (by simp)) _, h.perm.trans (PermR.swap _ hi hj)⟩
theorem Left.trans {w w' w'' : World} {blk off n a b : Nat} {D D' D'' : Row} (h : Left w w' blk off n D D' a b) (k : Left w' w'' blk off n D' D'' a b) : Left w w'' blk off n D D'' a b :=
  ⟨k.row, h.fr.trans' k.fr, h.perm.trans k.perm⟩
theorem Left.mono {w w' : World} {blk off n a b a' b' : Nat} {D D' : Row} (h : Left w w' blk off n D D' a b) (ha : a' ≤ a) (hb : b ≤ b') : Left w w' blk off n D D' a' b' := ⟨h.row, h.fr, h.perm.mono ha hb⟩

set_option maxHeartbeats 8000000 in
theorem insertionSort_u64 (blk off n cap a b : Nat) (D : Row) (w : World) (hR : RowAt .u64 w blk off n D) (hab : a ≤ b) (hb : b ≤ n) (hn : n ≤ 1000) :
    Calls Try.prog 39 #[.slice (some ⟨blk, off, none⟩) n cap, .int .i64 a, .int .i64 b] w fun e w' =>
      e = .returned (.tuple #[]) ∧ ∃ D', Left w w' blk off n D D' a b ∧ SortedR D' a b := by
  go_enter Try.func39, Try.ntmps39
  go_wp2_with fail
  go_loopw [6] (fun vi wr => ∃ (i : Nat) (E : Row), vi = .int .i64 i ∧ a < i ∧ i ≤ b + 1 ∧ Left w wr blk off n D E a b ∧ SortedR E a i) (fun vi _ => b + 1 - (intOf vi).toNat)
  case atStart => exact ⟨a + 1, D, by go_num, by omega, by omega, Left.start hR, fun p q h1 h2 h3 => by omega⟩
  case round =>
    obtain ⟨i, E, rfl, hai, hib, hL, hS⟩ := hrel
    have HL : Hid (Left w wr blk off n D E a b) := hL
    have HS : Hid (SortedR E a i) := hS
    clear hL hS
    go_wp2_with fail
    · have hlt : i < b := by assumption
      go_loopw [7] (fun vj wr2 => ∃ (j : Nat) (F : Row), vj = .int .i64 j ∧ a ≤ j ∧ j ≤ i ∧ Left w wr2 blk off n D F a b ∧ InsIn D F a i j b) (fun vj _ => (intOf vj).toNat)
      case atStart => exact ⟨i, E, rfl, by omega, Nat.le_refl _, HL.out, ins_start HL.out.perm HS.out (by omega)⟩
      case round =>
        obtain ⟨j, F, rfl, haj, hji, hL2, hI⟩ := hrel
        have hcw := hL2.row.cell
        have hfw := hL2.row.fz
        have HL2 : Hid (Left w wr blk off n D F a b) := hL2
        have HI : Hid (InsIn D F a i j b) := hI
        clear hL2 hI
        go_wp2_with fail
        by_cases hja : a < j
        · go_big_quiet (first | (go_at_call 45; refine Calls.quiet_of_same (less_u64 _ _ _)))
          go_wp2_with fail
          · have hl : F j < F (j - 1) := by assumption
            go_region
            all_goals go_wp2_with fail
            go_roundw
            case rel =>
              refine ⟨j - 1, swp F j (j - 1), by congr 1; omega, by omega, by omega, ?_, ?_⟩
              · exact (HL2.out.drewN (nq + 1)).swap j (j - 1) (by omega) (by omega)
              · obtain ⟨m, rfl⟩ : ∃ m, j = m + 1 := ⟨j - 1, by omega⟩
                exact ins_step HI.out hlt (by omega) hl
            case measure => simp [intOf]; omega
          · have hl : F (j - 1) ≤ F j := by assumption
            go_roundw
            case rel =>
              refine ⟨i + 1, F, by go_num, by omega, by omega, HL2.out.drewN nq, ins_end HI.out (.inr ⟨j - 1, by omega, by omega, ?_⟩)⟩
              rw [show j - 1 + 1 = j by omega]; omega
            case measure => simp [intOf]; omega
        · go_big_quiet (first | (go_at_call 45; refine Calls.quiet_of_same (less_u64 _ _ _)))
          go_wp2_with fail
          go_roundw
          case rel => exact ⟨i + 1, F, by go_num, by omega, by omega, HL2.out.drewN nq, ins_end HI.out (.inl (by omega))⟩
          case measure => simp [intOf]; omega
    · have hge : ¬ i < b := by assumption
      go_end0
      exact ⟨rfl, E, HL.out, fun p q h1 h2 h3 => HS.out p q h1 h2 (by omega)⟩

set_option maxHeartbeats 8000000 in
theorem reverseRange_u64 (blk off n cap a b : Nat) (D : Row) (w : World) (hR : RowAt .u64 w blk off n D) (hab : a ≤ b) (hb : b ≤ n) (hn : n ≤ 1000) :
    Calls Try.prog 43 #[.slice (some ⟨blk, off, none⟩) n cap, .int .i64 a, .int .i64 b] w fun e w' =>
      e = .returned (.tuple #[]) ∧ ∃ D', Left w w' blk off n D D' a b := by
  go_enter Try.func43, Try.ntmps43
  go_wp2_with fail
  go_loopw [6, 7] (fun vi vj wr => ∃ (i : Nat) (j : Nat) (E : Row), vi = .int .i64 i ∧ vj = .int .i64 ((j : Int) - 1) ∧ a ≤ i ∧ j ≤ b ∧ Left w wr blk off n D E a b) (fun vi vj _ => n + 1 - (intOf vi).toNat)
  case atStart => exact ⟨a, b, D, by go_num, by go_num, by omega, by omega, Left.start hR⟩
  case round =>
    obtain ⟨i, j, E, rfl, rfl, hai, hjb, hL⟩ := hrel
    have hcw := hL.row.cell
    have hfw := hL.row.fz
    have HL : Hid (Left w wr blk off n D E a b) := hL
    clear hL
    rcases Nat.eq_zero_or_pos j with hj0 | hj0
    · subst hj0
      go_wp2_with fail
      go_end0
      exact ⟨rfl, E, HL.out⟩
    · obtain ⟨m, rfl⟩ : ∃ m, j = m + 1 := ⟨j - 1, by omega⟩
      go_wp2_with fail
      · have hlt : i < m := by omega
        go_region
        all_goals go_wp2_with fail
        go_roundw
        case rel =>
          refine ⟨i + 1, m, swp E i m, by go_num, by go_num, by omega, by omega, ?_⟩
          exact (HL.out.swap i m (by omega) (by omega)).drew
        case measure => simp [intOf]; omega
      · go_end0
        exact ⟨rfl, E, HL.out⟩

end Go.Proofs.Qxb6601576a
