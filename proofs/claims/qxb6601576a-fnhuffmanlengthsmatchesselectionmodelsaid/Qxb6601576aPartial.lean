/-
  partialInsertionSortOrdered at uint64.
-/
import Derived.Test.Qxb6601576aIns
import Derived.Test.Qxb6601576aPdqP
import Derived.Deep.CutBlock
import Derived.Deep.DeepCutAuto
set_option linter.unusedVariables false
namespace Go.Proofs.Qxb6601576a
open Go.RowKit

theorem sorted_up {E : Row} {a i : Nat} (h : SortedR E a i) (ha : a < i) (hx : E (i - 1) ≤ E i) : SortedR E a (i + 1) := by
  intro p q h1 h2 h3
  by_cases e : q = i
  · subst e
    by_cases e2 : p = q - 1
    · subst e2; exact hx
    · exact Int.le_trans (h p (q - 1) h1 (by omega) (by omega)) hx
  · exact h p q h1 h2 (by omega)

theorem sorted_swap_high {E : Row} {a i x y : Nat} (h : SortedR E a i) (hx : i ≤ x) (hy : i ≤ y) : SortedR (swp E x y) a i := by
  intro p q h1 h2 h3
  simp only [swp]
  rw [if_neg (by omega), if_neg (by omega), if_neg (by omega), if_neg (by omega)]
  exact h p q h1 h2 h3

/-- the answer of partialInsertionSort -/
def PartialR (e : Ending) (w w' : World) (blk off n a b : Nat) (D : Row) : Prop :=
  ∃ (D' : Row) (c : Bool), e = .returned (.bool c) ∧ Left w w' blk off n D D' a b ∧ (c = true → SortedR D' a b)

set_option maxRecDepth 100000 in
set_option maxHeartbeats 32000000 in
theorem partialInsertion_u64 (blk off n cap a b : Nat) (D : Row) (w : World) (hR : RowAt .u64 w blk off n D) (hA : Ahead D a b) (hab : a < b) (hb : b ≤ n) (hn : n ≤ 1000) :
    Calls Try.prog 44 #[.slice (some ⟨blk, off, none⟩) n cap, .int .i64 a, .int .i64 b] w fun e w' => PartialR e w w' blk off n a b D := by
  have HL : Hid (Left w w blk off n D D a b) := Left.start hR
  have HA : Hid (Ahead D a b) := hA
  clear hR hA
  go_enter Try.func44, Try.ntmps44
  go_wp2_with fail
  go_loopw [7, 8] (fun vi vc wr => ∃ (i c : Nat) (E : Row), vi = .int .i64 i ∧ vc = .int .i64 c ∧ c ≤ 5 ∧ a < i ∧ i ≤ b ∧ Left w wr blk off n D E a b ∧ SortedR E a i) (fun vi vc _ => 5 - (intOf vc).toNat)
  case atStart => exact ⟨a + 1, 0, D, by go_num, rfl, by omega, by omega, by omega, HL.out, fun p q h1 h2 h3 => by omega⟩
  case round =>
    obtain ⟨i0, c, E, rfl, rfl, hc, hai, hib, hL, hS⟩ := hrel
    have HL1 : Hid (Left w wr blk off n D E a b) := hL
    have HS1 : Hid (SortedR E a i0) := hS
    clear hL hS
    by_cases hc5 : c < 5
    · have hc5i : (c : Int) < 5 := by omega
      go_upto_block 2 with fail
      go_cut [7] (fun vi wc => ∃ i : Nat, vi = .int .i64 i ∧ a < i ∧ i ≤ b ∧ Left w wc blk off n D E a b ∧ SortedR E a i)
      case first =>
        go_wp2_with fail
        go_loopw [7] (fun vi wr => ∃ i : Nat, vi = .int .i64 i ∧ a < i ∧ i ≤ b ∧ Left w wr blk off n D E a b ∧ SortedR E a i) (fun vi _ => b - (intOf vi).toNat)
        case atStart => exact ⟨i0, rfl, hai, hib, HL1.out, HS1.out⟩
        case round =>
          obtain ⟨i, rfl, hai2, hib2, hL, hS⟩ := hrel
          have hcw := hL.row.cell
          have hfw := hL.row.fz
          have HL2 : Hid (Left w wr blk off n D E a b) := hL
          have HS2 : Hid (SortedR E a i) := hS
          clear hL hS
          go_wp2_with fail
          by_cases hlt : i < b
          · go_big_quiet (first | (go_at_call 45; refine Calls.quiet_of_same (less_u64 _ _ _)))
            go_wp2_with fail
            · have ht : (!decide (E i < E (i - 1))) = true := by assumption
              have ht2 : E (i - 1) ≤ E i := by simpa using ht
              go_roundw
              case rel => exact ⟨i + 1, by go_num, by omega, by omega, HL2.out.drewN nq, sorted_up HS2.out hai2 ht2⟩
              case measure => simp [intOf]; omega
            · go_meet
              case rel => exact ⟨i, rfl, hai2, hib2, HL2.out.drewN nq, HS2.out⟩
          · go_big_quiet (first | (go_at_call 45; refine Calls.quiet_of_same (less_u64 _ _ _)))
            go_wp2_with fail
            go_meet
            case rel => exact ⟨i, rfl, hai2, hib2, HL2.out.drewN nq, HS2.out⟩
      case rest =>
        obtain ⟨i, rfl, hai2, hib2, hL, hS⟩ := hcut
        clear HL1 HS1
        have hcw := hL.row.cell
        have hfw := hL.row.fz
        have HL2 : Hid (Left w wc blk off n D E a b) := hL
        have HS2 : Hid (SortedR E a i) := hS
        clear hL hS
        by_cases hieq : i = b
        · have hT : SortedR E a b := by rw [← hieq]; exact HS2.out
          subst hieq
          go_wp2_with fail
          go_ret
          exact ⟨E, true, rfl, HL2.out, fun _ => hT⟩
        · have hlt : i < b := by omega
          have hbe : ((i : Int) == (b : Int)) = false := by simp; omega
          by_cases h50 : b - a < 50
          · have h50i : (b : Int) - a < 50 := by omega
            go_wp2_with fail
            go_ret
            exact ⟨E, false, rfl, HL2.out, fun h => by cases h⟩
          · have h50i : ¬ (b : Int) - a < 50 := by omega
            go_wp2_with fail
            go_region
            generalize hw3 : World.drew _ = w3
            have hl := (HL2.out.swap i (i - 1) (by omega) (by omega)).drew
            have hS3 : SortedR (swp E i (i - 1)) a (i - 1) := sorted_swap_high (fun p q h1 h2 h3 => HS2.out p q h1 h2 (by omega)) (by omega) (Nat.le_refl _)
            rw [hw3] at hl
            obtain ⟨F, hF⟩ : ∃ F, F = swp E i (i - 1) := ⟨_, rfl⟩
            rw [← hF] at hl hS3
            have HL3 : Hid (Left w w3 blk off n D F a b) := hl
            have HS3 : Hid (SortedR F a (i - 1)) := hS3
            clear hw3 hl hS3 hF hcw hfw HL2 HS2
            go_upto_if 61 with fail
            go_cut [9] (fun v9 wc => ∃ G : Row, Left w wc blk off n D G a b ∧ SortedR G a i)
            case first =>
              by_cases h2 : 2 ≤ i - a
              · have h2i : 2 ≤ (i : Int) - a := by omega
                go_wp2_with fail
                go_loopw [9] (fun vj wr => ∃ (j : Nat) (G : Row), vj = .int .i64 j ∧ j ≤ i - 1 ∧ Left w wr blk off n D G a b ∧ InsIn D G a (i - 1) j b) (fun vj _ => (intOf vj).toNat)
                case atStart => exact ⟨i - 1, F, by congr 1; omega, Nat.le_refl _, HL3.out, ins_start HL3.out.perm HS3.out (by omega)⟩
                case round =>
                  obtain ⟨j, G, rfl, hji, hL, hI⟩ := hrel
                  have hcw := hL.row.cell
                  have hfw := hL.row.fz
                  have haj := hI.haj
                  have HL4 : Hid (Left w wr blk off n D G a b) := hL
                  have HI : Hid (InsIn D G a (i - 1) j b) := hI
                  have HA2 : Hid (Ahead G a b) := HA.out.perm hL.perm
                  clear hL hI
                  by_cases hj1 : 1 ≤ j
                  · have hj1i : 1 ≤ (j : Int) := by omega
                    go_wp2_with fail
                    go_big_quiet (first | (go_at_call 45; refine Calls.quiet_of_same (less_u64 _ _ _)))
                    go_wp2_with fail
                    · have ht : (!decide (G j < G (j - 1))) = true := by assumption
                      have ht2 : ¬ G j < G (j - 1) := by simpa using ht
                      go_meet
                      case rel =>
                        refine ⟨G, HL4.out.drewN nq, ?_⟩
                        have := ins_end HI.out (by
                          rcases Nat.eq_or_lt_of_le haj with e | e
                          · exact .inl e.symm
                          · exact .inr ⟨j - 1, by omega, by omega, by rw [show j - 1 + 1 = j by omega]; exact ht2⟩)
                        rw [show i - 1 + 1 = i by omega] at this
                        exact this
                    · have ht : (!decide (G j < G (j - 1))) = false := by assumption
                      have ht2 : G j < G (j - 1) := by simpa using ht
                      have hja : a < j := by
                        rcases Nat.eq_or_lt_of_le haj with e | e
                        · exfalso
                          subst e
                          have := HA2.out a (Nat.le_refl _) (by omega) (by omega)
                          omega
                        · exact e
                      go_region
                      all_goals go_wp2_with fail
                      go_roundw
                      case rel =>
                        refine ⟨j - 1, swp G j (j - 1), by congr 1; omega, by omega, (HL4.out.drewN (nq + 1)).swap j (j - 1) (by omega) (by omega), ?_⟩
                        obtain ⟨m, rfl⟩ : ∃ m, j = m + 1 := ⟨j - 1, by omega⟩
                        exact ins_step HI.out (by omega) (by omega) ht2
                      case measure => simp [intOf]; omega
                  · have hj1i : ¬ 1 ≤ (j : Int) := by omega
                    go_wp2_with fail
                    go_meet
                    case rel =>
                      refine ⟨G, HL4.out, ?_⟩
                      have := ins_end HI.out (.inl (by omega))
                      rw [show i - 1 + 1 = i by omega] at this
                      exact this
              · have h2i : ¬ 2 ≤ (i : Int) - a := by omega
                go_wp2_with fail
                go_meet
                case rel => exact ⟨F, HL3.out, fun p q h1 h2 h3 => by omega⟩
            case rest =>
              obtain ⟨G, hL, hS⟩ := hcut
              have HL4 : Hid (Left w wc blk off n D G a b) := hL
              have HS4 : Hid (SortedR G a i) := hS
              clear hL hS HL3 HS3
              by_cases h2 : 2 ≤ b - i
              · have h2i : 2 ≤ (b : Int) - i := by omega
                go_wp2_with fail
                go_loopw [10] (fun vj wr => ∃ (j : Nat) (H : Row), vj = .int .i64 j ∧ i < j ∧ j ≤ b ∧ Left w wr blk off n D H a b ∧ SortedR H a i) (fun vj _ => b - (intOf vj).toNat)
                case atStart => exact ⟨i + 1, G, by go_num, by omega, by omega, HL4.out, HS4.out⟩
                case round =>
                  obtain ⟨j, H, rfl, hij, hjb, hL, hS⟩ := hrel
                  have hcw := hL.row.cell
                  have hfw := hL.row.fz
                  have HL5 : Hid (Left w wr blk off n D H a b) := hL
                  have HS5 : Hid (SortedR H a i) := hS
                  clear hL hS HL4 HS4
                  by_cases hjlt : j < b
                  · have hjlti : (j : Int) < b := by omega
                    go_wp2_with fail
                    go_big_quiet (first | (go_at_call 45; refine Calls.quiet_of_same (less_u64 _ _ _)))
                    go_wp2_with fail
                    · go_roundw
                      case rel => exact ⟨i, c + 1, H, rfl, by go_num, by omega, hai2, hib2, HL5.out.drewN nq, HS5.out⟩
                      case measure => simp [intOf]; omega
                    · go_region
                      all_goals go_wp2_with fail
                      go_roundw
                      case rel => exact ⟨j + 1, swp H j (j - 1), by go_num, by omega, by omega, (HL5.out.drewN (nq + 1)).swap j (j - 1) (by omega) (by omega), sorted_swap_high HS5.out (by omega) (by omega)⟩
                      case measure => simp [intOf]; omega
                  · have hjlti : ¬ (j : Int) < b := by omega
                    go_wp2_with fail
                    go_roundw
                    case rel => exact ⟨i, c + 1, H, rfl, by go_num, by omega, hai2, hib2, HL5.out, HS5.out⟩
                    case measure => simp [intOf]; omega
              · have h2i : ¬ 2 ≤ (b : Int) - i := by omega
                go_wp2_with fail
                go_roundw
                case rel => exact ⟨i, c + 1, G, rfl, by go_num, by omega, hai2, hib2, HL4.out, HS4.out⟩
                case measure => simp [intOf]; omega
    · have hc5i : ¬ (c : Int) < 5 := by omega
      go_wp2_with fail
      go_ret
      exact ⟨E, false, rfl, HL1.out, fun h => by cases h⟩

end Go.Proofs.Qxb6601576a
