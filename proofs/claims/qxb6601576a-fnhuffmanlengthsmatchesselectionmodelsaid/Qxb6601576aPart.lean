/-
  partitionEqualOrdered and partitionOrdered at uint64.
-/
import Derived.Test.Qxb6601576aIns
import Derived.Test.Qxb6601576aPartP
import Derived.Deep.CutBlock
import Derived.Deep.DeepCutAuto
set_option linter.unusedVariables false
namespace Go.Proofs.Qxb6601576a
open Go.RowKit

set_option maxHeartbeats 16000000 in
theorem partitionEqual_u64 (blk off n cap a b p : Nat) (D : Row) (w : World) (hR : RowAt .u64 w blk off n D) (hap : a ≤ p) (hpb : p < b) (hb : b ≤ n) (hn : n ≤ 1000) :
    Calls Try.prog 46 #[.slice (some ⟨blk, off, none⟩) n cap, .int .i64 a, .int .i64 b, .int .i64 p] w fun e w' =>
      ∃ (D' : Row) (m : Nat), e = .returned (.int .i64 m) ∧ Left w w' blk off n D D' a b ∧ EqParted D' a m b (D p) := by
  have hcw := hR.cell
  have hfw := hR.fz
  have HL : Hid (Left w w blk off n D D a b) := Left.start hR
  clear hR
  go_enter Try.func46, Try.ntmps46
  go_upto_region 1 with fail
  go_cut [] (fun wc => Left w wc blk off n D (swp D a p) a b)
  case first =>
    have hl := HL.out.swap a p (by omega) (by omega)
    rcases Nat.eq_or_lt_of_le hap with e | e
    · subst e
      go_region
      go_wp2_with fail
      go_meet
      case rel => exact hl.drew
    · go_region
      go_wp2_with fail
      go_meet
      case rel => exact hl.drew
  case rest =>
    have hP := par_start (E := D) hap hpb
    obtain ⟨E, hE⟩ : ∃ E, E = swp D a p := ⟨_, rfl⟩
    rw [← hE] at hcut hP
    have HL1 : Hid (Left w wc blk off n D E a b) := hcut
    have HP : Hid (ParIn E a b (a + 1) (b - 1) (D p)) := hP
    clear hcut hP hE hcw hfw HL
    go_wp2_with fail
    go_loopw [9, 10] (fun vi vj wr => ∃ (i j : Nat) (E : Row), vi = .int .i64 i ∧ vj = .int .i64 j ∧ j < b ∧ Left w wr blk off n D E a b ∧ ParIn E a b i j (D p)) (fun vi vj _ => b + 1 - (intOf vi).toNat)
    case atStart => exact ⟨a + 1, b - 1, E, by go_num, by congr 1; omega, by omega, HL1.out, HP.out⟩
    case round =>
      obtain ⟨i0, j0, E, rfl, rfl, hjb, hL2, hP2⟩ := hrel
      have HL2 : Hid (Left w wr blk off n D E a b) := hL2
      have HP2 : Hid (ParIn E a b i0 j0 (D p)) := hP2
      have hai := hP2.ai
      have hij0 := hP2.ij
      clear hL2 hP2
      go_upto_block 2 with fail
      go_cut [9] (fun vi wc => ∃ (i : Nat), vi = .int .i64 i ∧ i0 ≤ i ∧ Left w wc blk off n D E a b ∧ ParIn E a b i j0 (D p) ∧ (i ≤ j0 → D p < E i))
      case first =>
        go_wp2_with fail
        go_loopw [9] (fun vi wr2 => ∃ (i : Nat), vi = .int .i64 i ∧ i0 ≤ i ∧ Left w wr2 blk off n D E a b ∧ ParIn E a b i j0 (D p)) (fun vi _ => b + 1 - (intOf vi).toNat)
        case atStart => exact ⟨i0, rfl, Nat.le_refl _, HL2.out, HP2.out⟩
        case round =>
          obtain ⟨i, rfl, hi0, hL3, hP3⟩ := hrel
          have hcw := hL3.row.cell
          have hfw := hL3.row.fz
          have h3 := hP3.ij
          have HL3 : Hid (Left w wr blk off n D E a b) := hL3
          have HP3 : Hid (ParIn E a b i j0 (D p)) := hP3
          clear hL3 hP3
          go_wp2_with fail
          by_cases hij : i ≤ j0
          · go_big_quiet (first | (go_at_call 45; refine Calls.quiet_of_same (less_u64 _ _ _)))
            go_wp2_with fail
            · have ht : (!decide (E a < E i)) = true := by assumption
              have ht2 : E i ≤ D p := by
                rw [← HP3.out.piv]
                first | exact Int.le_of_lt ht | (simp at ht; exact ht)
              go_roundw
              case rel => exact ⟨i + 1, by go_num, by omega, HL3.out.drewN nq, par_up HP3.out hij ht2⟩
              case measure => simp [intOf]; omega
            · have ht : (!decide (E a < E i)) = false := by assumption
              have ht2 : D p < E i := by
                rw [← HP3.out.piv]
                first | exact ht | (simp at ht; exact ht)
              go_meet
              case rel => exact ⟨i, rfl, hi0, HL3.out.drewN nq, HP3.out, fun _ => ht2⟩
          · go_big_quiet (first | (go_at_call 45; refine Calls.quiet_of_same (less_u64 _ _ _)))
            go_wp2_with fail
            go_meet
            case rel => exact ⟨i, rfl, hi0, HL3.out.drewN nq, HP3.out, fun hh => by omega⟩
      case rest =>
        obtain ⟨i, rfl, hi0, hL4, hP4, hst⟩ := hcut
        have HL4 : Hid (Left w wc blk off n D E a b) := hL4
        have HP4 : Hid (ParIn E a b i j0 (D p)) := hP4
        have HST : Hid (i ≤ j0 → D p < E i) := hst
        have hai2 := hP4.ai
        have hij4 := hP4.ij
        clear hL4 hP4 hst HL2 HP2
        go_upto_block 4 with fail
        go_cut [10] (fun vj wc => ∃ (j : Nat), vj = .int .i64 j ∧ j ≤ j0 ∧ Left w wc blk off n D E a b ∧ ParIn E a b i j (D p) ∧ (i ≤ j → E j ≤ D p))
        case first =>
          go_wp2_with fail
          go_loopw [10] (fun vj wr2 => ∃ (j : Nat), vj = .int .i64 j ∧ j ≤ j0 ∧ Left w wr2 blk off n D E a b ∧ ParIn E a b i j (D p)) (fun vj _ => (intOf vj).toNat)
          case atStart => exact ⟨j0, rfl, Nat.le_refl _, HL4.out, HP4.out⟩
          case round =>
            obtain ⟨j, rfl, hjb2, hL3, hP3⟩ := hrel
            have hcw := hL3.row.cell
            have hfw := hL3.row.fz
            have h3 := hP3.ij
            have HL3 : Hid (Left w wr blk off n D E a b) := hL3
            have HP3 : Hid (ParIn E a b i j (D p)) := hP3
            clear hL3 hP3
            go_wp2_with fail
            by_cases hij : i ≤ j
            · go_big_quiet (first | (go_at_call 45; refine Calls.quiet_of_same (less_u64 _ _ _)))
              go_wp2_with fail
              · have ht : E a < E j := by assumption
                have ht2 : D p ≤ E j := by
                  rw [← HP3.out.piv]
                  first | exact Int.le_of_lt ht | (simp at ht; exact ht)
                go_roundw
                case rel => exact ⟨j - 1, by congr 1; omega, by omega, HL3.out.drewN nq, par_down HP3.out hij ht2⟩
                case measure => simp [intOf]; omega
              · have ht : E j ≤ E a := by assumption
                have ht2 : E j ≤ D p := by
                  rw [← HP3.out.piv]
                  first | exact ht | (simp at ht; exact ht)
                go_meet
                case rel => exact ⟨j, rfl, hjb2, HL3.out.drewN nq, HP3.out, fun _ => ht2⟩
            · go_big_quiet (first | (go_at_call 45; refine Calls.quiet_of_same (less_u64 _ _ _)))
              go_wp2_with fail
              go_meet
              case rel => exact ⟨j, rfl, hjb2, HL3.out.drewN nq, HP3.out, fun hh => by omega⟩
        case rest =>
          obtain ⟨j, rfl, hjb2, hL5, hP5, hst2⟩ := hcut
          have hcw := hL5.row.cell
          have hfw := hL5.row.fz
          have HL5 : Hid (Left w wc blk off n D E a b) := hL5
          have HP5 : Hid (ParIn E a b i j (D p)) := hP5
          have hj0 : i ≤ j → D p ≤ E i ∧ i < j ∧ E j ≤ D p := by
            intro hij
            have h1 := hst2 hij
            have h2 : D p < E i := by exact HST.out (by omega)
            refine ⟨by omega, ?_, by omega⟩
            rcases Nat.eq_or_lt_of_le hij with e | e
            · subst e; omega
            · exact e
          by_cases hij : i ≤ j
          · obtain ⟨hx, hlt, hy⟩ := hj0 hij
            have HX : Hid (D p ≤ E i) := hx
            have HY : Hid (E j ≤ D p) := hy
            clear hx hy hj0 hst2
            go_wp2_with fail
            go_region
            all_goals go_wp2_with fail
            go_roundw
            case rel => exact ⟨i + 1, j - 1, swp E i j, by go_num, by congr 1; omega, by omega, (HL5.out.swap i j (by omega) (by omega)).drew, par_swap HP5.out hlt HX.out HY.out⟩
            case measure => simp [intOf]; omega
          · clear hj0 hst2
            go_wp2_with fail
            go_ret
            exact ⟨E, i, rfl, HL5.out, par_endEq HP5.out (by omega)⟩

set_option maxRecDepth 100000 in
set_option maxHeartbeats 32000000 in
theorem partition_u64 (blk off n cap a b p : Nat) (D : Row) (w : World) (hR : RowAt .u64 w blk off n D) (hap : a ≤ p) (hpb : p < b) (hb : b ≤ n) (hn : n ≤ 1000) :
    Calls Try.prog 47 #[.slice (some ⟨blk, off, none⟩) n cap, .int .i64 a, .int .i64 b, .int .i64 p] w fun e w' =>
      ∃ (D' : Row) (m : Nat) (c : Bool), e = .returned (.tuple #[.int .i64 m, .bool c]) ∧ Left w w' blk off n D D' a b ∧ Parted D' a m b (D p) := by
  have hcw := hR.cell
  have hfw := hR.fz
  have HL : Hid (Left w w blk off n D D a b) := Left.start hR
  clear hR
  go_enter Try.func47, Try.ntmps47
  go_upto_region 1 with fail
  go_cut [] (fun wc => Left w wc blk off n D (swp D a p) a b)
  case first =>
    have hl := HL.out.swap a p (by omega) (by omega)
    rcases Nat.eq_or_lt_of_le hap with e | e
    · subst e
      go_region
      go_wp2_with fail
      go_meet
      case rel => exact hl.drew
    · go_region
      go_wp2_with fail
      go_meet
      case rel => exact hl.drew
  case rest =>
    have hP := par_start (E := D) hap hpb
    obtain ⟨E, hE⟩ : ∃ E, E = swp D a p := ⟨_, rfl⟩
    rw [← hE] at hcut hP
    have HL1 : Hid (Left w wc blk off n D E a b) := hcut
    have HP : Hid (ParIn E a b (a + 1) (b - 1) (D p)) := hP
    clear hcut hP hE hcw hfw HL
    have HL2 : Hid (Left w wc blk off n D E a b) := HL1
    obtain ⟨i0, hi0e⟩ : ∃ i0, i0 = a + 1 := ⟨_, rfl⟩
    obtain ⟨j0, hj0e⟩ : ∃ j0, j0 = b - 1 := ⟨_, rfl⟩
    have HP2 : Hid (ParIn E a b i0 j0 (D p)) := by rw [hi0e, hj0e]; exact HP
    have hai : a < i0 := by omega
    have hjb : j0 < b := by omega
    have hij0 : i0 ≤ j0 + 1 := by omega
    have hi0i : (a : Int) + 1 = i0 := by omega
    have hj0i : (b : Int) - 1 = j0 := by omega
    clear hi0e hj0e HL1 HP
    go_upto_block 0 with fail
    go_cut [10] (fun vi wc => ∃ (i : Nat), vi = .int .i64 i ∧ i0 ≤ i ∧ Left w wc blk off n D E a b ∧ ParIn E a b i j0 (D p) ∧ (i ≤ j0 → D p ≤ E i))
    case first =>
      go_wp2_with fail
      go_loopw [10] (fun vi wr2 => ∃ (i : Nat), vi = .int .i64 i ∧ i0 ≤ i ∧ Left w wr2 blk off n D E a b ∧ ParIn E a b i j0 (D p)) (fun vi _ => b + 1 - (intOf vi).toNat)
      case atStart => exact ⟨i0, rfl, Nat.le_refl _, HL2.out, HP2.out⟩
      case round =>
        obtain ⟨i, rfl, hi0, hL3, hP3⟩ := hrel
        have hcw := hL3.row.cell
        have hfw := hL3.row.fz
        have h3 := hP3.ij
        have HL3 : Hid (Left w wr blk off n D E a b) := hL3
        have HP3 : Hid (ParIn E a b i j0 (D p)) := hP3
        clear hL3 hP3
        go_wp2_with fail
        by_cases hij : i ≤ j0
        · go_big_quiet (first | (go_at_call 45; refine Calls.quiet_of_same (less_u64 _ _ _)))
          go_wp2_with fail
          · have ht : E i < E a := by assumption
            have ht2 : E i ≤ D p := by
              rw [← HP3.out.piv]
              first | exact Int.le_of_lt ht | (simp at ht; exact ht)
            go_roundw
            case rel => exact ⟨i + 1, by go_num, by omega, HL3.out.drewN nq, par_up HP3.out hij ht2⟩
            case measure => simp [intOf]; omega
          · have ht : E a ≤ E i := by assumption
            have ht2 : D p ≤ E i := by
              rw [← HP3.out.piv]
              first | exact ht | (simp at ht; exact ht)
            go_meet
            case rel => exact ⟨i, rfl, hi0, HL3.out.drewN nq, HP3.out, fun _ => ht2⟩
        · go_big_quiet (first | (go_at_call 45; refine Calls.quiet_of_same (less_u64 _ _ _)))
          go_wp2_with fail
          go_meet
          case rel => exact ⟨i, rfl, hi0, HL3.out.drewN nq, HP3.out, fun hh => by omega⟩
    case rest =>
      obtain ⟨i, rfl, hi0, hL4, hP4, hst⟩ := hcut
      have HL4 : Hid (Left w wc blk off n D E a b) := hL4
      have HP4 : Hid (ParIn E a b i j0 (D p)) := hP4
      have HST : Hid (i ≤ j0 → D p ≤ E i) := hst
      have hai2 := hP4.ai
      have hij4 := hP4.ij
      clear hL4 hP4 hst HL2 HP2
      go_upto_block 2 with fail
      go_cut [11] (fun vj wc => ∃ (j : Nat), vj = .int .i64 j ∧ j ≤ j0 ∧ Left w wc blk off n D E a b ∧ ParIn E a b i j (D p) ∧ (i ≤ j → E j < D p))
      case first =>
        go_wp2_with fail
        go_loopw [11] (fun vj wr2 => ∃ (j : Nat), vj = .int .i64 j ∧ j ≤ j0 ∧ Left w wr2 blk off n D E a b ∧ ParIn E a b i j (D p)) (fun vj _ => (intOf vj).toNat)
        case atStart => exact ⟨j0, rfl, Nat.le_refl _, HL4.out, HP4.out⟩
        case round =>
          obtain ⟨j, rfl, hjb2, hL3, hP3⟩ := hrel
          have hcw := hL3.row.cell
          have hfw := hL3.row.fz
          have h3 := hP3.ij
          have HL3 : Hid (Left w wr blk off n D E a b) := hL3
          have HP3 : Hid (ParIn E a b i j (D p)) := hP3
          clear hL3 hP3
          go_wp2_with fail
          by_cases hij : i ≤ j
          · go_big_quiet (first | (go_at_call 45; refine Calls.quiet_of_same (less_u64 _ _ _)))
            go_wp2_with fail
            · have ht : (!decide (E j < E a)) = true := by assumption
              have ht2 : D p ≤ E j := by
                rw [← HP3.out.piv]
                first | exact Int.le_of_lt ht | (simp at ht; exact ht)
              go_roundw
              case rel => exact ⟨j - 1, by congr 1; omega, by omega, HL3.out.drewN nq, par_down HP3.out hij ht2⟩
              case measure => simp [intOf]; omega
            · have ht : (!decide (E j < E a)) = false := by assumption
              have ht2 : E j < D p := by
                rw [← HP3.out.piv]
                first | exact ht | (simp at ht; exact ht)
              go_meet
              case rel => exact ⟨j, rfl, hjb2, HL3.out.drewN nq, HP3.out, fun _ => ht2⟩
          · go_big_quiet (first | (go_at_call 45; refine Calls.quiet_of_same (less_u64 _ _ _)))
            go_wp2_with fail
            go_meet
            case rel => exact ⟨j, rfl, hjb2, HL3.out.drewN nq, HP3.out, fun hh => by omega⟩
      case rest =>
        obtain ⟨j, rfl, hjb2, hL5, hP5, hst2⟩ := hcut
        have hcw := hL5.row.cell
        have hfw := hL5.row.fz
        have HL5 : Hid (Left w wc blk off n D E a b) := hL5
        have HP5 : Hid (ParIn E a b i j (D p)) := hP5
        have hj0 : i ≤ j → D p ≤ E i ∧ i < j ∧ E j ≤ D p := by
          intro hij
          have h1 := hst2 hij
          have h2 : D p ≤ E i := by exact HST.out (by omega)
          refine ⟨by omega, ?_, by omega⟩
          rcases Nat.eq_or_lt_of_le hij with e | e
          · subst e; omega
          · exact e
        by_cases hij : i ≤ j
        · obtain ⟨hx, hlt, hy⟩ := hj0 hij
          have HX : Hid (D p ≤ E i) := hx
          have HY : Hid (E j ≤ D p) := hy
          clear hx hy hj0 hst2
          go_wp2_with fail
          go_region
          all_goals go_wp2_with fail
          go_loopw [10, 11] (fun vi vj wr => ∃ (i j : Nat) (E : Row), vi = .int .i64 i ∧ vj = .int .i64 j ∧ j < b ∧ Left w wr blk off n D E a b ∧ ParIn E a b i j (D p)) (fun vi vj _ => b + 1 - (intOf vi).toNat)
          case atStart => exact ⟨i + 1, j - 1, swp E i j, by go_num, by congr 1; omega, by omega, (HL5.out.swap i j (by omega) (by omega)).drew, par_swap HP5.out hlt HX.out HY.out⟩
          case round =>
            obtain ⟨i0, j0, E, rfl, rfl, hjb, hL2, hP2⟩ := hrel
            have HL2 : Hid (Left w wr blk off n D E a b) := hL2
            have HP2 : Hid (ParIn E a b i0 j0 (D p)) := hP2
            have hai := hP2.ai
            have hij0 := hP2.ij
            clear hL2 hP2
            go_upto_block 6 with fail
            go_cut [10] (fun vi wc => ∃ (i : Nat), vi = .int .i64 i ∧ i0 ≤ i ∧ Left w wc blk off n D E a b ∧ ParIn E a b i j0 (D p) ∧ (i ≤ j0 → D p ≤ E i))
            case first =>
              go_wp2_with fail
              go_loopw [10] (fun vi wr2 => ∃ (i : Nat), vi = .int .i64 i ∧ i0 ≤ i ∧ Left w wr2 blk off n D E a b ∧ ParIn E a b i j0 (D p)) (fun vi _ => b + 1 - (intOf vi).toNat)
              case atStart => exact ⟨i0, rfl, Nat.le_refl _, HL2.out, HP2.out⟩
              case round =>
                obtain ⟨i, rfl, hi0, hL3, hP3⟩ := hrel
                have hcw := hL3.row.cell
                have hfw := hL3.row.fz
                have h3 := hP3.ij
                have HL3 : Hid (Left w wr blk off n D E a b) := hL3
                have HP3 : Hid (ParIn E a b i j0 (D p)) := hP3
                clear hL3 hP3
                go_wp2_with fail
                by_cases hij : i ≤ j0
                · go_big_quiet (first | (go_at_call 45; refine Calls.quiet_of_same (less_u64 _ _ _)))
                  go_wp2_with fail
                  · have ht : E i < E a := by assumption
                    have ht2 : E i ≤ D p := by
                      rw [← HP3.out.piv]
                      first | exact Int.le_of_lt ht | (simp at ht; exact ht)
                    go_roundw
                    case rel => exact ⟨i + 1, by go_num, by omega, HL3.out.drewN nq, par_up HP3.out hij ht2⟩
                    case measure => simp [intOf]; omega
                  · have ht : E a ≤ E i := by assumption
                    have ht2 : D p ≤ E i := by
                      rw [← HP3.out.piv]
                      first | exact ht | (simp at ht; exact ht)
                    go_meet
                    case rel => exact ⟨i, rfl, hi0, HL3.out.drewN nq, HP3.out, fun _ => ht2⟩
                · go_big_quiet (first | (go_at_call 45; refine Calls.quiet_of_same (less_u64 _ _ _)))
                  go_wp2_with fail
                  go_meet
                  case rel => exact ⟨i, rfl, hi0, HL3.out.drewN nq, HP3.out, fun hh => by omega⟩
            case rest =>
              obtain ⟨i, rfl, hi0, hL4, hP4, hst⟩ := hcut
              have HL4 : Hid (Left w wc blk off n D E a b) := hL4
              have HP4 : Hid (ParIn E a b i j0 (D p)) := hP4
              have HST : Hid (i ≤ j0 → D p ≤ E i) := hst
              have hai2 := hP4.ai
              have hij4 := hP4.ij
              clear hL4 hP4 hst HL2 HP2
              go_upto_block 8 with fail
              go_cut [11] (fun vj wc => ∃ (j : Nat), vj = .int .i64 j ∧ j ≤ j0 ∧ Left w wc blk off n D E a b ∧ ParIn E a b i j (D p) ∧ (i ≤ j → E j < D p))
              case first =>
                go_wp2_with fail
                go_loopw [11] (fun vj wr2 => ∃ (j : Nat), vj = .int .i64 j ∧ j ≤ j0 ∧ Left w wr2 blk off n D E a b ∧ ParIn E a b i j (D p)) (fun vj _ => (intOf vj).toNat)
                case atStart => exact ⟨j0, rfl, Nat.le_refl _, HL4.out, HP4.out⟩
                case round =>
                  obtain ⟨j, rfl, hjb2, hL3, hP3⟩ := hrel
                  have hcw := hL3.row.cell
                  have hfw := hL3.row.fz
                  have h3 := hP3.ij
                  have HL3 : Hid (Left w wr blk off n D E a b) := hL3
                  have HP3 : Hid (ParIn E a b i j (D p)) := hP3
                  clear hL3 hP3
                  go_wp2_with fail
                  by_cases hij : i ≤ j
                  · go_big_quiet (first | (go_at_call 45; refine Calls.quiet_of_same (less_u64 _ _ _)))
                    go_wp2_with fail
                    · have ht : (!decide (E j < E a)) = true := by assumption
                      have ht2 : D p ≤ E j := by
                        rw [← HP3.out.piv]
                        first | exact Int.le_of_lt ht | (simp at ht; exact ht)
                      go_roundw
                      case rel => exact ⟨j - 1, by congr 1; omega, by omega, HL3.out.drewN nq, par_down HP3.out hij ht2⟩
                      case measure => simp [intOf]; omega
                    · have ht : (!decide (E j < E a)) = false := by assumption
                      have ht2 : E j < D p := by
                        rw [← HP3.out.piv]
                        first | exact ht | (simp at ht; exact ht)
                      go_meet
                      case rel => exact ⟨j, rfl, hjb2, HL3.out.drewN nq, HP3.out, fun _ => ht2⟩
                  · go_big_quiet (first | (go_at_call 45; refine Calls.quiet_of_same (less_u64 _ _ _)))
                    go_wp2_with fail
                    go_meet
                    case rel => exact ⟨j, rfl, hjb2, HL3.out.drewN nq, HP3.out, fun hh => by omega⟩
              case rest =>
                obtain ⟨j, rfl, hjb2, hL5, hP5, hst2⟩ := hcut
                have hcw := hL5.row.cell
                have hfw := hL5.row.fz
                have HL5 : Hid (Left w wc blk off n D E a b) := hL5
                have HP5 : Hid (ParIn E a b i j (D p)) := hP5
                have hj0 : i ≤ j → D p ≤ E i ∧ i < j ∧ E j ≤ D p := by
                  intro hij
                  have h1 := hst2 hij
                  have h2 : D p ≤ E i := by exact HST.out (by omega)
                  refine ⟨by omega, ?_, by omega⟩
                  rcases Nat.eq_or_lt_of_le hij with e | e
                  · subst e; omega
                  · exact e
                by_cases hij : i ≤ j
                · obtain ⟨hx, hlt, hy⟩ := hj0 hij
                  have HX : Hid (D p ≤ E i) := hx
                  have HY : Hid (E j ≤ D p) := hy
                  clear hx hy hj0 hst2
                  go_wp2_with fail
                  go_region
                  all_goals go_wp2_with fail
                  go_roundw
                  case rel => exact ⟨i + 1, j - 1, swp E i j, by go_num, by congr 1; omega, by omega, (HL5.out.swap i j (by omega) (by omega)).drew, par_swap HP5.out hlt HX.out HY.out⟩
                  case measure => simp [intOf]; omega
                · clear hj0 hst2
                  have hij5 := HP5.out.ij
                  have hl := HL5.out.swap j a (by omega) (by omega)
                  have hf := par_end HP5.out (by omega)
                  rcases Nat.eq_or_lt_of_le (show a ≤ j by omega) with e | e
                  · subst e
                    go_wp2_with fail
                    go_region
                    go_wp2_with fail
                    go_ret2
                    exact ⟨_, a, false, rfl, hl.drew, hf⟩
                  · go_wp2_with fail
                    go_region
                    go_wp2_with fail
                    go_ret2
                    exact ⟨_, j, false, rfl, hl.drew, hf⟩
        · clear hj0 hst2
          have hij5 := HP5.out.ij
          have hl := HL5.out.swap j a (by omega) (by omega)
          have hf := par_end HP5.out (by omega)
          rcases Nat.eq_or_lt_of_le (show a ≤ j by omega) with e | e
          · subst e
            go_wp2_with fail
            go_region
            go_wp2_with fail
            go_ret2
            exact ⟨_, a, true, rfl, hl.drew, hf⟩
          · go_wp2_with fail
            go_region
            go_wp2_with fail
            go_ret2
            exact ⟨_, j, true, rfl, hl.drew, hf⟩

end Go.Proofs.Qxb6601576a
