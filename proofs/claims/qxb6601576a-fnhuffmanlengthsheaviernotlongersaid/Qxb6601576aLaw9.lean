/-
  FnHuffmanLengthsHeavierNotLonger.
-/
import Derived.Test.Qxb6601576aZz
set_option linter.unusedVariables false
namespace Go.Proofs.Qxb6601576a
open Go.RowKit

set_option maxRecDepth 100000 in
set_option maxHeartbeats 16000000 in
theorem law9 (a0 : Option Addr) (l0 c0 : Nat) (a1 : Option Addr) (l1 c1 : Nat) (D0 D1 : Row) (w : World) (h0 : SlI .i64 w a0 l0 D0) (n0 : a0 = none → l0 = 0) (h1 : SlI .u8 w a1 l1 D1) (n1 : a1 = none → l1 = 0) :
    Calls Try.prog 9 #[.slice a0 l0 c0, .slice a1 l1 c1] w fun e w' => e = .returned (.bool true) ∧ Below w.heap.size w w' := by
  have H0 : Hid (SlI .i64 w a0 l0 D0) := h0
  have H1 : Hid (SlI .u8 w a1 l1 D1) := h1
  have N0 : Hid (a0 = none → l0 = 0) := n0
  have N1 : Hid (a1 = none → l1 = 0) := n1
  clear h0 h1 n0 n1
  go_enter Try.func9, Try.ntmps9
  go_wp2_with fail
  refine (bytes29 a0 a1 l0 c0 l1 c1 w).mono ?_
  rintro e w1 ⟨rfl, b, rfl⟩
  cases b with
  | false =>
    go_wp2_with fail
    go_ret
    exact ⟨rfl, Below.refl _ _⟩
  | true =>
    by_cases b1 : (258 : Int) < l0
    · go_wp2_with fail
      go_ret
      exact ⟨rfl, Below.refl _ _⟩
    by_cases b2 : (65536 : Int) < l1
    · go_wp2_with fail
      go_ret
      exact ⟨rfl, Below.refl _ _⟩
    have b3 : ¬ (1048576 : Int) < 8 * l0 + l1 := by omega
    by_cases b4 : (l1 : Int) < l0
    · go_wp2_with fail
      go_ret
      exact ⟨rfl, Below.refl _ _⟩
    go_wp2_with fail
    go_loop [5] (fun v => ∃ i : Nat, i ≤ l0 ∧ v = .int .i64 i ∧ Hid (∀ j, j < i → 1 ≤ D0 j ∧ D0 j ≤ 4194304)) (fun v => l0 - (intOf v).toNat)
    case atStart => exact ⟨0, Nat.zero_le _, rfl, fun j hj => by omega⟩
    case round =>
      obtain ⟨i, hi, rfl, hq⟩ := hrel
      by_cases hlt : i < l0
      · have hlti : (i : Int) < l0 := by omega
        obtain ⟨b, off, rfl, _, hc⟩ := H0.out i hlt
        have HS : Hid (1 ≤ D0 i ∧ D0 i ≤ 4194304 → ∀ j, j < i + 1 → 1 ≤ D0 j ∧ D0 j ≤ 4194304) := fun h j hj => by
          by_cases e : j = i
          · subst e; exact h
          · exact hq.out j (by omega)
        generalize D0 i = z at *
        by_cases z1 : z < 1
        · go_wp2_with fail
          go_ret
          exact ⟨rfl, Below.refl _ _⟩
        by_cases z2 : 4194304 < z
        · go_wp2_with fail
          go_ret
          exact ⟨rfl, Below.refl _ _⟩
        have HZ : Hid (∀ j, j < i + 1 → 1 ≤ D0 j ∧ D0 j ≤ 4194304) := HS.out ⟨by omega, by omega⟩
        go_wp2_with fail
        go_round
        case rel => exact ⟨i + 1, by omega, by go_num, HZ⟩
        case measure => simp [intOf]; omega
      · have hlti : ¬ (i : Int) < l0 := by omega
        have hil : l0 = i := by omega
        subst hil
        by_cases hl0 : l0 = 0
        · subst hl0
          go_wp2_with fail
          refine (cloneInt a0 0 c0 D0 w1 H0.out (fun _ => rfl) (by omega)).mono ?_
          rintro e w2 ⟨hb2, a0', rfl, _⟩
          have HB2 : Hid (Below w1.heap.size w1 w2) := hb2
          clear hb2
          go_wp2_with fail
          refine (cloneU8 a1 l1 c1 D1 w2 (H1.out.ext HB2.out) N1.out (by omega)).mono ?_
          rintro e w3 ⟨hb3, a1', rfl, _⟩
          have HB3 : Hid (Below w2.heap.size w2 w3) := hb3
          clear hb3
          go_wp2_with fail
          refine (zzhuff0 a0' a1' 0 l1 l1 w3).mono ?_
          rintro e w4 ⟨rfl, hb4⟩
          have HBEL : Hid (Below w1.heap.size w1 w4) := by
            have b12 := HB2.out
            have b23 : Below w1.heap.size w2 w3 := HB3.out.mono b12.size
            exact (b12.trans b23).trans (hb4.mono (Nat.le_trans b12.size HB3.out.size))
          clear hb4
          go_wp2_with fail
          go_loop [6] (fun v => v = .int .i64 0) (fun _ => 0)
          case atStart => rfl
          case round =>
            subst hrel
            go_wp2_with fail
            go_ret
            exact ⟨rfl, HBEL.out⟩
        go_wp2_with fail
        refine (cloneInt a0 l0 c0 D0 w1 H0.out N0.out (by omega)).mono ?_
        rintro e w2 ⟨hb2, a0', rfl, hO0⟩
        rcases hO0 with ⟨_, hz⟩ | ⟨wb, rfl, hwb, hR0⟩
        · omega
        have HB2 : Hid (Below w1.heap.size w1 w2) := hb2
        have HR0 : Hid (RowAt .i64 w2 wb 0 l0 D0) := hR0
        clear hb2 hR0
        go_wp2_with fail
        refine (cloneU8 a1 l1 c1 D1 w2 (H1.out.ext HB2.out) N1.out (by omega)).mono ?_
        rintro e w3 ⟨hb3, a1', rfl, hO1⟩
        rcases hO1 with ⟨_, hz⟩ | ⟨lb, rfl, hlb, hR1⟩
        · omega
        have HB3 : Hid (Below w2.heap.size w2 w3) := hb3
        have HR1 : Hid (RowAt .u8 w3 lb 0 l1 D1) := hR1
        have hne : wb ≠ lb := by have := HR0.out.lt; omega
        have hl1 : w1.heap.size ≤ lb := by have := HB2.out.size; omega
        clear hb3 hR1
        go_wp2_with fail
        refine (zzhuff_u64 wb 0 l0 lb 0 l1 l1 l0 D0 D1 w3 (HR0.out.ext HB3.out) HR1.out hne (by omega) (by omega) (by omega) (by omega) hq.out).mono ?_
        rintro e w4 ⟨fits, T, W, d, rfl, hT, hR, hF, hfit⟩
        have HBEL : Hid (Below w1.heap.size w1 w4) := by
          have b12 := HB2.out
          have b23 : Below w1.heap.size w2 w3 := HB3.out.mono b12.size
          exact (b12.trans b23).trans (hF.below (by simp; exact hl1) (Nat.le_trans b12.size HB3.out.size))
        have HHV : Hid (∀ i j, i < l0 → j < l0 → (D0 i < D0 j ∨ (D0 i = D0 j ∧ i < j)) → ¬ ((min (d i) 255 : Nat) : Int) < ((min (d j) 255 : Nat) : Int)) := fun i j hi hj h => by
          have := hT.heavier hi hj h
          omega
        have HR : Hid (RowAt .u8 w4 lb 0 l0 (fun t => ((min (d t) 255 : Nat) : Int))) :=
          ⟨hR.lt, fun t ht => by rw [hR.cell t (by omega), if_pos ht], fun t ht => hR.fz t (by omega)⟩
        have HWR : Hid (RowAt .i64 w4 wb 0 l0 D0) := (HR0.out.ext HB3.out).fr hF (by simp; exact hne)
        have hsz : w1.heap.size ≤ w4.heap.size := HBEL.out.size
        clear hT hR hF hfit HR0 HR1 HB2 HB3
        obtain ⟨M, hM⟩ : ∃ M : Nat → Int, ∀ t, M t = ((min (d t) 255 : Nat) : Int) := ⟨fun t => ((min (d t) 255 : Nat) : Int), fun _ => rfl⟩
        have HMR : Hid (RowAt .u8 w4 lb 0 l0 M) := HR.out.congr (fun t _ => (hM t).symm)
        have HHM : Hid (∀ i j, i < l0 → j < l0 → (D0 i < D0 j ∨ (D0 i = D0 j ∧ i < j)) → ¬ M i < M j) := fun i j hi hj h => by
          rw [hM, hM]; exact HHV.out i j hi hj h
        clear HR HHV hM
        go_wp2_with fail
        go_loopw [6] (fun v wr => ∃ i : Nat, i ≤ l0 ∧ v = .int .i64 i ∧ Below w4.heap.size w4 wr) (fun v _ => l0 - (intOf v).toNat)
        case atStart => exact ⟨0, Nat.zero_le _, rfl, Below.refl _ _⟩
        case round =>
          obtain ⟨i, hi, rfl, hbi⟩ := hrel
          by_cases hil : i < l0
          · have hili : (i : Int) < l0 := by omega
            have HBI : Hid (Below w4.heap.size w4 wr) := hbi
            clear hbi
            go_wp2_with fail
            go_loopw [7] (fun v wr => ∃ j : Nat, j ≤ l0 ∧ v = .int .i64 j ∧ Below w4.heap.size w4 wr) (fun v _ => l0 - (intOf v).toNat)
            case atStart => exact ⟨0, Nat.zero_le _, rfl, HBI.out⟩
            case round =>
              obtain ⟨j, hj, rfl, hbj⟩ := hrel
              clear HBI
              have HBJ : Hid (Below w4.heap.size w4 wr) := hbj
              by_cases hjl : j < l0
              · have hjli : (j : Int) < l0 := by omega
                have cwi := (HWR.out.ext hbj).cell0 hil
                have cwj := (HWR.out.ext hbj).cell0 hjl
                have cli := (HMR.out.ext hbj).cell0 hil
                have clj := (HMR.out.ext hbj).cell0 hjl
                have hkey := HHM.out i j hil hjl
                clear hbj
                generalize D0 i = x at cwi hkey
                generalize D0 j = y at cwj hkey
                generalize M i = p at cli hkey
                generalize M j = q at clj hkey
                by_cases hxy : x < y
                · have hpq : ¬ p < q := by have := hkey (.inl hxy); omega
                  clear hkey
                  have hpd : decide (p < q) = false := decide_eq_false hpq
                  go_wp2_with fail
                  go_big_quiet (fail)
                  go_wp2_with fail
                  go_big_quiet (fail)
                  go_wp2_with fail
                  go_roundw
                  case rel => exact ⟨j + 1, by omega, by go_num, HBJ.out.trans ((below_drewN' _).mono HBJ.out.size)⟩
                  case measure => simp [intOf]; omega
                · have hxd : decide (x < y) = false := decide_eq_false hxy
                  by_cases hee : x = y
                  · subst hee
                    by_cases hij : i < j
                    · have hiji : (i : Int) < j := by omega
                      have hpq : ¬ p < q := by have := hkey (.inr ⟨rfl, hij⟩); omega
                      have hpd : decide (p < q) = false := decide_eq_false hpq
                      clear hkey
                      go_wp2_with fail
                      go_big_quiet (fail)
                      go_wp2_with fail
                      go_big_quiet (fail)
                      go_wp2_with fail
                      go_roundw
                      case rel => exact ⟨j + 1, by omega, by go_num, HBJ.out.trans ((below_drewN' _).mono HBJ.out.size)⟩
                      case measure => simp [intOf]; omega
                    · have hiji : decide ((i : Int) < j) = false := decide_eq_false (by omega)
                      clear hkey
                      go_wp2_with fail
                      go_big_quiet (fail)
                      go_wp2_with fail
                      go_roundw
                      case rel => exact ⟨j + 1, by omega, by go_num, HBJ.out.trans ((below_drewN' nq).mono HBJ.out.size)⟩
                      case measure => simp [intOf]; omega
                  · have hed : (x == y) = false := by simpa using hee
                    have hed2 : decide (x = y) = false := decide_eq_false hee
                    clear hkey
                    go_wp2_with fail
                    go_big_quiet (fail)
                    go_wp2_with fail
                    go_roundw
                    case rel => exact ⟨j + 1, by omega, by go_num, HBJ.out.trans ((below_drewN' nq).mono HBJ.out.size)⟩
                    case measure => simp [intOf]; omega
              · have hjli : ¬ (j : Int) < l0 := by omega
                have hjl2 : l0 = j := by omega
                clear hbj
                go_wp2_with fail
                go_roundw
                case rel => exact ⟨i + 1, by omega, by go_num, HBJ.out⟩
                case measure => simp [intOf]; omega
          · have hili : ¬ (i : Int) < l0 := by omega
            have HBI : Hid (Below w4.heap.size w4 wr) := hbi
            clear hbi
            go_wp2_with fail
            go_ret
            exact ⟨rfl, HBEL.out.trans (HBI.out.mono hsz)⟩

end Go.Proofs.Qxb6601576a
