/-
  FnHuffmanLengthsFillTheCode.
-/
import Derived.Test.Qxb6601576aZz
set_option linter.unusedVariables false
namespace Go.Proofs.Qxb6601576a
open Go.RowKit

theorem kraft_step (d : Nat → Nat) (s : Nat) (S : Int) (hS : sumTo (fun s => ((2 ^ (20 - d s) : Nat) : Int)) s = S) (hs : s < 258) :
    IntKind.u64.wrap (S + IntKind.u64.wrap (2 ^ (20 - d s))) = sumTo (fun s => ((2 ^ (20 - d s) : Nat) : Int)) (s + 1) := by
  have hp : ∀ t, ((2 ^ (20 - d t) : Nat) : Int) ≤ 1048576 := fun t => by
    have : 2 ^ (20 - d t) ≤ 2 ^ 20 := Nat.pow_le_pow_right (by decide) (by omega)
    have e : (2 : Nat) ^ 20 = 1048576 := by decide
    omega
  have h1 : S ≤ s * 1048576 := by rw [← hS]; exact sumTo_le (fun t _ => hp t)
  have h2 : 0 ≤ S := by rw [← hS]; exact sumTo_nonneg (fun t _ => Int.natCast_nonneg _)
  have h3 := hp s
  have h4 : 0 ≤ ((2 ^ (20 - d s) : Nat) : Int) := Int.natCast_nonneg _
  have e1 : (2 : Int) ^ (20 - d s) = ((2 ^ (20 - d s) : Nat) : Int) := by simp
  show _ = sumTo (fun s => ((2 ^ (20 - d s) : Nat) : Int)) s + ((2 ^ (20 - d s) : Nat) : Int)
  rw [hS, e1, IntKind.wrap_u64, IntKind.wrap_u64]
  generalize ((2 ^ (20 - d s) : Nat) : Int) = x at *
  omega

set_option maxRecDepth 100000 in
set_option maxHeartbeats 16000000 in
theorem law8 (a0 : Option Addr) (l0 c0 : Nat) (a1 : Option Addr) (l1 c1 : Nat) (D0 D1 : Row) (w : World) (h0 : SlI .i64 w a0 l0 D0) (n0 : a0 = none → l0 = 0) (h1 : SlI .u8 w a1 l1 D1) (n1 : a1 = none → l1 = 0) :
    Calls Try.prog 8 #[.slice a0 l0 c0, .slice a1 l1 c1] w fun e w' => e = .returned (.bool true) ∧ Below w.heap.size w w' := by
  have H0 : Hid (SlI .i64 w a0 l0 D0) := h0
  have H1 : Hid (SlI .u8 w a1 l1 D1) := h1
  have N0 : Hid (a0 = none → l0 = 0) := n0
  have N1 : Hid (a1 = none → l1 = 0) := n1
  clear h0 h1 n0 n1
  go_enter Try.func8, Try.ntmps8
  go_wp2_with fail
  refine (bytes28 a0 a1 l0 c0 l1 c1 w).mono ?_
  rintro e w1 ⟨rfl, b, rfl⟩
  cases b with
  | false =>
    go_wp2_with fail
    go_ret
    exact ⟨rfl, Below.refl _ _⟩
  | true =>
    by_cases b1 : (258 : Int) < l0
    · go_wp2_with fail
      go_ret
      exact ⟨rfl, Below.refl _ _⟩
    by_cases b2 : (65536 : Int) < l1
    · go_wp2_with fail
      go_ret
      exact ⟨rfl, Below.refl _ _⟩
    have b3 : ¬ (1048576 : Int) < 8 * l0 + l1 := by omega
    by_cases b4 : (l1 : Int) < l0
    · go_wp2_with fail
      go_ret
      exact ⟨rfl, Below.refl _ _⟩
    by_cases b5 : (l0 : Int) < 2
    · go_wp2_with fail
      go_ret
      exact ⟨rfl, Below.refl _ _⟩
    go_wp2_with fail
    go_loop [5] (fun v => ∃ i : Nat, i ≤ l0 ∧ v = .int .i64 i ∧ Hid (∀ j, j < i → 1 ≤ D0 j ∧ D0 j ≤ 4194304)) (fun v => l0 - (intOf v).toNat)
    case atStart => exact ⟨0, Nat.zero_le _, rfl, fun j hj => by omega⟩
    case round =>
      obtain ⟨i, hi, rfl, hq⟩ := hrel
      by_cases hlt : i < l0
      · have hlti : (i : Int) < l0 := by omega
        obtain ⟨b, off, rfl, _, hc⟩ := H0.out i hlt
        have HS : Hid (1 ≤ D0 i ∧ D0 i ≤ 4194304 → ∀ j, j < i + 1 → 1 ≤ D0 j ∧ D0 j ≤ 4194304) := fun h j hj => by
          by_cases e : j = i
          · subst e; exact h
          · exact hq.out j (by omega)
        generalize D0 i = z at *
        by_cases z1 : z < 1
        · go_wp2_with fail
          go_ret
          exact ⟨rfl, Below.refl _ _⟩
        by_cases z2 : 4194304 < z
        · go_wp2_with fail
          go_ret
          exact ⟨rfl, Below.refl _ _⟩
        have HZ : Hid (∀ j, j < i + 1 → 1 ≤ D0 j ∧ D0 j ≤ 4194304) := HS.out ⟨by omega, by omega⟩
        go_wp2_with fail
        go_round
        case rel => exact ⟨i + 1, by omega, by go_num, HZ⟩
        case measure => simp [intOf]; omega
      · have hlti : ¬ (i : Int) < l0 := by omega
        have hil : l0 = i := by omega
        subst hil
        go_wp2_with fail
        refine (cloneInt a0 l0 c0 D0 w1 H0.out N0.out (by omega)).mono ?_
        rintro e w2 ⟨hb2, a0', rfl, hO0⟩
        rcases hO0 with ⟨_, hz⟩ | ⟨wb, rfl, hwb, hR0⟩
        · omega
        have HB2 : Hid (Below w1.heap.size w1 w2) := hb2
        have HR0 : Hid (RowAt .i64 w2 wb 0 l0 D0) := hR0
        clear hb2 hR0
        go_wp2_with fail
        refine (cloneU8 a1 l1 c1 D1 w2 (H1.out.ext HB2.out) N1.out (by omega)).mono ?_
        rintro e w3 ⟨hb3, a1', rfl, hO1⟩
        rcases hO1 with ⟨_, hz⟩ | ⟨lb, rfl, hlb, hR1⟩
        · omega
        have HB3 : Hid (Below w2.heap.size w2 w3) := hb3
        have HR1 : Hid (RowAt .u8 w3 lb 0 l1 D1) := hR1
        have hne : wb ≠ lb := by have := HR0.out.lt; omega
        have hl1 : w1.heap.size ≤ lb := by have := HB2.out.size; omega
        clear hb3 hR1
        go_wp2_with fail
        refine (zzhuff_u64 wb 0 l0 lb 0 l1 l1 l0 D0 D1 w3 (HR0.out.ext HB3.out) HR1.out hne (by omega) (by omega) (by omega) (by omega) hq.out).mono ?_
        rintro e w4 ⟨fits, T, W, d, rfl, hT, hR, hF, hfit⟩
        have HBEL : Hid (Below w1.heap.size w1 w4) := by
          have b12 := HB2.out
          have b23 : Below w1.heap.size w2 w3 := HB3.out.mono b12.size
          exact (b12.trans b23).trans (hF.below (by simp; exact hl1) (Nat.le_trans b12.size HB3.out.size))
        have HT : Hid (TreeT l0 D0 T W d) := hT
        have HR : Hid (RowAt .u8 w4 lb 0 l1 (fun t => if t < l0 then ((min (d t) 255 : Nat) : Int) else D1 t)) := hR
        clear hT hR hF
        cases fits with
        | false =>
          have hbig : (21 : Int) < l0 := by
            refine Classical.byContradiction (fun hno => ?_)
            have := hfit.2 (fun s hs => by have := (HT.out.bounds (by omega) hs).2; omega)
            cases this
          clear hfit
          go_wp2_with fail
          go_ret
          exact ⟨rfl, HBEL.out⟩
        | true =>
          have HFIT : Hid (∀ s, s < l0 → d s ≤ 20) := hfit.1 rfl
          clear hfit
          go_wp2_with fail
          all_goals (
            go_loop [7, 8] (fun v7 v8 => ∃ s : Nat, s ≤ l0 ∧ v8 = .int .i64 s ∧ v7 = .int .u64 (sumTo (fun s => ((2 ^ (20 - d s) : Nat) : Int)) s)) (fun _ v8 => l0 - (intOf v8).toNat)
            case atStart => exact ⟨0, Nat.zero_le _, rfl, rfl⟩
            case round =>
              obtain ⟨s, hs, rfl, rfl⟩ := hrel
              by_cases hsl : s < l0
              · have hsli : (s : Int) < l0 := by omega
                have cl := HR.out.cell0 (t := s) (by omega)
                have hd := HT.out.bounds (by omega) hsl
                have hd2 := HFIT.out s hsl
                have e1 : (if s < l0 then ((min (d s) 255 : Nat) : Int) else D1 s) = (d s : Int) := by rw [if_pos hsl]; omega
                rw [e1] at cl
                clear e1
                generalize hS : sumTo (fun s => ((2 ^ (20 - d s) : Nat) : Int)) s = S
                go_wp2_with fail
                exact ⟨⟨s + 1, by omega, by go_num, by rw [kraft_step d s S hS (by omega)]⟩, by simp [intOf]; omega⟩
              · have hsli : ¬ (s : Int) < l0 := by omega
                have hsl2 : l0 = s := by omega
                subst hsl2
                have hfull := HT.out.full (by omega) 20 HFIT.out
                rw [hfull]
                go_wp2_with fail
                go_ret
                exact ⟨by simp, HBEL.out⟩)

end Go.Proofs.Qxb6601576a
