/-
  FnHuffmanLengthsMatchesSelectionModel.
-/
import Derived.Test.Qxb6601576aZz
import Derived.Test.Qxb6601576aDep
set_option linter.unusedVariables false
namespace Go.Proofs.Qxb6601576a
open Go.RowKit

theorem OwnI.sl {k : IntKind} {w w' : World} {a : Option Addr} {n : Nat} {D : Row} (h : OwnI k w w' a n D) : SlI k w' a n D := by
  rcases h with ⟨rfl, rfl⟩ | ⟨b, rfl, _, hR⟩
  · exact fun i hi => by omega
  · exact slI_row hR

def Want2 (v9 v10 : Value) (l0 : Nat) (d : Nat → Nat) : Prop := ∃ (s : Nat) (want : Bool), v9 = .bool want ∧ v10 = .int .i64 s ∧ s ≤ l0 ∧ (want = true ↔ ∀ t, t < s → d t ≤ 20)

theorem want_next {want : Bool} {s : Nat} {d : Nat → Nat} (h : want = true ↔ ∀ t, t < s → d t ≤ 20) (hd : d s ≤ 20) : want = true ↔ ∀ t, t < s + 1 → d t ≤ 20 := by
  rw [h]
  constructor
  · intro h1 t ht
    by_cases e : t = s
    · subst e; exact hd
    · exact h1 t (by omega)
  · intro h1 t ht
    exact h1 t (by omega)

set_option maxRecDepth 100000 in
set_option maxHeartbeats 16000000 in
theorem law7 (a0 : Option Addr) (l0 c0 : Nat) (a1 : Option Addr) (l1 c1 : Nat) (D0 D1 : Row) (w : World) (h0 : SlI .i64 w a0 l0 D0) (n0 : a0 = none → l0 = 0) (h1 : SlI .u8 w a1 l1 D1) (n1 : a1 = none → l1 = 0) :
    Calls Try.prog 7 #[.slice a0 l0 c0, .slice a1 l1 c1] w fun e w' => e = .returned (.bool true) ∧ Below w.heap.size w w' := by
  have H0 : Hid (SlI .i64 w a0 l0 D0) := h0
  have H1 : Hid (SlI .u8 w a1 l1 D1) := h1
  have N0 : Hid (a0 = none → l0 = 0) := n0
  have N1 : Hid (a1 = none → l1 = 0) := n1
  clear h0 h1 n0 n1
  go_enter Try.func7, Try.ntmps7
  go_wp2_with fail
  refine (bytes24 a0 a1 l0 c0 l1 c1 w).mono ?_
  rintro e w1 ⟨rfl, b, rfl⟩
  cases b with
  | false =>
    go_wp2_with fail
    go_ret
    exact ⟨rfl, Below.refl _ _⟩
  | true =>
    by_cases b1 : (258 : Int) < l0
    · go_wp2_with fail
      go_ret
      exact ⟨rfl, Below.refl _ _⟩
    by_cases b2 : (65536 : Int) < l1
    · go_wp2_with fail
      go_ret
      exact ⟨rfl, Below.refl _ _⟩
    have b3 : ¬ (1048576 : Int) < 8 * l0 + l1 := by omega
    by_cases b4 : (l1 : Int) < l0
    · go_wp2_with fail
      go_ret
      exact ⟨rfl, Below.refl _ _⟩
    go_wp2_with fail
    go_loop [5] (fun v => ∃ i : Nat, i ≤ l0 ∧ v = .int .i64 i ∧ Hid (∀ j, j < i → 1 ≤ D0 j ∧ D0 j ≤ 4194304)) (fun v => l0 - (intOf v).toNat)
    case atStart => exact ⟨0, Nat.zero_le _, rfl, fun j hj => by omega⟩
    case round =>
      obtain ⟨i, hi, rfl, hq⟩ := hrel
      by_cases hlt : i < l0
      · have hlti : (i : Int) < l0 := by omega
        obtain ⟨b, off, rfl, _, hc⟩ := H0.out i hlt
        have HS : Hid (1 ≤ D0 i ∧ D0 i ≤ 4194304 → ∀ j, j < i + 1 → 1 ≤ D0 j ∧ D0 j ≤ 4194304) := fun h j hj => by
          by_cases e : j = i
          · subst e; exact h
          · exact hq.out j (by omega)
        generalize D0 i = z at *
        by_cases z1 : z < 1
        · go_wp2_with fail
          go_ret
          exact ⟨rfl, Below.refl _ _⟩
        by_cases z2 : 4194304 < z
        · go_wp2_with fail
          go_ret
          exact ⟨rfl, Below.refl _ _⟩
        have HZ : Hid (∀ j, j < i + 1 → 1 ≤ D0 j ∧ D0 j ≤ 4194304) := HS.out ⟨by omega, by omega⟩
        go_wp2_with fail
        go_round
        case rel => exact ⟨i + 1, by omega, by go_num, HZ⟩
        case measure => simp [intOf]; omega
      · have hlti : ¬ (i : Int) < l0 := by omega
        have hil : l0 = i := by omega
        subst hil
        by_cases hl0 : l0 = 0
        · subst hl0
          go_wp2_with fail
          refine (cloneInt a0 0 c0 D0 w1 H0.out (fun _ => rfl) (by omega)).mono ?_
          rintro e w2 ⟨hb2, a0', rfl, _⟩
          have HB2 : Hid (Below w1.heap.size w1 w2) := hb2
          clear hb2
          go_wp2_with fail
          refine (cloneU8 a1 l1 c1 D1 w2 (H1.out.ext HB2.out) N1.out (by omega)).mono ?_
          rintro e w3 ⟨hb3, a1', rfl, hO1⟩
          have HB3 : Hid (Below w2.heap.size w2 w3) := hb3
          have HO1 : Hid (SlI .u8 w3 a1' l1 D1) := hO1.sl
          have hn1 : a1' = none → l1 = 0 := by
            rcases hO1 with ⟨_, h⟩ | ⟨b, rfl, _⟩
            · exact fun _ => h
            · intro h; cases h
          clear hb3 hO1
          go_wp2_with fail
          refine (cloneU8 a1' l1 l1 D1 w3 HO1.out hn1 (by omega)).mono ?_
          rintro e w3' ⟨hb3', a2', rfl, hO2⟩
          have HB3' : Hid (Below w3.heap.size w3 w3') := hb3'
          have HO2 : Hid (SlI .u8 w3' a2' l1 D1) := hO2.sl
          clear hb3' hO2 hn1
          go_wp2_with fail
          refine (zzhuff0 a0' a2' 0 l1 l1 w3').mono ?_
          rintro e w4 ⟨rfl, hb4⟩
          have HB4 : Hid (Below w3'.heap.size w3' w4) := hb4
          clear hb4
          obtain ⟨Z22, eZ22, hZ22⟩ := z22
          clear eZ22
          go_wp2_with fail
          refine (depths0 a0' 0 w4.heap.size _).mono ?_
          rintro e w6 ⟨rfl, hb6⟩
          have HB6 : Hid (Below w4.heap.size w4 w6) := by
            have h1 : Below w4.heap.size w4 (w4.alloc (Obj.cells Z22 22)) := (Below.refl _ _).alloc (Nat.le_refl _) _
            exact h1.trans (hb6.mono (by simp))
          clear hb6
          have HBEL : Hid (Below w1.heap.size w1 w6) := by
            have b12 := HB2.out
            have b23 := HB3.out
            have b33 := HB3'.out
            have b34 := HB4.out
            have b46 := HB6.out
            exact (((b12.trans (b23.mono b12.size)).trans (b33.mono (Nat.le_trans b12.size b23.size))).trans (b34.mono (Nat.le_trans (Nat.le_trans b12.size b23.size) b33.size))).trans (b46.mono (Nat.le_trans (Nat.le_trans (Nat.le_trans b12.size b23.size) b33.size) b34.size))
          have HL6 : Hid (SlI .u8 w6 a1' l1 D1) := ((HO1.out.ext HB3'.out).ext HB4.out).ext HB6.out
          have HO6 : Hid (SlI .u8 w6 a2' l1 D1) := (HO2.out.ext HB4.out).ext HB6.out
          have hsz : w1.heap.size ≤ w6.heap.size := HBEL.out.size
          clear HB2 HB3 HB3' HB4 HB6 HO1 HO2
          go_wp2_with fail
          go_loop [9, 10] (fun v9 v10 => v9 = .bool true ∧ v10 = .int .i64 0) (fun _ _ => 0)
          case atStart => exact ⟨rfl, rfl⟩
          case round =>
            obtain ⟨rfl, rfl⟩ := hrel
            go_wp2_with fail
            go_loopw [12] (fun v wr => ∃ s : Nat, v = .int .i64 s ∧ s ≤ l1 ∧ Below w6.heap.size w6 wr) (fun v _ => l1 - (intOf v).toNat)
            case atStart => exact ⟨0, rfl, Nat.zero_le _, Below.refl _ _⟩
            case round =>
              obtain ⟨s, rfl, hs, hbs⟩ := hrel
              have HBS : Hid (Below w6.heap.size w6 wr) := hbs
              by_cases hsl : s < l1
              · have hsli : (s : Int) < l1 := by omega
                obtain ⟨b1, o1, rfl, _, c1⟩ := (HL6.out.ext hbs) s hsl
                obtain ⟨b2, o2, rfl, _, c2⟩ := (HO6.out.ext hbs) s hsl
                clear hbs
                generalize D1 s = z at c1 c2
                go_wp2_with fail
                go_big_quiet (fail)
                go_wp2_with fail
                go_roundw
                case rel => exact ⟨s + 1, by go_num, by omega, HBS.out.trans ((below_drewN' nq).mono HBS.out.size)⟩
                case measure => simp [intOf]; omega
              · have hsli : ¬ (s : Int) < l1 := by omega
                clear hbs
                go_wp2_with fail
                go_ret
                exact ⟨rfl, HBEL.out.trans (HBS.out.mono hsz)⟩
        go_wp2_with fail
        refine (cloneInt a0 l0 c0 D0 w1 H0.out N0.out (by omega)).mono ?_
        rintro e w2 ⟨hb2, a0', rfl, hO0⟩
        rcases hO0 with ⟨_, hz⟩ | ⟨wb, rfl, hwb, hR0⟩
        · omega
        have HB2 : Hid (Below w1.heap.size w1 w2) := hb2
        have HR0 : Hid (RowAt .i64 w2 wb 0 l0 D0) := hR0
        clear hb2 hR0
        go_wp2_with fail
        refine (cloneU8 a1 l1 c1 D1 w2 (H1.out.ext HB2.out) N1.out (by omega)).mono ?_
        rintro e w3 ⟨hb3, a1', rfl, hO1⟩
        rcases hO1 with ⟨_, hz⟩ | ⟨lb, rfl, hlb, hR1⟩
        · omega
        have HB3 : Hid (Below w2.heap.size w2 w3) := hb3
        have HR1 : Hid (RowAt .u8 w3 lb 0 l1 D1) := hR1
        clear hb3 hR1
        go_wp2_with fail
        refine (cloneU8 (some ⟨lb, 0, none⟩) l1 l1 D1 w3 (slI_row HR1.out) (fun h => by cases h) (by omega)).mono ?_
        rintro e w3' ⟨hb3', a2', rfl, hO2⟩
        rcases hO2 with ⟨_, hz⟩ | ⟨ob, rfl, hob, hR2⟩
        · omega
        have HB3' : Hid (Below w3.heap.size w3 w3') := hb3'
        have HR2 : Hid (RowAt .u8 w3' ob 0 l1 D1) := hR2
        have hwl := HR0.out.lt
        have hll := HR1.out.lt
        have s12 := HB2.out.size
        have s23 := HB3.out.size
        have s33 := HB3'.out.size
        have hne : wb ≠ ob := by omega
        have hne2 : lb ≠ ob := by omega
        clear hb3' hR2
        go_wp2_with fail
        refine (zzhuff_u64 wb 0 l0 ob 0 l1 l1 l0 D0 D1 w3' ((HR0.out.ext HB3.out).ext HB3'.out) HR2.out hne (by omega) (by omega) (by omega) (by omega) hq.out).mono ?_
        rintro e w4 ⟨fits, T, W, d, rfl, hT, hR, hF, hfit⟩
        have hol : ob < w4.heap.size := hR.lt
        have s34 := hF.size
        have HT : Hid (TreeT l0 D0 T W d) := hT
        have HFIT : Hid (fits = true ↔ ∀ s, s < l0 → d s ≤ 20) := hfit
        have HW4 : Hid (RowAt .i64 w4 wb 0 l0 D0) := ((HR0.out.ext HB3.out).ext HB3'.out).fr hF (by simp; exact hne)
        have HL4 : Hid (RowAt .u8 w4 lb 0 l1 D1) := (HR1.out.ext HB3'.out).fr hF (by simp; exact hne2)
        have HO4 : Hid (RowAt .u8 w4 ob 0 l1 (fun t => if t < l0 then ((min (d t) 255 : Nat) : Int) else D1 t)) := hR
        have HBEL4 : Hid (Below w1.heap.size w1 w4) := by
          have b12 := HB2.out
          have b23 := HB3.out
          have b33 := HB3'.out
          exact ((b12.trans (b23.mono (by omega))).trans (b33.mono (by omega))).trans (hF.below (by simp; omega) (by omega))
        clear hT hR hF hfit HR0 HR1 HR2 HB2 HB3 HB3'
        obtain ⟨Z22, eZ22, hZ22⟩ := z22
        have EZ22 : Hid _ := eZ22
        clear eZ22
        go_wp2_with fail
        generalize hw5 : World.alloc _ _ = w5
        have hf5 : Fr [] w4 w5 := by rw [← hw5]; exact (Fr.refl _ _).alloc _
        have HD5 : Hid (RowAt .i64 w5 w4.heap.size 0 258 (fun _ => 0)) := by rw [← hw5]; exact row_fresh EZ22.out
        clear hw5
        obtain ⟨db, edb⟩ : ∃ db, db = w4.heap.size := ⟨_, rfl⟩
        rw [← edb] at HD5 ⊢
        refine (depths27 wb 0 l0 db l0 D0 (fun _ => 0) W T d w5 (HW4.out.fr hf5 (by simp)) HD5.out (by have := HW4.out.lt; omega) (by omega) (by omega) hq.out HT.out).mono ?_
        rintro e w6 ⟨rfl, D', hDD, hDe, hF6⟩
        have HDD : Hid (RowAt .i64 w6 db 0 258 D') := hDD
        have HDE : Hid (∀ t, t < l0 → D' t = d t) := hDe
        have HL6 : Hid (RowAt .u8 w6 lb 0 l1 D1) := (HL4.out.fr hf5 (by simp)).fr hF6 (by have := HL4.out.lt; simp; omega)
        have HO6 : Hid (RowAt .u8 w6 ob 0 l1 (fun t => if t < l0 then ((min (d t) 255 : Nat) : Int) else D1 t)) := (HO4.out.fr hf5 (by simp)).fr hF6 (by simp; omega)
        have HBEL : Hid (Below w1.heap.size w1 w6) := by
          have b14 := HBEL4.out
          have h45 := hf5.size
          exact (b14.trans (hf5.below (by simp) (by omega))).trans (hF6.below (by simp; omega) (by omega))
        have hsz : w1.heap.size ≤ w6.heap.size := HBEL.out.size
        clear hDD hDe hF6 hf5 HD5 HW4 HL4 HO4 HBEL4 edb
        go_wp2_with fail
        go_loop [9, 10] (fun v9 v10 => Want2 v9 v10 l0 d) (fun _ v10 => l0 - (intOf v10).toNat)
        case atStart => exact ⟨0, true, rfl, rfl, Nat.zero_le _, ⟨fun _ t ht => by omega, fun _ => rfl⟩⟩
        case round =>
          obtain ⟨s, want, rfl, rfl, hsl, hwant⟩ := hrel
          have HWANT : Hid (want = true ↔ ∀ t, t < s → d t ≤ 20) := hwant
          clear hwant
          by_cases hs : s < l0
          · have hsi : (s : Int) < l0 := by omega
            have cd := HDD.out.cell0 (t := s) (by omega)
            rw [HDE.out s hs] at cd
            have co := HO6.out.cell0 (t := s) (by omega)
            rw [if_pos hs] at co
            have HN : Hid (d s ≤ 20 → (want = true ↔ ∀ t, t < s + 1 → d t ≤ 20)) := fun h => want_next HWANT.out h
            have HN2 : Hid (¬ d s ≤ 20 → (false = true ↔ ∀ t, t < s + 1 → d t ≤ 20)) := fun h => ⟨fun h' => (by cases h'), fun h' => absurd (h' s (by omega)) h⟩
            have hbd : d s ≤ 258 := by
              by_cases h2 : 2 ≤ l0
              · have := (HT.out.bounds h2 hs).2; omega
              · have h0 := HT.out.root
                have : s = 2 * l0 - 2 := by omega
                rw [this]; omega
            by_cases hbig : 255 < d s
            · have hbi : (255 : Int) < d s := by omega
              have e1 : ((min (d s) 255 : Nat) : Int) = 255 := by omega
              rw [e1] at co
              have hbi2 : (20 : Int) < d s := by omega
              go_wp2_with fail
              exact ⟨⟨s + 1, false, rfl, by go_num, by omega, HN2.out (by omega)⟩, by simp [intOf]; omega⟩
            · have hbi : ¬ (255 : Int) < d s := by omega
              have e1 : ((min (d s) 255 : Nat) : Int) = d s := by omega
              rw [e1] at co
              by_cases h20 : d s ≤ 20
              · have hbi2 : ¬ (20 : Int) < d s := by omega
                go_wp2_with fail
                exact ⟨⟨s + 1, want, rfl, by go_num, by omega, HN.out h20⟩, by simp [intOf]; omega⟩
              · have hbi2 : (20 : Int) < d s := by omega
                go_wp2_with fail
                exact ⟨⟨s + 1, false, rfl, by go_num, by omega, HN2.out h20⟩, by simp [intOf]; omega⟩
          · have hsi : ¬ (s : Int) < l0 := by omega
            have hsl2 : l0 = s := by omega
            subst hsl2
            have hwf : want = fits := by
              have h1 := HWANT.out
              have h2 := HFIT.out
              rw [← h2] at h1
              cases want <;> cases fits <;> simp_all
            subst hwf
            go_wp2_with fail
            go_loopw [12] (fun v wr => ∃ s : Nat, v = .int .i64 s ∧ l0 ≤ s ∧ s ≤ l1 ∧ Below w6.heap.size w6 wr) (fun v _ => l1 - (intOf v).toNat)
            case atStart => exact ⟨l0, rfl, Nat.le_refl _, by omega, Below.refl _ _⟩
            case round =>
              obtain ⟨s, rfl, hs0, hs1, hbs⟩ := hrel
              have HBS : Hid (Below w6.heap.size w6 wr) := hbs
              by_cases hsl : s < l1
              · have hsli : (s : Int) < l1 := by omega
                have c1 := (HL6.out.ext hbs).cell0 (t := s) hsl
                have c2 := (HO6.out.ext hbs).cell0 (t := s) hsl
                rw [if_neg (by omega)] at c2
                clear hbs
                generalize D1 s = z at c1 c2
                go_wp2_with fail
                go_big_quiet (fail)
                go_wp2_with fail
                go_roundw
                case rel => exact ⟨s + 1, by go_num, by omega, by omega, HBS.out.trans ((below_drewN' nq).mono HBS.out.size)⟩
                case measure => simp [intOf]; omega
              · have hsli : ¬ (s : Int) < l1 := by omega
                clear hbs
                go_wp2_with fail
                go_ret
                exact ⟨by simp, HBEL.out.trans (HBS.out.mono hsz)⟩

end Go.Proofs.Qxb6601576a
