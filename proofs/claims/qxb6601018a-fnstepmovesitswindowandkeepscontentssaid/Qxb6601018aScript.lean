/-
  THE WALKS of the helpers over the scripts (slices of hashes, locs, marks).
-/
import Derived.Test.Qxb6601018aAcc
import Derived.Deep.OwnRows
set_option linter.unusedVariables false
namespace Go.Proofs.Qxb6601018a
open Go.RowKit

/-! ### Plain -/
/-- what the first k steps leave for h: 0: nothing; else the loc, plus one -/
def lastM (hs locs : Nat → Nat) (del : Nat → Bool) : Nat → Nat → Nat
  | 0, _ => 0
  | k + 1, h => if hs k = h then (if del k = true then 0 else locs k + 1) else lastM hs locs del k h

def noDel : Nat → Bool := fun _ => false
def lastV (m : Nat) : Value := .tuple #[.int .u64 ((m - 1 : Nat) : Int), .bool (!(m == 0))]

def firstB (hs : Nat → Nat) (i : Nat) : Bool := cnt (fun j => hs j == hs i) i == 0
theorem firstB_true {hs : Nat → Nat} {i : Nat} (h : ∀ t, t < i → hs t ≠ hs i) : firstB hs i = true := by
  unfold firstB; rw [cnt_zero (fun t ht => by simpa using h t ht)]; rfl
theorem firstB_false {hs : Nat → Nat} {i t : Nat} (ht : t < i) (h : hs t = hs i) : firstB hs i = false := by
  unfold firstB
  have := cnt_pos (p := fun j => hs j == hs i) ht (by simpa using h)
  rw [beq_eq_false_iff_ne]; omega

/-! ### Slices -/
def SlU (w : World) (B : Nat) (a : Option Addr) (len : Nat) (f : Nat → Nat) : Prop :=
  ∀ i, i < len → ∃ b off, a = some ⟨b, off, none⟩ ∧ b < B ∧ w.cell? ⟨b, off + i, none⟩ = some (.int .u64 (f i : Int))
def SlB (w : World) (B : Nat) (a : Option Addr) (len : Nat) (f : Nat → Bool) : Prop :=
  ∀ i, i < len → ∃ b off, a = some ⟨b, off, none⟩ ∧ b < B ∧ w.cell? ⟨b, off + i, none⟩ = some (.bool (f i))
theorem SlU.below {w w' : World} {B : Nat} {a : Option Addr} {len : Nat} {f : Nat → Nat} (h : SlU w B a len f) (hb : Below B w w') : SlU w' B a len f := by
  intro i hi
  obtain ⟨b, off, e, hlt, hc⟩ := h i hi
  exact ⟨b, off, e, hlt, (hb.cell hlt).trans hc⟩
theorem SlB.below {w w' : World} {B : Nat} {a : Option Addr} {len : Nat} {f : Nat → Bool} (h : SlB w B a len f) (hb : Below B w w') : SlB w' B a len f := by
  intro i hi
  obtain ⟨b, off, e, hlt, hc⟩ := h i hi
  exact ⟨b, off, e, hlt, (hb.cell hlt).trans hc⟩
theorem SlU.mono {w : World} {B B' : Nat} {a : Option Addr} {len : Nat} {f : Nat → Nat} (h : SlU w B a len f) (hB : B ≤ B') : SlU w B' a len f := by
  intro i hi
  obtain ⟨b, off, e, hlt, hc⟩ := h i hi
  exact ⟨b, off, e, by omega, hc⟩
theorem SlB.mono {w : World} {B B' : Nat} {a : Option Addr} {len : Nat} {f : Nat → Bool} (h : SlB w B a len f) (hB : B ≤ B') : SlB w B' a len f := by
  intro i hi
  obtain ⟨b, off, e, hlt, hc⟩ := h i hi
  exact ⟨b, off, e, by omega, hc⟩

theorem Try.info33 : (Try.prog.info? 33).map (fun i => (i.zero, i.size, i.bytes)) = some (some (.int .u64 0), 1, 8) := by kernel_rfl
theorem Try.info4 : (Try.prog.info? 4).map (fun i => (i.zero, i.size, i.bytes)) = some (some (.bool false), 1, 1) := by kernel_rfl

theorem pairs_any (a0 a1 : Option Addr) (l0 c0 l1 c1 : Nat) (w : World) (h0 : l0 ≤ 4096) (h1 : l1 ≤ 4096) :
    Calls Try.prog 10 #[.slice a0 l0 c0, .slice a1 l1 c1] w fun e w' => e = .returned (.int .i64 ((min l0 l1 : Nat) : Int)) ∧ w' = w := by
  by_cases h : l1 < l0
  · have e1 : min l0 l1 = l1 := by omega
    rw [e1]
    have h' : (l1 : Int) < (l0 : Int) := by omega
    go_enter Try.func10, Try.ntmps10
    go_wp2
    go_ret
    exact ⟨rfl, rfl⟩
  · have e1 : min l0 l1 = l0 := by omega
    rw [e1]
    have h' : ¬ (l1 : Int) < (l0 : Int) := by omega
    go_enter Try.func10, Try.ntmps10
    go_wp2
    go_ret
    exact ⟨rfl, rfl⟩

def FitR (f : Nat → Nat) (k : Nat) (e : Ending) : Prop := ∃ bb, e = .returned (.bool bb) ∧ (bb = true → ∀ i, i < k → f i < 18446744073709551614)
def FitRP (f : Nat → Nat) (g : Nat → Bool) (l1 k : Nat) (e : Ending) : Prop := ∃ bb, e = .returned (.bool bb) ∧ (bb = true → ∀ i, i < k → ¬ (i < l1 ∧ g i = true) → f i < 18446744073709551614)

theorem locsFit_any (a : Option Addr) (l c k B : Nat) (f : Nat → Nat) (w : World) (hl : SlU w B a l f) (hk : k ≤ l) (hk2 : l ≤ 4096) :
    Calls Try.prog 26 #[.slice a l c, .int .i64 (k : Int)] w fun e w' => w' = w ∧ FitR f k e := by
  have HL : Hid (SlU w B a l f) := hl
  clear hl
  go_enter Try.func26, Try.ntmps26
  go_wp2
  go_loop [5] (fun v => ∃ i : Nat, i ≤ k ∧ v = .int .i64 i ∧ Hid (∀ j, j < i → f j < 18446744073709551614)) (fun v => k - (intOf v).toNat)
  case atStart => exact ⟨0, Nat.zero_le _, rfl, fun j hj => by omega⟩
  case round =>
    obtain ⟨i, hi, rfl, hq⟩ := hrel
    by_cases hlt : i < k
    · obtain ⟨b, off, rfl, _, hc⟩ := HL.out i (by omega)
      clear HL
      have HS : Hid (f i < 18446744073709551614 → ∀ j, j < i + 1 → f j < 18446744073709551614) := fun h j hj => by
        by_cases e : j = i
        · subst e; exact h
        · exact hq.out j (by omega)
      generalize f i = z at *
      by_cases hz : z < 18446744073709551614
      · have HZ := HS.out hz
        have HZ' : Hid (∀ j, j < i + 1 → f j < 18446744073709551614) := HZ
        have hd : decide ((18446744073709551614 : Int) ≤ (z : Int)) = false := by rw [decide_eq_false_iff_not]; omega
        clear HS HZ hz
        go_wp2
        go_round
        case rel => exact ⟨i + 1, by omega, by go_num, HZ'⟩
        case measure => simp [intOf]; omega
      · have hd : decide ((18446744073709551614 : Int) ≤ (z : Int)) = true := by rw [decide_eq_true_iff]; omega
        clear HS hz
        go_wp2
        go_ret
        exact ⟨rfl, false, rfl, fun h => by cases h⟩
    · have : i = k := by omega
      subst this
      go_wp2
      go_ret
      exact ⟨rfl, true, rfl, fun _ => hq.out⟩

theorem locsFitPuts_any (a a1 : Option Addr) (l c l1 c1 k B : Nat) (f : Nat → Nat) (g : Nat → Bool) (w : World) (hl : SlU w B a l f) (hl1 : SlB w B a1 l1 g) (hk : k ≤ l) (hk2 : l ≤ 4096) (hk3 : l1 ≤ 4096) :
    Calls Try.prog 11 #[.slice a l c, .slice a1 l1 c1, .int .i64 (k : Int)] w fun e w' => w' = w ∧ FitRP f g l1 k e := by
  have HL : Hid (SlU w B a l f) := hl
  have HL1 : Hid (SlB w B a1 l1 g) := hl1
  clear hl hl1
  go_enter Try.func11, Try.ntmps11
  go_wp2
  go_loop [7] (fun v => ∃ i : Nat, i ≤ k ∧ v = .int .i64 i ∧ Hid (∀ j, j < i → ¬ (j < l1 ∧ g j = true) → f j < 18446744073709551614)) (fun v => k - (intOf v).toNat)
  case atStart => exact ⟨0, Nat.zero_le _, rfl, fun j hj => by omega⟩
  case round =>
    obtain ⟨i, hi, rfl, hq⟩ := hrel
    by_cases hlt : i < k
    · obtain ⟨b, off, rfl, _, hc⟩ := HL.out i (by omega)
      clear HL
      have HS : Hid ((¬ (i < l1 ∧ g i = true) → f i < 18446744073709551614) → ∀ j, j < i + 1 → ¬ (j < l1 ∧ g j = true) → f j < 18446744073709551614) := fun h j hj => by
        by_cases e : j = i
        · subst e; exact h
        · exact hq.out j (by omega)
      by_cases hd : i < l1
      · obtain ⟨b', off', rfl, _, hc'⟩ := HL1.out i hd
        clear HL1
        cases hg : g i with
        | true =>
          rw [hg] at hc' HS
          clear hg
          go_wp2
          go_round
          case rel => exact ⟨i + 1, by omega, by go_num, HS.out (fun hn => absurd ⟨hd, rfl⟩ hn)⟩
          case measure => simp [intOf]; omega
        | false =>
          rw [hg] at hc' HS
          clear hg
          generalize f i = z at *
          by_cases hz : z < 18446744073709551614
          · have HZ := HS.out (fun _ => hz)
            have HZ' : Hid (∀ j, j < i + 1 → ¬ (j < l1 ∧ g j = true) → f j < 18446744073709551614) := HZ
            have hd : decide ((18446744073709551614 : Int) ≤ (z : Int)) = false := by rw [decide_eq_false_iff_not]; omega
            clear HS HZ hz
            go_wp2
            go_round
            case rel => exact ⟨i + 1, by omega, by go_num, HZ'⟩
            case measure => simp [intOf]; omega
          · have hd : decide ((18446744073709551614 : Int) ≤ (z : Int)) = true := by rw [decide_eq_true_iff]; omega
            clear HS hz
            go_wp2
            go_ret
            exact ⟨rfl, false, rfl, fun h => by cases h⟩
      · generalize f i = z at *
        by_cases hz : z < 18446744073709551614
        · have HZ := HS.out (fun _ => hz)
          have HZ' : Hid (∀ j, j < i + 1 → ¬ (j < l1 ∧ g j = true) → f j < 18446744073709551614) := HZ
          have hd : decide ((18446744073709551614 : Int) ≤ (z : Int)) = false := by rw [decide_eq_false_iff_not]; omega
          clear HS HZ hz
          go_wp2
          go_round
          case rel => exact ⟨i + 1, by omega, by go_num, HZ'⟩
          case measure => simp [intOf]; omega
        · have hd : decide ((18446744073709551614 : Int) ≤ (z : Int)) = true := by rw [decide_eq_true_iff]; omega
          clear HS hz
          go_wp2
          go_ret
          exact ⟨rfl, false, rfl, fun h => by cases h⟩
    · have : i = k := by omega
      subst this
      go_wp2
      go_ret
      exact ⟨rfl, true, rfl, fun _ => hq.out⟩

theorem lastPut_any (a a1 : Option Addr) (l c l1 c1 k B h : Nat) (hs locs : Nat → Nat) (w : World) (hl : SlU w B a l hs) (hl1 : SlU w B a1 l1 locs) (hk : k ≤ l) (hk1 : k ≤ l1) (hk2 : l ≤ 4096) (hk3 : l1 ≤ 4096) :
    Calls Try.prog 30 #[.slice a l c, .slice a1 l1 c1, .int .i64 (k : Int), .int .u64 (h : Int)] w fun e w' => e = .returned (lastV (lastM hs locs noDel k h)) ∧ w' = w := by
  have HL : Hid (SlU w B a l hs) := hl
  have HL1 : Hid (SlU w B a1 l1 locs) := hl1
  clear hl hl1
  generalize hm : lastM hs locs noDel k h = m
  have HM : Hid (lastM hs locs noDel k h = m) := hm
  clear hm
  go_enter Try.func30, Try.ntmps30
  go_wp2
  go_loop [10] (fun v => ∃ i : Nat, i ≤ k ∧ v = .int .i64 ((i : Int) - 1) ∧ Hid (lastM hs locs noDel i h = m)) (fun v => (intOf v + 1).toNat)
  case atStart => exact ⟨k, Nat.le_refl _, rfl, HM⟩
  case round =>
    obtain ⟨i, hi, rfl, hq⟩ := hrel
    clear HM
    cases i with
    | zero =>
      have hm0 : m = 0 := hq.out.symm
      subst hm0
      clear hq
      go_wp2
      go_ret2
      exact ⟨rfl, rfl⟩
    | succ i =>
      obtain ⟨b, off, rfl, _, hc⟩ := HL.out i (by omega)
      have HQ : Hid ((if hs i = h then locs i + 1 else lastM hs locs noDel i h) = m) := by
        have := hq.out; simp only [lastM, noDel, Bool.false_eq_true, if_false] at this; exact this
      clear hq
      have e1 : ((i + 1 : Nat) : Int) - 1 = (i : Int) := by omega
      rw [e1]
      by_cases he : hs i = h
      · obtain ⟨b', off', rfl, _, hc'⟩ := HL1.out i (by omega)
        clear HL HL1
        rw [he] at hc
        have HV : Hid (m = locs i + 1) := by have := HQ.out; rw [if_pos he] at this; exact this.symm
        clear HQ he
        generalize locs i = z at *
        have hm1 := HV.out
        subst hm1
        clear HV
        go_wp2
        go_ret2
        exact ⟨by simp [lastV], rfl⟩
      · clear HL HL1
        have HV : Hid (lastM hs locs noDel i h = m) := by have := HQ.out; rw [if_neg he] at this; exact this
        clear HQ
        have he' : ¬ (hs i : Int) = (h : Int) := by omega
        generalize hs i = z at *
        go_wp2
        go_round
        case rel => exact ⟨i, by omega, by go_num, HV⟩
        case measure => simp [intOf]

theorem lastOp_any (a a1 a2 : Option Addr) (l c l1 c1 l2 c2 k B h : Nat) (hs locs : Nat → Nat) (g del : Nat → Bool) (w : World) (hl : SlU w B a l hs) (hl1 : SlU w B a1 l1 locs) (hl2 : SlB w B a2 l2 g) (hk : k ≤ l) (hk1 : k ≤ l1) (hk2 : l ≤ 4096) (hk3 : l1 ≤ 4096) (hk4 : l2 ≤ 4096)
    (hdel : ∀ i, del i = (decide (i < l2) && g i)) :
    Calls Try.prog 20 #[.slice a l c, .slice a1 l1 c1, .slice a2 l2 c2, .int .i64 (k : Int), .int .u64 (h : Int)] w fun e w' => e = .returned (lastV (lastM hs locs del k h)) ∧ w' = w := by
  have HL : Hid (SlU w B a l hs) := hl
  have HL1 : Hid (SlU w B a1 l1 locs) := hl1
  have HL2 : Hid (SlB w B a2 l2 g) := hl2
  have HD : Hid (∀ i, del i = (decide (i < l2) && g i)) := hdel
  clear hl hl1 hl2 hdel
  generalize hm : lastM hs locs del k h = m
  have HM : Hid (lastM hs locs del k h = m) := hm
  clear hm
  go_enter Try.func20, Try.ntmps20
  go_wp2
  go_loop [12] (fun v => ∃ i : Nat, i ≤ k ∧ v = .int .i64 ((i : Int) - 1) ∧ Hid (lastM hs locs del i h = m)) (fun v => (intOf v + 1).toNat)
  case atStart => exact ⟨k, Nat.le_refl _, rfl, HM⟩
  case round =>
    obtain ⟨i, hi, rfl, hq⟩ := hrel
    clear HM
    cases i with
    | zero =>
      have hm0 : m = 0 := hq.out.symm
      subst hm0
      clear hq
      go_wp2
      go_ret2
      exact ⟨rfl, rfl⟩
    | succ i =>
      obtain ⟨b, off, rfl, _, hc⟩ := HL.out i (by omega)
      have HQ : Hid ((if hs i = h then (if del i = true then 0 else locs i + 1) else lastM hs locs del i h) = m) := hq
      clear hq
      have e1 : ((i + 1 : Nat) : Int) - 1 = (i : Int) := by omega
      rw [e1]
      by_cases he : hs i = h
      · obtain ⟨b', off', rfl, _, hc'⟩ := HL1.out i (by omega)
        rw [he] at hc
        have HV : Hid ((if del i = true then 0 else locs i + 1) = m) := by have := HQ.out; rw [if_pos he] at this; exact this
        clear HQ he
        have hdi := HD.out i
        generalize locs i = z at *
        by_cases hd : i < l2
        · obtain ⟨b2, off2, rfl, _, hc2⟩ := HL2.out i hd
          clear HL HL1 HL2 HD
          cases hg : g i with
          | true =>
            rw [hg] at hc2 hdi
            have hm1 := HV.out
            rw [hdi] at hm1
            simp [hd] at hm1
            subst hm1
            clear HV hdi hg
            go_wp2
            go_ret2
            exact ⟨rfl, rfl⟩
          | false =>
            rw [hg] at hc2 hdi
            have hm1 := HV.out
            rw [hdi] at hm1
            simp at hm1
            subst hm1
            clear HV hdi hg
            go_wp2
            go_ret2
            exact ⟨by simp [lastV], rfl⟩
        · clear HL HL1 HL2 HD
          have hm1 := HV.out
          rw [hdi] at hm1
          simp [hd] at hm1
          subst hm1
          clear HV hdi
          go_wp2
          go_ret2
          exact ⟨by simp [lastV], rfl⟩
      · clear HL HL1 HL2 HD
        have HV : Hid (lastM hs locs del i h = m) := by have := HQ.out; rw [if_neg he] at this; exact this
        clear HQ
        have he' : ¬ (hs i : Int) = (h : Int) := by omega
        generalize hs i = z at *
        go_wp2
        go_round
        case rel => exact ⟨i, by omega, by go_num, HV⟩
        case measure => simp [intOf]

end Go.Proofs.Qxb6601018a
