/-
  bits.Len, nextPowerOfTwo, xorshift.Next, breakPatternsOrdered at uint64.
-/
import Derived.Test.Qxb6601576aPivot
import Derived.Test.Qxb6601576aLen
import Derived.Deep.CutBlock
import Derived.Deep.DeepCutAuto
set_option linter.unusedVariables false
namespace Go.Proofs.Qxb6601576a
open Go.RowKit

theorem u64_mask (x : Int) (e : Nat) (he : e ≤ 32) : bits .and .u64 x (((2 ^ e : Nat) : Int) - 1) = x % ((2 ^ e : Nat) : Int) := by
  have hp : 2 ^ e ≤ 2 ^ 32 := Nat.pow_le_pow_right (by decide) he
  have hp0 : 0 < 2 ^ e := Nat.two_pow_pos e
  have e1 : (((2 ^ e : Nat) : Int) - 1) = ((2 ^ e - 1 : Nat) : Int) := by omega
  have hm : (BitVec.ofInt 64 ((2 ^ e - 1 : Nat) : Int)).toNat = 2 ^ e - 1 := by
    rw [BitVec.ofInt_natCast, BitVec.toNat_ofNat]; exact Nat.mod_eq_of_lt (by omega)
  have key : (BitVec.ofInt 64 x &&& BitVec.ofInt 64 ((2 ^ e - 1 : Nat) : Int)).toNat = (x % ((2 ^ 64 : Nat) : Int)).toNat % 2 ^ e := by
    rw [BitVec.toNat_and, BitVec.toNat_ofInt, hm, Nat.and_two_pow_sub_one_eq_mod]
  rw [e1]
  show IntKind.u64.wrap ((BitVec.ofInt 64 x &&& BitVec.ofInt 64 ((2 ^ e - 1 : Nat) : Int)).toNat : Nat) = _
  rw [key, IntKind.wrap_u64]
  have hdvd : ((2 ^ e : Nat) : Int) ∣ ((2 ^ 64 : Nat) : Int) := by
    rw [Int.natCast_dvd_natCast]; exact Nat.pow_dvd_pow 2 (by omega)
  have h0 : 0 ≤ x % ((2 ^ 64 : Nat) : Int) := Int.emod_nonneg _ (by decide)
  have h2 : (((x % ((2 ^ 64 : Nat) : Int)).toNat % 2 ^ e : Nat) : Int) = x % ((2 ^ e : Nat) : Int) := by
    rw [Int.natCast_emod, Int.toNat_of_nonneg h0, Int.emod_emod_of_dvd _ hdvd]
  rw [h2]
  have h3 : 0 ≤ x % ((2 ^ e : Nat) : Int) := Int.emod_nonneg _ (by omega)
  have h4 : x % ((2 ^ e : Nat) : Int) < ((2 ^ e : Nat) : Int) := Int.emod_lt_of_pos _ (by omega)
  generalize x % ((2 ^ e : Nat) : Int) = y at *
  generalize 2 ^ e = m at *
  omega

set_option maxHeartbeats 4000000 in
set_option maxRecDepth 100000 in
theorem nextPower_u64 (n : Nat) (w : World) (h0 : 0 < n) (h1 : n ≤ 1000) :
    Calls Try.prog 51 #[.int .i64 n] w fun e w' => ∃ k, e = .returned (.int .u64 ((2 ^ k : Nat) : Int)) ∧ k ≤ 10 ∧ 2 ^ k ≤ 2 * n ∧ w' = w := by
  have hk := bitLen_ok ⟨n, by omega⟩
  have hk1 : Lib.bitLen n ≤ 10 := hk.1
  have hk2 : 2 ^ Lib.bitLen n ≤ 2 * n := hk.2 h0
  clear hk
  have hcall := len_u64 n w (by omega) (by omega)
  rw [Int.toNat_natCast] at hcall
  obtain ⟨k, ek⟩ : ∃ k, k = Lib.bitLen n := ⟨_, rfl⟩
  rw [← ek] at hk1 hk2 hcall
  clear ek
  have hwr : IntKind.u64.wrap (2 ^ k) = ((2 ^ k : Nat) : Int) := by
    rw [IntKind.wrap_u64, Int.natCast_pow]
    refine Int.emod_eq_of_lt (Int.le_of_lt (Int.pow_pos (by decide))) ?_
    have h2 : ((2 ^ k : Nat) : Int) ≤ 2 * n := by exact_mod_cast hk2
    rw [Int.natCast_pow] at h2
    simp only [Int.cast_ofNat_Int] at h2 ⊢
    omega
  have HWR : Hid _ := hwr
  clear hwr
  go_enter Try.func51, Try.ntmps51
  go_wp2_with fail
  refine hcall.mono ?_
  rintro e w' ⟨rfl, rfl⟩
  go_wp2_with fail
  go_ret
  exact ⟨k, congrArg Ending.returned (congrArg (Value.int IntKind.u64) HWR.out), hk1, hk2, rfl⟩

structure RndAt (w : World) (rb : Nat) : Prop where
  lt : rb < w.heap.size
  cell : ∃ r : Int, w.cell? ⟨rb, 0, none⟩ = some (.int .u64 r)
  fz : w.frozen? ⟨rb, 0, none⟩ = false

theorem RndAt.drew {w : World} {rb : Nat} (h : RndAt w rb) : RndAt w.drew rb := ⟨h.lt, h.cell, h.fz⟩
theorem RndAt.set {w : World} {rb : Nat} (h : RndAt w rb) (r : Int) : RndAt (w.setCell ⟨rb, 0, none⟩ (.int .u64 r)) rb := by
  obtain ⟨r0, hc⟩ := h.cell
  exact ⟨by simpa [World.setCell] using h.lt, ⟨r, World.cell?_setCell_same _ _ _ hc⟩, by rw [RowAt.frozen_set]; exact h.fz⟩

theorem RndAt.other {w : World} {rb : Nat} (h : RndAt w rb) {p : Addr} (hp : rb ≠ p.block) (v : Value) : RndAt (w.setCell p v) rb := by
  obtain ⟨r0, hc⟩ := h.cell
  refine ⟨by simpa [World.setCell] using h.lt, ⟨r0, ?_⟩, by rw [RowAt.frozen_set]; exact h.fz⟩
  rw [World.cell?_setCell_other _ _ _ _ (fun hh => hp (by rw [hh]))]; exact hc

set_option maxHeartbeats 4000000 in
theorem next_u64 (rb : Nat) (w : World) (h : RndAt w rb) :
    Calls Try.prog 52 #[.pointer (some ⟨rb, 0, none⟩)] w fun e w' => ∃ v : Int, e = .returned (.int .u64 v) ∧ RndAt w' rb ∧ Fr [rb] w w' := by
  obtain ⟨r, c0⟩ := h.cell
  have f0 := h.fz
  have H : Hid (RndAt w rb) := h
  clear h
  go_enter Try.func52, Try.ntmps52
  go_wp2_with fail
  go_region
  generalize hw1 : World.drew _ = w1
  have H1 : Hid (RndAt w1 rb ∧ Fr [rb] w w1) := by rw [← hw1]; exact ⟨(H.out.set _).drew, ((Fr.refl _ _).setCell (.inl (by simp)) _).drew⟩
  clear hw1
  obtain ⟨r1, c1⟩ := H1.out.1.cell
  have f1 := H1.out.1.fz
  go_wp2_with fail
  go_region
  generalize hw2 : World.drew _ = w2
  have H2 : Hid (RndAt w2 rb ∧ Fr [rb] w w2) := by rw [← hw2]; exact ⟨(H1.out.1.set _).drew, (H1.out.2.setCell (.inl (by simp)) _).drew⟩
  clear hw2
  obtain ⟨r2, c2⟩ := H2.out.1.cell
  have f2 := H2.out.1.fz
  go_wp2_with fail
  go_region
  generalize hw3 : World.drew _ = w3
  have H3 : Hid (RndAt w3 rb ∧ Fr [rb] w w3) := by rw [← hw3]; exact ⟨(H2.out.1.set _).drew, (H2.out.2.setCell (.inl (by simp)) _).drew⟩
  clear hw3
  obtain ⟨r3, c3⟩ := H3.out.1.cell
  go_wp2_with fail
  go_ret
  exact ⟨r3, rfl, H3.out.1, H3.out.2⟩

set_option maxHeartbeats 8000000 in
theorem breakPatterns_u64 (blk off n cap a b : Nat) (D : Row) (w : World) (hR : RowAt .u64 w blk off n D) (hab : a ≤ b) (hb : b ≤ n) (hn : n ≤ 1000) :
    Calls Try.prog 41 #[.slice (some ⟨blk, off, none⟩) n cap, .int .i64 a, .int .i64 b] w fun e w' =>
      e = .returned (.tuple #[]) ∧ ∃ D', Left w w' blk off n D D' a b := by
  have hq : ((b : Int) - (a : Int)).tdiv 4 = (((b - a) / 4 : Nat) : Int) := by
    rw [Int.tdiv_eq_ediv_of_nonneg (by omega)]; omega
  obtain ⟨q, eq⟩ : ∃ q, q = (b - a) / 4 := ⟨_, rfl⟩
  rw [← eq] at hq
  have hq2 : 4 * q ≤ b - a := by omega
  have hq1 : 8 ≤ (b : Int) - (a : Int) → 2 ≤ q := fun h => by omega
  have HL : Hid (Left w w blk off n D D a b) := Left.start hR
  have hlt := hR.lt
  clear hR eq
  go_enter Try.func41, Try.ntmps41
  go_wp2_with fail
  · have hq3 := hq1 (by assumption)
    have h8 : 8 ≤ (b : Int) - (a : Int) := by assumption
    clear hq1
    have hcall := nextPower_u64 (b - a) (w.alloc (Obj.cells #[Value.int IntKind.u64 ((b : Int) - a)] 92)) (by omega) (by omega)
    rw [show ((b - a : Nat) : Int) = (b : Int) - a by omega] at hcall
    refine hcall.mono ?_
    clear hcall
    rintro e w1 ⟨k, rfl, hk, hk2, rfl⟩
    have hmask : ∀ x : Int, ∃ o : Nat, bits .and .u64 x (((2 ^ k : Nat) : Int) - 1) = (o : Int) ∧ o < 2 * (b - a) := by
      intro x
      rw [u64_mask x k (by omega)]
      have hp0 : 0 < 2 ^ k := Nat.two_pow_pos k
      have h3 : 0 ≤ x % ((2 ^ k : Nat) : Int) := Int.emod_nonneg _ (by omega)
      have h4 : x % ((2 ^ k : Nat) : Int) < ((2 ^ k : Nat) : Int) := Int.emod_lt_of_pos _ (by omega)
      refine ⟨(x % ((2 ^ k : Nat) : Int)).toNat, by omega, by omega⟩
    have hM1 : 1 ≤ 2 ^ k := Nat.two_pow_pos k
    obtain ⟨M, eM⟩ : ∃ M : Nat, M = 2 ^ k := ⟨_, rfl⟩
    rw [← eM] at hmask hM1 hk2 ⊢
    clear eM hk
    have HMASK : Hid _ := hmask
    clear hmask
    have HL1 : Hid (Left w (w.alloc (Obj.cells #[Value.int IntKind.u64 ((b : Int) - a)] 92)) blk off n D D a b) := ⟨HL.out.row.alloc _, HL.out.fr.alloc _, HL.out.perm⟩
    have HD1 : Hid (RndAt (w.alloc (Obj.cells #[Value.int IntKind.u64 ((b : Int) - a)] 92)) w.heap.size) := by
      refine ⟨by simp, ⟨(b : Int) - a, by simp⟩, by simp⟩
    go_wp2_with fail
    go_loopw [9] (fun vi wr => ∃ (i : Nat) (E : Row), vi = .int .i64 i ∧ a + q * 2 ≤ i + 1 ∧ i ≤ a + q * 2 + 2 ∧ Left w wr blk off n D E a b ∧ RndAt wr w.heap.size) (fun vi _ => a + q * 2 + 2 - (intOf vi).toNat)
    case atStart => exact ⟨a + q * 2 - 1, D, by congr 1; omega, by omega, by omega, HL1.out, HD1.out⟩
    case round =>
      obtain ⟨i, E, rfl, hi1, hi2, hL2, hD2⟩ := hrel
      have HL2 : Hid (Left w wr blk off n D E a b) := hL2
      have HD2 : Hid (RndAt wr w.heap.size) := hD2
      clear hL2 hD2 HL1 HD1
      go_wp2_with fail
      · have hle : (i : Int) ≤ a + q * 2 + 1 := by assumption
        refine (next_u64 w.heap.size wr HD2.out).mono ?_
        rintro e w2 ⟨v, rfl, hD3, hF3⟩
        have HD3 : Hid (RndAt w2 w.heap.size) := hD3
        have HL3 : Hid (Left w w2 blk off n D E a b) :=
          ⟨HL2.out.row.fr hF3 (by simp; omega), HL2.out.fr.trans hF3 (fun x hx => by simp at hx; omega), HL2.out.perm⟩
        clear hD3 hF3
        obtain ⟨o, ho, holt⟩ := HMASK.out v
        go_upto_if 43 with fail
        go_cut [10] (fun v10 wc => ∃ o2 : Nat, v10 = .int .i64 o2 ∧ o2 < b - a ∧ wc = w2)
        case first =>
          go_wp2_with fail
          · go_meet
            case rel => exact ⟨o - (b - a), by congr 1; omega, by omega, rfl⟩
          · go_meet
            case rel => exact ⟨o, rfl, by omega, rfl⟩
        case rest =>
          obtain ⟨o2, rfl, ho2, rfl⟩ := hcut
          clear ho
          have hcw := HL3.out.row.cell
          have hfw := HL3.out.row.fz
          have hl := HL3.out.swap i (a + o2) (by omega) (by omega)
          by_cases e : i = a + o2
          · subst e
            go_wp2_with fail
            go_region
            all_goals go_wp2_with fail
            go_roundw
            case rel => exact ⟨a + o2 + 1, swp E (a + o2) (a + o2), by go_num, by omega, by omega, hl.drew, (RndAt.other (RndAt.other HD3.out (by simp; omega) _) (by simp; omega) _).drew⟩
            case measure => simp [intOf]; omega
          · go_wp2_with fail
            go_region
            all_goals go_wp2_with fail
            go_roundw
            case rel => exact ⟨i + 1, swp E i (a + o2), by go_num, by omega, by omega, hl.drew, (RndAt.other (RndAt.other HD3.out (by simp; omega) _) (by simp; omega) _).drew⟩
            case measure => simp [intOf]; omega
      · go_end0
        exact ⟨rfl, E, HL2.out⟩
  · go_end0
    exact ⟨rfl, D, HL.out⟩

end Go.Proofs.Qxb6601576a
