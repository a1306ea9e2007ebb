/-
  choosePivotOrdered at uint64: an index in the range; what it reads stays.
-/
import Derived.Test.Qxb6601576aIns
set_option linter.unusedVariables false
namespace Go.Proofs.Qxb6601576a
open Go.RowKit

structure CntAt (w : World) (sb s : Nat) : Prop where
  lt : sb < w.heap.size
  cell : w.cell? ⟨sb, 0, none⟩ = some (.int .i64 s)
  fz : w.frozen? ⟨sb, 0, none⟩ = false

structure CntLeft (w w' : World) (sb s d : Nat) : Prop where
  fr : Fr [sb] w w'
  cnt : ∃ s', s' ≤ s + d ∧ CntAt w' sb s'

theorem CntAt.drewN {w : World} {sb s : Nat} (h : CntAt w sb s) (m : Nat) : CntAt (w.drewN m) sb s := by
  have hb := (below_drewN' (w := w) m)
  refine ⟨Nat.lt_of_lt_of_le h.lt hb.size, ?_, ?_⟩
  · rw [← h.cell]; simp [World.cell?]
  · rw [← h.fz]; simp [World.frozen?]

set_option maxHeartbeats 4000000 in
theorem order2_u64 (blk off n cap a b sb s : Nat) (D : Row) (w : World) (hR : RowAt .u64 w blk off n D) (hC : CntAt w sb s) (hs : s ≤ 1000) (ha : a < n) (hb : b < n) (hn : n ≤ 1000) :
    Calls Try.prog 56 #[.slice (some ⟨blk, off, none⟩) n cap, .int .i64 a, .int .i64 b, .pointer (some ⟨sb, 0, none⟩)] w fun e w' =>
      ∃ x y : Nat, e = .returned (.tuple #[.int .i64 x, .int .i64 y]) ∧ (x = a ∧ y = b ∨ x = b ∧ y = a) ∧ CntLeft w w' sb s 1 := by
  have hcw := hR.cell
  have hfw := hR.fz
  have c0 := hC.cell
  have c1 := hC.fz
  have HC : Hid (CntAt w sb s) := hC
  clear hR hC
  go_enter Try.func56, Try.ntmps56
  go_wp2_with fail
  go_big_quiet (first | (go_at_call 45; refine Calls.quiet_of_same (less_u64 _ _ _)))
  go_wp2_with fail
  · go_ret2
    refine ⟨b, a, rfl, .inr ⟨rfl, rfl⟩, ?_, s + 1, Nat.le_refl _, ?_⟩
    · exact ((Fr.refl [sb] w).drewN nq).setCell (.inl (by simp)) _
    · have h := HC.out.drewN nq
      refine ⟨by simpa [World.setCell] using h.lt, ?_, ?_⟩
      · exact World.cell?_setCell_same _ _ _ h.cell
      · rw [RowAt.frozen_set]; exact h.fz
  · go_ret2
    exact ⟨a, b, rfl, .inl ⟨rfl, rfl⟩, (Fr.refl [sb] w).drewN nq, s, by omega, HC.out.drewN nq⟩

set_option maxHeartbeats 4000000 in
theorem median_u64 (blk off n cap a b c sb s : Nat) (D : Row) (w : World) (hR : RowAt .u64 w blk off n D) (hne : blk ≠ sb) (hC : CntAt w sb s) (hs : s ≤ 900) (ha : a < n) (hb : b < n) (hc : c < n) (hn : n ≤ 1000) :
    Calls Try.prog 54 #[.slice (some ⟨blk, off, none⟩) n cap, .int .i64 a, .int .i64 b, .int .i64 c, .pointer (some ⟨sb, 0, none⟩)] w fun e w' =>
      ∃ x : Nat, e = .returned (.int .i64 x) ∧ (x = a ∨ x = b ∨ x = c) ∧ CntLeft w w' sb s 3 := by
  have HR : Hid (RowAt .u64 w blk off n D) := hR
  have HC : Hid (CntAt w sb s) := hC
  clear hR hC
  go_enter Try.func54, Try.ntmps54
  go_wp2_with fail
  refine (order2_u64 blk off n cap a b sb s D w HR.out HC.out (by omega) ha hb hn).mono ?_
  rintro e w1 ⟨x1, y1, rfl, h1, f1, s1, hs1, c1⟩
  have HR1 : Hid (RowAt .u64 w1 blk off n D) := HR.out.fr f1 (by simpa using hne)
  have F1 : Hid _ := f1
  have C1 : Hid _ := c1
  have H1 : Hid (x1 = a ∧ y1 = b ∨ x1 = b ∧ y1 = a) := h1
  have hy1 : y1 < n := by omega
  have hx1 : x1 < n := by omega
  clear f1 c1 h1
  go_wp2_with fail
  refine (order2_u64 blk off n cap y1 c sb s1 D w1 HR1.out C1.out (by omega) hy1 hc hn).mono ?_
  rintro e w2 ⟨x2, y2, rfl, h2, f2, s2, hs2, c2⟩
  have HR2 : Hid (RowAt .u64 w2 blk off n D) := HR1.out.fr f2 (by simpa using hne)
  have F2 : Hid _ := f2
  have C2 : Hid _ := c2
  have H2 : Hid (x2 = y1 ∧ y2 = c ∨ x2 = c ∧ y2 = y1) := h2
  have hx2 : x2 < n := by omega
  clear f2 c2 h2
  go_wp2_with fail
  refine (order2_u64 blk off n cap x1 x2 sb s2 D w2 HR2.out C2.out (by omega) hx1 hx2 hn).mono ?_
  rintro e w3 ⟨x3, y3, rfl, h3, f3, s3, hs3, c3⟩
  have H3 : Hid (x3 = x1 ∧ y3 = x2 ∨ x3 = x2 ∧ y3 = x1) := h3
  have F3 : Hid _ := f3
  have C3 : Hid _ := c3
  clear f3 c3 h3
  go_wp2_with fail
  go_ret
  refine ⟨y3, rfl, ?_, (F1.out.trans' F2.out).trans' F3.out, s3, by omega, C3.out⟩
  have := H1.out
  have := H2.out
  have := H3.out
  omega

theorem medianAdjacent_u64 (blk off n cap a sb s : Nat) (D : Row) (w : World) (hR : RowAt .u64 w blk off n D) (hne : blk ≠ sb) (hC : CntAt w sb s) (hs : s ≤ 900) (ha : 0 < a) (hb : a + 1 < n) (hn : n ≤ 1000) :
    Calls Try.prog 53 #[.slice (some ⟨blk, off, none⟩) n cap, .int .i64 a, .pointer (some ⟨sb, 0, none⟩)] w fun e w' =>
      ∃ x : Nat, e = .returned (.int .i64 x) ∧ (a ≤ x + 1 ∧ x ≤ a + 1) ∧ CntLeft w w' sb s 3 := by
  have hcall := median_u64 blk off n cap (a - 1) a (a + 1) sb s D w hR hne hC hs (by omega) (by omega) hb hn
  rw [show ((a - 1 : Nat) : Int) = (a : Int) - 1 by omega, show ((a + 1 : Nat) : Int) = (a : Int) + 1 by omega] at hcall
  clear hR hC
  go_enter Try.func53, Try.ntmps53
  go_wp2_with fail
  refine hcall.mono ?_
  rintro e w' ⟨x, rfl, hx, hl⟩
  have HX : Hid (x = a - 1 ∨ x = a ∨ x = a + 1) := hx
  have HL : Hid _ := hl
  clear hx hl
  go_wp2_with fail
  go_ret
  refine ⟨x, rfl, ?_, HL.out⟩
  have := HX.out
  omega

/-- a fresh counter -/
theorem cnt_fresh (w : World) : CntAt (w.alloc (.cells #[.int .i64 0] 3)) w.heap.size 0 := by
  refine ⟨by simp, ?_, ?_⟩
  · simp
  · simp

set_option maxHeartbeats 8000000 in
theorem choosePivot_u64 (blk off n cap a b : Nat) (D : Row) (w : World) (hR : RowAt .u64 w blk off n D) (hab : a + 12 < b) (hb : b ≤ n) (hn : n ≤ 1000) :
    Calls Try.prog 42 #[.slice (some ⟨blk, off, none⟩) n cap, .int .i64 a, .int .i64 b] w fun e w' =>
      ∃ (m h : Nat), e = .returned (.tuple #[.int .i64 m, .int .i64 h]) ∧ (a ≤ m ∧ m < b) ∧ Below w.heap.size w w' := by
  have hq : ((b : Int) - (a : Int)).tdiv 4 = (((b - a) / 4 : Nat) : Int) := by
    rw [Int.tdiv_eq_ediv_of_nonneg (by omega)]; omega
  obtain ⟨q, eq⟩ : ∃ q, q = (b - a) / 4 := ⟨_, rfl⟩
  rw [← eq] at hq
  have hq1 : 3 ≤ q := by omega
  have hq2 : 4 * q ≤ b - a := by omega
  have HR : Hid (RowAt .u64 (w.alloc (.cells #[.int .i64 0] 3)) blk off n D) := hR.alloc _
  have hlt := hR.lt
  have hne : blk ≠ w.heap.size := by omega
  have F0 : Hid (Fr [w.heap.size] w (w.alloc (.cells #[.int .i64 0] 3))) := (Fr.refl _ _).alloc _
  have hq3 : 50 ≤ (b : Int) - (a : Int) → 12 ≤ q := fun h => by omega
  clear hR eq
  go_enter Try.func42, Try.ntmps42
  go_wp2_with fail
  · have hq4 := hq3 (by assumption)
    clear hq3
    have hcall := medianAdjacent_u64 blk off n cap (a + q) w.heap.size 0 D _ HR.out hne (cnt_fresh w) (by omega) (by omega) (by omega) hn
    rw [show ((a + q : Nat) : Int) = (a : Int) + (q : Int) by omega] at hcall
    refine hcall.mono ?_
    clear hcall
    rintro e w1 ⟨x1, rfl, hx1, f1, s1, hs1, c1⟩
    have HR1 : Hid (RowAt .u64 w1 blk off n D) := HR.out.fr f1 (by simpa using hne)
    have F1 : Hid (Fr [w.heap.size] w w1) := F0.out.trans' f1
    have C1 : Hid _ := c1
    clear f1 c1
    go_wp2_with fail
    have hcall := medianAdjacent_u64 blk off n cap (a + q * 2) w.heap.size s1 D _ HR1.out hne C1.out (by omega) (by omega) (by omega) hn
    rw [show ((a + q * 2 : Nat) : Int) = (a : Int) + (q : Int) * 2 by omega] at hcall
    refine hcall.mono ?_
    clear hcall
    rintro e w2 ⟨x2, rfl, hx2, f2, s2, hs2, c2⟩
    have HR2 : Hid (RowAt .u64 w2 blk off n D) := HR1.out.fr f2 (by simpa using hne)
    have F2 : Hid (Fr [w.heap.size] w w2) := F1.out.trans' f2
    have C2 : Hid _ := c2
    clear f2 c2
    go_wp2_with fail
    have hcall := medianAdjacent_u64 blk off n cap (a + q * 3) w.heap.size s2 D _ HR2.out hne C2.out (by omega) (by omega) (by omega) hn
    rw [show ((a + q * 3 : Nat) : Int) = (a : Int) + (q : Int) * 3 by omega] at hcall
    refine hcall.mono ?_
    clear hcall
    rintro e w3 ⟨x3, rfl, hx3, f3, s3, hs3, c3⟩
    have HR3 : Hid (RowAt .u64 w3 blk off n D) := HR2.out.fr f3 (by simpa using hne)
    have F3 : Hid (Fr [w.heap.size] w w3) := F2.out.trans' f3
    have C3 : Hid _ := c3
    clear f3 c3
    go_wp2_with fail
    refine (median_u64 blk off n cap x1 x2 x3 w.heap.size s3 D _ HR3.out hne C3.out (by omega) (by omega) (by omega) (by omega) hn).mono ?_
    rintro e w4 ⟨x4, rfl, hx4, f4, s4, hs4, c4⟩
    have F4 : Hid (Below w.heap.size w w4) := (F3.out.trans' f4).below (by simp) (Nat.le_refl _)
    have hcc := c4.cell
    have HM : Hid (a ≤ x4 ∧ x4 < b) := ⟨by omega, by omega⟩
    clear f4 c4 hx4 hx1 hx2 hx3
    go_wp2_with fail
    all_goals go_ret2
    · exact ⟨x4, 1, rfl, HM.out, F4.out⟩
    · exact ⟨x4, 2, rfl, HM.out, F4.out⟩
    · exact ⟨x4, 0, rfl, HM.out, F4.out⟩
  · clear hq3
    have hcall := median_u64 blk off n cap (a + q) (a + q * 2) (a + q * 3) w.heap.size 0 D _ HR.out hne (cnt_fresh w) (by omega) (by omega) (by omega) (by omega) hn
    rw [show ((a + q : Nat) : Int) = (a : Int) + (q : Int) by omega, show ((a + q * 2 : Nat) : Int) = (a : Int) + (q : Int) * 2 by omega, show ((a + q * 3 : Nat) : Int) = (a : Int) + (q : Int) * 3 by omega] at hcall
    refine hcall.mono ?_
    clear hcall
    rintro e w4 ⟨x4, rfl, hx4, f4, s4, hs4, c4⟩
    have F4 : Hid (Below w.heap.size w w4) := (F0.out.trans' f4).below (by simp) (Nat.le_refl _)
    have hcc := c4.cell
    have HM : Hid (a ≤ x4 ∧ x4 < b) := ⟨by omega, by omega⟩
    clear f4 c4 hx4
    go_wp2_with fail
    all_goals go_ret2
    · exact ⟨x4, 1, rfl, HM.out, F4.out⟩
    · exact ⟨x4, 0, rfl, HM.out, F4.out⟩

end Go.Proofs.Qxb6601576a
