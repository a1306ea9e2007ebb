/-
  THE STORES into an index, told of the index.
-/
import Derived.Test.Qxb6601018aMake
set_option linter.unusedVariables false
namespace Go.Proofs.Qxb6601018a
open Go.RowKit

namespace IxAt
variable {w w' : World} {b pb ob : Nat} {x : Ix}

theorem c2nil (h : IxAt w b pb ob x) (h0 : x.om = 0) : w.cell? ⟨b, 2, none⟩ = some (.slice none 0 0) := by rw [h.c2, oldV_nil h0]
theorem c2old (h : IxAt w b pb ob x) (h0 : x.om ≠ 0) : w.cell? ⟨b, 2, none⟩ = some (.slice (some ⟨ob, 0, none⟩) x.om x.om) := by rw [h.c2, oldV_some h0]

theorem setN (h : IxAt w b pb ob x) (m : Nat) (z : Int) (hz : z = (m : Int)) : IxAt (w.setCell ⟨b, 1, none⟩ (.int .i64 z)) b pb ob { x with n := m } := by
  subst hz
  refine ⟨?_, h.tab.setOther (Ne.symm h.ne1) _, fun h0 => (h.old h0).setOther (Ne.symm (h.ne2 h0).1) _, h.ne1, h.ne2⟩
  have := hd_set 1 (.int .i64 (m : Int)) h.hd
  exact this

theorem setNx (h : IxAt w b pb ob x) (m : Nat) (z : Int) (hz : z = (m : Int)) : IxAt (w.setCell ⟨b, 3, none⟩ (.int .i64 z)) b pb ob { x with nx := m } := by
  subst hz
  refine ⟨?_, h.tab.setOther (Ne.symm h.ne1) _, fun h0 => (h.old h0).setOther (Ne.symm (h.ne2 h0).1) _, h.ne1, h.ne2⟩
  have := hd_set 3 (.int .i64 (m : Int)) h.hd
  exact this

theorem setNil (h : IxAt w b pb ob x) : IxAt (w.setCell ⟨b, 2, none⟩ (.slice none 0 0)) b pb ob { x with om := 0 } := by
  refine ⟨?_, h.tab.setOther (Ne.symm h.ne1) _, fun h0 => absurd rfl h0, h.ne1, fun h0 => absurd rfl h0⟩
  have := hd_set 2 (.slice none 0 0) h.hd
  exact this

theorem setPlace (h : IxAt w b pb ob x) (i k v : Nat) (z : Int) (hz : z = (v : Int)) :
    IxAt ((w.setCell ⟨pb, i * 2, none⟩ (.int .u64 (k : Int))).setCell ⟨pb, i * 2 + 1, none⟩ (.int .u64 z)) b pb ob { x with P := upd x.P i (k, v) } := by
  subst hz
  refine ⟨?_, h.tab.set2 i k v, fun h0 => ((h.old h0).setOther (Ne.symm (h.ne2 h0).2) _).setOther (Ne.symm (h.ne2 h0).2) _, h.ne1, h.ne2⟩
  show ((w.setCell _ _).setCell _ _).heap[b]? = _
  rw [Below.heap_setCell _ _ _ _ h.ne1, Below.heap_setCell _ _ _ _ h.ne1]
  exact h.hd

theorem setGone (h : IxAt w b pb ob x) (h0 : x.om ≠ 0) (i : Nat) :
    IxAt (w.setCell ⟨ob, i * 2 + 1, none⟩ (.int .u64 18446744073709551615)) b pb ob { x with O := upd x.O i ((x.O i).1, gone) } := by
  refine ⟨?_, h.tab.setOther (h.ne2 h0).2 _, fun h0 => (h.old h0).set1 i gone, h.ne1, h.ne2⟩
  show (w.setCell _ _).heap[b]? = _
  rw [Below.heap_setCell _ _ _ _ (h.ne2 h0).1]
  exact h.hd

end IxAt

theorem release_nil {w : World} {b pb ob : Nat} {x : Ix} (h : IxAt w b pb ob x) (h0 : x.om = 0) (k : Nat) :
    Calls Try.prog 49 #[.pointer (some ⟨b, 0, none⟩), .int .u64 (k : Int)] w fun e w' => e = .returned (.tuple #[]) ∧ w' = w := by
  have c2 := h.c2
  rw [oldV_nil h0] at c2
  clear h
  have hnil := eqNil52
  go_enter Try.func49, Try.ntmps49
  go_wp2
  exact bodyPost_ret (results_none Try.results49 _ _ _) rfl ⟨rfl, rfl⟩

theorem step_nil {w : World} {b pb ob : Nat} {x : Ix} (h : IxAt w b pb ob x) (h0 : x.om = 0) :
    Calls Try.prog 48 #[.pointer (some ⟨b, 0, none⟩)] w fun e w' => e = .returned (.tuple #[]) ∧ w' = w := by
  have c2 := h.c2
  rw [oldV_nil h0] at c2
  clear h
  have hnil := eqNil52
  go_enter Try.func48, Try.ntmps48
  go_wp2
  exact bodyPost_ret (results_none Try.results48 _ _ _) rfl ⟨rfl, rfl⟩

/-- behind a put at place r -/
def putIx (x : Ix) (r k loc : Nat) : Ix := { x with n := x.n + (if (x.P r).2 = 0 then 1 else 0), P := upd x.P r (k, loc + 1) }

set_option maxHeartbeats 1000000 in
/-- put where there is no old table and the table does not grow -/
theorem put_fixed {w : World} {b pb ob : Nat} {x : Ix} (h : IxAt w b pb ob x) (h0 : x.om = 0) (k loc : Nat) (hloc : loc < 18446744073709551614) (hp : Pw x.sz) (hs : x.sz ≤ 16384) (hex : ∃ q, q < x.sz ∧ (x.P q).2 = 0)
    (hnn : x.n + 1 ≤ x.sz / 4 * 3) :
    Calls Try.prog 43 #[.pointer (some ⟨b, 0, none⟩), .int .u64 (k : Int), .int .u64 (loc : Int)] w fun e w' => e = .returned (.tuple #[]) ∧ Fr [b, pb] w w' ∧
      ∃ r, IsProbe (stopP x.P k) x.sz (k % x.sz) r ∧ IxAt w' b pb ob (putIx x r k loc) := by
  have hn1 : 1 ≤ x.sz := hp.pos
  have hw2 : IntKind.u64.wrap ((loc : Int) + 1) = (loc : Int) + 1 := by rw [IntKind.wrap_u64]; omega
  clear hloc
  have hw1 : IntKind.u64.wrap (↑x.sz - 1) = ↑x.sz - 1 := by rw [IntKind.wrap_u64]; omega
  have hss : k % x.sz < x.sz := Nat.mod_lt _ hn1
  have hA := hp.u64 k
  have HP : Hid (Pw x.sz) := hp
  have HX : Hid (∃ q, q < x.sz ∧ stopP x.P k q) := by obtain ⟨q, h1, h2⟩ := hex; exact ⟨q, h1, .inl h2⟩
  have HI : Hid (IxAt w b pb ob x) := h
  have c0 := h.c0
  have c1 := h.c1
  have c2 := h.c2
  rw [oldV_nil h0] at c2
  have f1 := h.fz 1
  have hne := h.ne1
  have hne' := Ne.symm h.ne1
  have HT : Hid (TabAt w pb x.sz x.P) := h.tab
  clear h hp hex
  generalize hs0 : k % x.sz = s at *
  clear hs0
  have hnil := eqNil52
  have H0 : Hid (x.om = 0) := h0
  clear h0
  have hnI : (x.n : Int) + 1 ≤ (x.sz : Int) / 4 * 3 := by omega
  clear hnn
  go_enter Try.func43, Try.ntmps43
  go_wp2_with fail
  refine (release_nil HI.out H0.out k).mono ?_
  rintro e w' ⟨rfl, rfl⟩
  go_wp2_with fail
  clear hA
  go_loop [7] (fun v => ∃ i : Nat, i < x.sz ∧ v = .int .u64 i ∧ Hid (∀ c, c < x.sz → dist x.sz s c < dist x.sz s i → ¬ stopP x.P k c)) (fun v => x.sz - dist x.sz s (intOf v).toNat)
  case atStart => exact ⟨s, hss, rfl, fun c hc hd => by have d := dist_cases x.sz s s; omega⟩
  case round =>
    obtain ⟨i, hi, rfl, hbef⟩ := hrel
    have t0 := HT.out.cell0 hi
    have t1 := HT.out.cell1 hi
    have g0 := HT.out.frozen (i * 2)
    have g1 := HT.out.frozen (i * 2 + 1)
    have hA := HP.out.next hi
    have hnx := fun hns => probe_next (stop := stopP x.P k) hss hi HX.out hbef.out hns
    have HN : Hid (¬ stopP x.P k i → nxt x.sz i < x.sz ∧ (∀ c, c < x.sz → dist x.sz s c < dist x.sz s (nxt x.sz i) → ¬ stopP x.P k c) ∧ x.sz - dist x.sz s (nxt x.sz i) < x.sz - dist x.sz s i) := hnx
    clear hnx
    have HV : Hid (stopP x.P k i ↔ ((x.P i).2 = 0 ∨ (x.P i).1 = k)) := Iff.rfl
    have HQ : Hid (stopP x.P k i → IsProbe (stopP x.P k) x.sz s i) := fun hst => ⟨hi, hst, hbef.out⟩
    clear hbef
    by_cases hz : (x.P i).2 = 0
    · have HR := HQ.out (HV.out.2 (.inl hz))
      have HR' : Hid (IsProbe (stopP x.P k) x.sz s i) := HR
      have HE : Hid (putIx x i k loc = { x with n := x.n + 1, P := upd x.P i (k, loc + 1) }) := by simp [putIx, hz, Hid]
      have hI2 := (HI.out.setN (x.n + 1) ((x.n : Int) + 1) rfl).setPlace i k (loc + 1) ((loc : Int) + 1) rfl
      have HI2 : Hid (IxAt (((w'.setCell ⟨b, 1, none⟩ (.int .i64 ((x.n : Int) + 1))).setCell ⟨pb, i * 2, none⟩ (.int .u64 (k : Int))).setCell ⟨pb, i * 2 + 1, none⟩ (.int .u64 ((loc : Int) + 1))) b pb ob { x with n := x.n + 1, P := upd x.P i (k, loc + 1) }) := hI2
      rw [hz] at t1
      clear HN HR HQ HV hI2
      generalize hth : (x.P i).1 = th at *
      clear hth hz
      go_wp2_with fail
      refine (step_nil HI2.out H0.out).mono ?_
      rintro e w2 ⟨rfl, hw2e⟩
      have HW2 : Hid (IxAt w2 b pb ob { x with n := x.n + 1, P := upd x.P i (k, loc + 1) }) := by rw [hw2e]; exact HI2.out
      have HF : Hid (Fr [b, pb] w' w2) := by
        rw [hw2e]
        exact (((Fr.refl _ _).setCell (.inl (by simp)) _).setCell (.inl (by simp)) _).setCell (.inl (by simp)) _
      clear HI2 hw2e t0 t1 g0 g1 c0 c1 c2 f1 HI HT
      have c0 := HW2.out.c0
      have c1 := HW2.out.c1
      have c2 := HW2.out.c2nil H0.out
      have c1' : w2.cell? ⟨b, 1, none⟩ = some (.int .i64 ((x.n : Int) + 1)) := c1
      have c0' : w2.cell? ⟨b, 0, none⟩ = some (.slice (some ⟨pb, 0, none⟩) x.sz x.sz) := c0
      clear c1 c0
      go_wp2
      go_quiet (fail)
      go_wp2
      go_end0
      exact ⟨rfl, HF.out.trans' (Fr.of_below (below_drewN' _)), i, HR', by rw [HE.out]; exact HW2.out.ext (below_drewN' _)⟩
    · by_cases hk : (x.P i).1 = k
      · have HR' : Hid (IsProbe (stopP x.P k) x.sz s i) := HQ.out (HV.out.2 (.inr hk))
        have HE : Hid (putIx x i k loc = { x with P := upd x.P i (k, loc + 1) }) := by simp [putIx, hz, Hid]
        have hI2 := HI.out.setPlace i k (loc + 1) ((loc : Int) + 1) rfl
        have HI2 : Hid (IxAt ((w'.setCell ⟨pb, i * 2, none⟩ (.int .u64 (k : Int))).setCell ⟨pb, i * 2 + 1, none⟩ (.int .u64 ((loc : Int) + 1))) b pb ob { x with P := upd x.P i (k, loc + 1) }) := hI2
        rw [hk] at t0
        have hzb : ((x.P i).2 : Int) ≠ 0 := by omega
        clear HN HQ HV hI2 hk
        generalize hth : (x.P i).2 = tl at *
        clear hth hz
        have hz1 : ((tl : Int) == 0) = false := by rw [beq_eq_false_iff_ne]; exact hzb
        have hz2 : ((tl : Int) != 0) = true := by rw [bne_iff_ne]; exact hzb
        go_wp2_with fail
        refine (step_nil HI2.out H0.out).mono ?_
        rintro e w2 ⟨rfl, hw2e⟩
        have HW2 : Hid (IxAt w2 b pb ob { x with P := upd x.P i (k, loc + 1) }) := by rw [hw2e]; exact HI2.out
        have HF : Hid (Fr [b, pb] w' w2) := by
          rw [hw2e]
          exact (((Fr.refl _ _).setCell (.inl (by simp)) _).setCell (.inl (by simp)) _)
        clear HI2 hw2e t0 t1 g0 g1 c0 c1 c2 f1 HI HT
        have c0 := HW2.out.c0
        have c1 := HW2.out.c1
        have c2 := HW2.out.c2nil H0.out
        have c1' : w2.cell? ⟨b, 1, none⟩ = some (.int .i64 (x.n : Int)) := c1
        have c0' : w2.cell? ⟨b, 0, none⟩ = some (.slice (some ⟨pb, 0, none⟩) x.sz x.sz) := c0
        clear c1 c0
        go_wp2
        go_quiet (fail)
        go_wp2
        go_end0
        exact ⟨rfl, HF.out.trans' (Fr.of_below (below_drewN' _)), i, HR', by rw [HE.out]; exact HW2.out.ext (below_drewN' _)⟩
      · have hN := HN.out (fun hst => by rcases HV.out.1 hst with h | h; exact hz h; exact hk h)
        have HN' : Hid (nxt x.sz i < x.sz ∧ (∀ c, c < x.sz → dist x.sz s c < dist x.sz s (nxt x.sz i) → ¬ stopP x.P k c) ∧ x.sz - dist x.sz s (nxt x.sz i) < x.sz - dist x.sz s i) := hN
        have hz2 : (((x.P i).2 : Int) != 0) = true := by rw [bne_iff_ne]; omega
        have hk2 : (((x.P i).1 : Int) != (k : Int)) = true := by rw [bne_iff_ne]; omega
        clear HN HV HQ hN hz hk
        generalize (x.P i).1 = th at *
        generalize (x.P i).2 = tl at *
        go_wp2
        go_round
        case rel => exact ⟨nxt x.sz i, HN'.out.1, rfl, HN'.out.2.1⟩
        case measure => simp only [intOf, Int.toNat_natCast]; exact HN'.out.2.2

end Go.Proofs.Qxb6601018a
