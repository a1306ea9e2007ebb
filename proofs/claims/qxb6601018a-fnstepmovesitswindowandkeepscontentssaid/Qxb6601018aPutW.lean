/-
  THE WALK of put on an index that grows.
-/
import Derived.Test.Qxb6601018aPut
set_option linter.unusedVariables false
namespace Go.Proofs.Qxb6601018a
open Go.RowKit

/-- what put leaves -/
def PutPost (B b : Nat) (M : Nat → Nat) (c : Nat) (w w' : World) : Prop := Below B w w' ∧ ∃ x', IxO B w' b x' ∧ Core x' M c ∧ Load x' c 0

set_option maxRecDepth 100000 in
set_option maxHeartbeats 2000000 in
theorem put_any {B : Nat} {w : World} {b : Nat} {x : Ix} {M : Nat → Nat} {c c' : Nat} (hX : IxO B w b x) (hC : Core x M c) (hL : Load x c 0) (k loc : Nat) (hloc : loc < 18446744073709551614) (hce : c' = c + (if M k = 0 then 1 else 0)) (hc' : c' ≤ 4096) :
    Calls Try.prog 43 #[.pointer (some ⟨b, 0, none⟩), .int .u64 (k : Int), .int .u64 (loc : Int)] w fun e w' => e = .returned (.tuple #[]) ∧ PutPost B b (setM M k (loc + 1)) c' w w' := by
  obtain ⟨pb, ob, hb1, hb2, hb3, hI⟩ := hX
  have hn1 : 1 ≤ x.sz := by have := hC.sz8; omega
  have hw2 : IntKind.u64.wrap ((loc : Int) + 1) = (loc : Int) + 1 := by rw [IntKind.wrap_u64]; omega
  have hsz := hC.sz_le
  have hw1 : IntKind.u64.wrap (↑x.sz - 1) = ↑x.sz - 1 := by rw [IntKind.wrap_u64]; omega
  have hss : k % x.sz < x.sz := Nat.mod_lt _ hn1
  have hA := hC.pw.u64 k
  have hroom := hL.room hC (by omega)
  have hnle := hC.n_le
  have hcle := hC.cle
  have HX : Hid (∃ q, q < x.sz ∧ stopP x.P k q) := by obtain ⟨q, h1, h2⟩ := hC.free (by omega); exact ⟨q, h1, .inl h2⟩
  have HC : Hid (Core x M c) := hC
  have HPw : Hid (Pw x.sz) := hC.pw
  have HB1 : Hid (B ≤ b) := hb1
  have HB2 : Hid (B ≤ pb) := hb2
  have HB3 : Hid (x.om ≠ 0 → B ≤ ob) := hb3
  have HBs : Hid (B ≤ w.heap.size) := by have := hI.lt; show B ≤ _; omega
  have HPut : Hid (∀ x1 r, RelR x k x1 → IsProbe (stopP x1.P k) x1.sz (k % x1.sz) r → Core (putIx x1 r k loc) (setM M k (loc + 1)) c' ∧ MidLoad (putIx x1 r k loc) c') := by
    intro x1 r hR hp
    have h1 := core_put hC hloc hR hp (by rw [← hce]; exact hc')
    rw [← hce] at h1
    exact ⟨h1.1, put_mid hC hL hR h1.2 (by rw [hce]; split <;> omega)⟩
  have HR := release_any (B := B) hI hC hb1 hb2 hb3 k
  have HRel : Hid (Calls Try.prog 49 #[.pointer (some ⟨b, 0, none⟩), .int .u64 (k : Int)] w fun e w' => e = .returned (.tuple #[]) ∧ Below B w w' ∧ ∃ x1, RelR x k x1 ∧ IxAt w' b pb ob x1) := HR
  clear HR hI hC hL hloc hce hb1 hb2 hb3
  generalize hs0 : k % x.sz = s at *
  have HS0 : Hid (k % x.sz = s) := hs0
  clear hs0
  have hnil := eqNil52
  go_enter Try.func43, Try.ntmps43
  go_wp2_with fail
  refine HRel.out.mono ?_
  rintro e w1 ⟨rfl, hbel1, x1, hR1, hI1⟩
  clear HRel
  obtain ⟨e1, e2, e3, e4, e5⟩ := relR_fields hR1
  have HR1 : Hid (RelR x k x1) := hR1
  have HI1 : Hid (IxAt w1 b pb ob x1) := hI1
  have HBl1 : Hid (Below B w w1) := hbel1
  have HE1 : Hid (x1.om = x.om) := e1
  have c0 := hI1.c0
  rw [e2] at c0
  have c1 := hI1.c1
  rw [e4] at c1
  have f1 := hI1.fz 1
  have hne := hI1.ne1
  have hne' := Ne.symm hI1.ne1
  have HT : Hid (TabAt w1 pb x.sz x.P) := by have := hI1.tab; rw [e2, e3] at this; exact this
  have HE2 : Hid (x1.sz = x.sz) := e2
  have HE3 : Hid (x1.P = x.P) := e3
  have HE4 : Hid (x1.n = x.n) := e4
  clear hbel1 hR1 hI1 e1 e2 e3 e4 e5
  go_wp2_with fail
  clear hA
  go_loop [7] (fun v => ∃ i : Nat, i < x.sz ∧ v = .int .u64 i ∧ Hid (∀ c, c < x.sz → dist x.sz s c < dist x.sz s i → ¬ stopP x.P k c)) (fun v => x.sz - dist x.sz s (intOf v).toNat)
  case atStart => exact ⟨s, hss, rfl, fun c hc hd => by have d := dist_cases x.sz s s; omega⟩
  case round =>
    obtain ⟨i, hi, rfl, hbef⟩ := hrel
    have t0 := HT.out.cell0 hi
    have t1 := HT.out.cell1 hi
    have g0 := HT.out.frozen (i * 2)
    have g1 := HT.out.frozen (i * 2 + 1)
    have hA := HPw.out.next hi
    by_cases hst : stopP x.P k i
    · have hpr : IsProbe (stopP x1.P k) x1.sz (k % x1.sz) i := by
        rw [HE2.out, HE3.out, HS0.out]; exact ⟨hi, hst, hbef.out⟩
      obtain ⟨hC2, hM2⟩ := HPut.out x1 i HR1.out hpr
      have HC2 : Hid (Core (putIx x1 i k loc) (setM M k (loc + 1)) c') := hC2
      have HM2 : Hid (MidLoad (putIx x1 i k loc) c') := hM2
      -- the world behind the store, whichever way
      have HTail : Hid (∀ w2, IxAt w2 b pb ob (putIx x1 i k loc) → Below B w w2 → Calls Try.prog 48 #[.pointer (some ⟨b, 0, none⟩)] w2 fun e w' => e = .returned (.tuple #[]) ∧ Below B w w' ∧ ∃ x', StepAny (putIx x1 i k loc) x' (setM M k (loc + 1)) c' ∧ IxAt w' b pb ob x') := by
        intro w2 hI2 hB2
        refine (step_any (B := B) hI2 hC2 HB1.out HB2.out (fun h => HB3.out (by rw [← HE1.out]; exact h)) (fun h => ((hM2.old h).room hC2 (Nat.le_refl _)))).mono ?_
        rintro e w' ⟨rfl, hb, r⟩
        exact ⟨rfl, hB2.trans hb, r⟩
      clear hC2 hM2 hpr HPut HX hbef
      by_cases hz : (x.P i).2 = 0
      · have HI2 : Hid (IxAt (((w1.setCell ⟨b, 1, none⟩ (.int .i64 ((x.n : Int) + 1))).setCell ⟨pb, i * 2, none⟩ (.int .u64 (k : Int))).setCell ⟨pb, i * 2 + 1, none⟩ (.int .u64 ((loc : Int) + 1))) b pb ob (putIx x1 i k loc)) := by
          have hh := (HI1.out.setN (x1.n + 1) ((x.n : Int) + 1) (by rw [HE4.out]; rfl)).setPlace i k (loc + 1) ((loc : Int) + 1) rfl
          have e : putIx x1 i k loc = { x1 with n := x1.n + 1, P := upd x1.P i (k, loc + 1) } := by simp [putIx, HE3.out, hz]
          rw [e]; exact hh
        have HB2' : Hid (Below B w (((w1.setCell ⟨b, 1, none⟩ (.int .i64 ((x.n : Int) + 1))).setCell ⟨pb, i * 2, none⟩ (.int .u64 (k : Int))).setCell ⟨pb, i * 2 + 1, none⟩ (.int .u64 ((loc : Int) + 1)))) :=
          ((HBl1.out.setCell HB1.out _).setCell HB2.out _).setCell HB2.out _
        rw [hz] at t1
        clear hst
        generalize hth : (x.P i).1 = th at *
        clear hth hz
        go_wp2_with fail
        refine (HTail.out _ HI2.out HB2'.out).mono ?_
        rintro e w3 ⟨rfl, hb3, x3, hS3, hI3⟩
        clear HTail HI2 HB2' t0 t1 g0 g1 c0 c1 f1 HT HI1 HBl1
        have HI3 : Hid (IxAt w3 b pb ob x3) := hI3
        have HS3 : Hid (StepAny (putIx x1 i k loc) x3 (setM M k (loc + 1)) c') := hS3
        have HBl3 : Hid (Below B w w3) := hb3
        have HC3 : Hid (Core x3 (setM M k (loc + 1)) c') := hS3.core HC2.out
        clear hI3 hS3 hb3
        have hsz3 := HC3.out.sz_le
        have hn3 := HC3.out.n_le
        have c0 := HI3.out.c0
        have c1 := HI3.out.c1
        by_cases ho : x3.om = 0
        · have c2 := HI3.out.c2nil ho
          obtain ⟨hA1, hA2⟩ := after_nil HC2.out HM2.out HS3.out ho
          by_cases hle : x3.n ≤ x3.sz / 4 * 3
          · have HL3 : Hid (Load x3 c' 0) := hA1 hle
            have hleI : (x3.n : Int) ≤ (x3.sz : Int) / 4 * 3 := by omega
            have HP : Hid (PutPost B b (setM M k (loc + 1)) c' w w3) := ⟨HBl3.out, x3, ⟨pb, ob, HB1.out, HB2.out, fun h => absurd ho h, HI3.out⟩, HC3.out, HL3.out⟩
            clear hA1 hA2 hle ho HL3
            go_wp2
            go_quiet (fail)
            go_wp2
            go_end0
            exact ⟨rfl, HP.out.1.trans ((below_drewN' _).mono (Nat.le_trans HBs.out HP.out.1.size)), by obtain ⟨x', h1, h2⟩ := HP.out.2; exact ⟨x', h1.ext (below_drewN' _), h2⟩⟩
          · obtain ⟨hlt3, hgt3, hL3⟩ := hA2 hle
            have hleI : ¬ (x3.n : Int) ≤ (x3.sz : Int) / 4 * 3 := by omega
            have HRz : Hid (∀ w4, Below w3.heap.size w3 w4 → Calls Try.prog 50 #[.pointer (some ⟨b, 0, none⟩), .int .i64 (2 * (x3.sz : Int))] w4 fun e w' => e = .returned (.tuple #[]) ∧ PutPost B b (setM M k (loc + 1)) c' w w') := by
              intro w4 hb4
              refine (resize_any (HI3.out.ext hb4) HC3.out ho hlt3 hgt3).mono ?_
              rintro e w' ⟨rfl, hF, x', hP, hI'⟩
              have h00 : (resized x3).om ≠ 0 := show x3.sz ≠ 0 by have := HC3.out.sz8; omega
              have hCr := (core_resize HC3.out ho hlt3 hgt3).1
              have hBs3 : B ≤ w3.heap.size := Nat.le_trans HBs.out HBl3.out.size
              have hB4 : Below B w w4 := HBl3.out.trans (hb4.mono hBs3)
              refine ⟨rfl, hB4.trans (hF.below (fun z hz => ?_) (Nat.le_trans hBs3 hb4.size)), x', ⟨_, pb, HB1.out, Nat.le_trans hBs3 hb4.size, fun _ => HB2.out, hI'⟩, hP.core h00, hP.load hCr h00 hL3 (Nat.le_refl _)⟩
              simp at hz
              rcases hz with rfl | rfl
              · exact HB1.out
              · exact HB2.out
            clear hA1 hA2 hle ho hlt3 hgt3 hL3
            go_wp2
            go_quiet (fail)
            go_wp2_with fail
            refine (HRz.out _ (below_drewN' _)).mono ?_
            rintro e w5 ⟨rfl, hP5⟩
            have HP : Hid (PutPost B b (setM M k (loc + 1)) c' w w5) := hP5
            clear hP5 HRz
            go_wp2
            go_end0
            exact ⟨rfl, HP.out⟩
        · have c2 := HI3.out.c2old ho
          have HL3 : Hid (Load x3 c' 0) := after_old HC2.out HM2.out HS3.out ho
          have HP : Hid (PutPost B b (setM M k (loc + 1)) c' w w3) := ⟨HBl3.out, x3, ⟨pb, ob, HB1.out, HB2.out, fun _ => HB3.out (by rw [← HE1.out]; exact HS3.out.om ho), HI3.out⟩, HC3.out, HL3.out⟩
          clear ho HL3
          go_wp2
          go_quiet (fail)
          go_wp2
          go_end0
          exact ⟨rfl, HP.out.1.trans ((below_drewN' _).mono (Nat.le_trans HBs.out HP.out.1.size)), by obtain ⟨x', h1, h2⟩ := HP.out.2; exact ⟨x', h1.ext (below_drewN' _), h2⟩⟩
      · have hk : (x.P i).1 = k := hst.resolve_left hz
        have HI2 : Hid (IxAt ((w1.setCell ⟨pb, i * 2, none⟩ (.int .u64 (k : Int))).setCell ⟨pb, i * 2 + 1, none⟩ (.int .u64 ((loc : Int) + 1))) b pb ob (putIx x1 i k loc)) := by
          have hh := HI1.out.setPlace i k (loc + 1) ((loc : Int) + 1) rfl
          have e : putIx x1 i k loc = { x1 with P := upd x1.P i (k, loc + 1) } := by simp [putIx, HE3.out, hz]
          rw [e]; exact hh
        have HB2' : Hid (Below B w ((w1.setCell ⟨pb, i * 2, none⟩ (.int .u64 (k : Int))).setCell ⟨pb, i * 2 + 1, none⟩ (.int .u64 ((loc : Int) + 1)))) :=
          (HBl1.out.setCell HB2.out _).setCell HB2.out _
        rw [hk] at t0
        have hz1 : (((x.P i).2 : Int) == 0) = false := by rw [beq_eq_false_iff_ne]; omega
        have hz2 : (((x.P i).2 : Int) != 0) = true := by rw [bne_iff_ne]; omega
        clear hst hk hz
        generalize (x.P i).2 = tl at *
        go_wp2_with fail
        refine (HTail.out _ HI2.out HB2'.out).mono ?_
        rintro e w3 ⟨rfl, hb3, x3, hS3, hI3⟩
        clear HTail HI2 HB2' t0 t1 g0 g1 c0 c1 f1 HT HI1 HBl1
        have HI3 : Hid (IxAt w3 b pb ob x3) := hI3
        have HS3 : Hid (StepAny (putIx x1 i k loc) x3 (setM M k (loc + 1)) c') := hS3
        have HBl3 : Hid (Below B w w3) := hb3
        have HC3 : Hid (Core x3 (setM M k (loc + 1)) c') := hS3.core HC2.out
        clear hI3 hS3 hb3
        have hsz3 := HC3.out.sz_le
        have hn3 := HC3.out.n_le
        have c0 := HI3.out.c0
        have c1 := HI3.out.c1
        by_cases ho : x3.om = 0
        · have c2 := HI3.out.c2nil ho
          obtain ⟨hA1, hA2⟩ := after_nil HC2.out HM2.out HS3.out ho
          by_cases hle : x3.n ≤ x3.sz / 4 * 3
          · have HL3 : Hid (Load x3 c' 0) := hA1 hle
            have hleI : (x3.n : Int) ≤ (x3.sz : Int) / 4 * 3 := by omega
            have HP : Hid (PutPost B b (setM M k (loc + 1)) c' w w3) := ⟨HBl3.out, x3, ⟨pb, ob, HB1.out, HB2.out, fun h => absurd ho h, HI3.out⟩, HC3.out, HL3.out⟩
            clear hA1 hA2 hle ho HL3
            go_wp2
            go_quiet (fail)
            go_wp2
            go_end0
            exact ⟨rfl, HP.out.1.trans ((below_drewN' _).mono (Nat.le_trans HBs.out HP.out.1.size)), by obtain ⟨x', h1, h2⟩ := HP.out.2; exact ⟨x', h1.ext (below_drewN' _), h2⟩⟩
          · obtain ⟨hlt3, hgt3, hL3⟩ := hA2 hle
            have hleI : ¬ (x3.n : Int) ≤ (x3.sz : Int) / 4 * 3 := by omega
            have HRz : Hid (∀ w4, Below w3.heap.size w3 w4 → Calls Try.prog 50 #[.pointer (some ⟨b, 0, none⟩), .int .i64 (2 * (x3.sz : Int))] w4 fun e w' => e = .returned (.tuple #[]) ∧ PutPost B b (setM M k (loc + 1)) c' w w') := by
              intro w4 hb4
              refine (resize_any (HI3.out.ext hb4) HC3.out ho hlt3 hgt3).mono ?_
              rintro e w' ⟨rfl, hF, x', hP, hI'⟩
              have h00 : (resized x3).om ≠ 0 := show x3.sz ≠ 0 by have := HC3.out.sz8; omega
              have hCr := (core_resize HC3.out ho hlt3 hgt3).1
              have hBs3 : B ≤ w3.heap.size := Nat.le_trans HBs.out HBl3.out.size
              have hB4 : Below B w w4 := HBl3.out.trans (hb4.mono hBs3)
              refine ⟨rfl, hB4.trans (hF.below (fun z hz => ?_) (Nat.le_trans hBs3 hb4.size)), x', ⟨_, pb, HB1.out, Nat.le_trans hBs3 hb4.size, fun _ => HB2.out, hI'⟩, hP.core h00, hP.load hCr h00 hL3 (Nat.le_refl _)⟩
              simp at hz
              rcases hz with rfl | rfl
              · exact HB1.out
              · exact HB2.out
            clear hA1 hA2 hle ho hlt3 hgt3 hL3
            go_wp2
            go_quiet (fail)
            go_wp2_with fail
            refine (HRz.out _ (below_drewN' _)).mono ?_
            rintro e w5 ⟨rfl, hP5⟩
            have HP : Hid (PutPost B b (setM M k (loc + 1)) c' w w5) := hP5
            clear hP5 HRz
            go_wp2
            go_end0
            exact ⟨rfl, HP.out⟩
        · have c2 := HI3.out.c2old ho
          have HL3 : Hid (Load x3 c' 0) := after_old HC2.out HM2.out HS3.out ho
          have HP : Hid (PutPost B b (setM M k (loc + 1)) c' w w3) := ⟨HBl3.out, x3, ⟨pb, ob, HB1.out, HB2.out, fun _ => HB3.out (by rw [← HE1.out]; exact HS3.out.om ho), HI3.out⟩, HC3.out, HL3.out⟩
          clear ho HL3
          go_wp2
          go_quiet (fail)
          go_wp2
          go_end0
          exact ⟨rfl, HP.out.1.trans ((below_drewN' _).mono (Nat.le_trans HBs.out HP.out.1.size)), by obtain ⟨x', h1, h2⟩ := HP.out.2; exact ⟨x', h1.ext (below_drewN' _), h2⟩⟩
    · have hN := probe_next (stop := stopP x.P k) hss hi HX.out hbef.out hst
      have HN' : Hid (nxt x.sz i < x.sz ∧ (∀ c, c < x.sz → dist x.sz s c < dist x.sz s (nxt x.sz i) → ¬ stopP x.P k c) ∧ x.sz - dist x.sz s (nxt x.sz i) < x.sz - dist x.sz s i) := hN
      have hz2 : (((x.P i).2 : Int) != 0) = true := by rw [bne_iff_ne]; intro e; exact hst (.inl (by omega))
      have hk2 : (((x.P i).1 : Int) != (k : Int)) = true := by rw [bne_iff_ne]; intro e; exact hst (.inr (by omega))
      clear hN hst hbef
      generalize (x.P i).1 = th at *
      generalize (x.P i).2 = tl at *
      go_wp2
      go_round
      case rel => exact ⟨nxt x.sz i, HN'.out.1, rfl, HN'.out.2.1⟩
      case measure => simp only [intOf, Int.toNat_natCast]; exact HN'.out.2.2

end Go.Proofs.Qxb6601018a
