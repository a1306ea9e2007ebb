/-
  THE WALK of shiftBack.
-/
import Derived.Test.Qxb6601018aMem
import Derived.Test.Qxb6601018aNever
import Derived.RegionTactic
import Derived.BigRegion
set_option linter.unusedVariables false
namespace Go.Proofs.Qxb6601018a
open Go.RowKit

theorem sbk_rest (A : Tab) (n i0 : Nat) (hi : i0 < n) (o : Nat) : ∀ t, o < t → t < n → (sbk A n i0 o).2 (pos n i0 t) = A (pos n i0 t) := by
  induction o with
  | zero =>
    intro t h1 h2
    simp only [sbk]
    refine upd_other _ _ _ _ (fun e => ?_)
    have := pos_cases n i0 t; omega
  | succ o ih =>
    intro t h1 h2
    have ih := ih t (by omega) h2
    obtain ⟨u, hu, eh⟩ := hole_le A n i0 hi o
    simp only [sbk]
    split
    · simp only []
      rw [upd_other _ _ _ _ (fun e => by have := pos_inj hi h2 (by omega) e; omega), upd_other _ _ _ _ (fun e => by rw [eh] at e; have := pos_inj hi h2 (by omega) e; omega)]
      exact ih
    · exact ih

theorem nxt_pos {n i o : Nat} (hi : i < n) (ho : o + 1 < n) : nxt n (pos n i o) = pos n i (o + 1) := by
  have := pos_cases n i o; have := pos_cases n i (o + 1); have := nxt_cases n (pos n i o); omega
theorem dist_pos {n i o : Nat} (hi : i < n) (ho : o < n) : dist n i (pos n i o) = o := by
  have := pos_cases n i o; have := dist_cases n i (pos n i o); omega

theorem sbk_step_move {A : Tab} {n i0 o h : Nat} {T : Tab} (e : sbk A n i0 o = (h, T)) (hd : dist n h (pos n i0 (o + 1)) ≤ dist n ((T (pos n i0 (o + 1))).1 % n) (pos n i0 (o + 1))) :
    sbk A n i0 (o + 1) = (pos n i0 (o + 1), upd (upd T h (T (pos n i0 (o + 1)))) (pos n i0 (o + 1)) (0, 0)) := by
  simp only [sbk, e]; rw [if_pos hd]
theorem sbk_step_stay {A : Tab} {n i0 o h : Nat} {T : Tab} (e : sbk A n i0 o = (h, T)) (hd : ¬ dist n h (pos n i0 (o + 1)) ≤ dist n ((T (pos n i0 (o + 1))).1 % n) (pos n i0 (o + 1))) :
    sbk A n i0 (o + 1) = (h, T) := by
  simp only [sbk, e]; rw [if_neg hd]

theorem hash_mask {n : Nat} (h : Pw n) (x : Nat) : bits .and .i64 (wrap64 (x : Int)) ((n : Int) - 1) = ((x % n : Nat) : Int) := by
  rw [h.i64]
  obtain ⟨e, he, rfl⟩ := h
  rw [Int.natCast_emod]
  have hdvd : ((2 ^ e : Nat) : Int) ∣ ((2 ^ 64 : Nat) : Int) := by
    rw [Int.natCast_dvd_natCast]; exact Nat.pow_dvd_pow 2 (by omega)
  obtain ⟨c, hc⟩ := hdvd
  generalize ((2 ^ e : Nat) : Int) = m at *
  have h1 : wrap64 (x : Int) = (x : Int) - ((2 ^ 64 : Nat) : Int) * (((x : Int) + 9223372036854775808) / 18446744073709551616) := by
    unfold wrap64; omega
  rw [h1, hc, Int.mul_assoc, Int.sub_mul_emod_self_left]

set_option maxHeartbeats 2000000 in
theorem shiftBack_any {w : World} {b pb ob : Nat} {x : Ix} (h : IxAt w b pb ob x) (i0 : Nat) (hi0 : i0 < x.sz) (hp : Pw x.sz) (hs : x.sz ≤ 16384) (f : Nat) (hf : FirstFree x.P x.sz i0 f) :
    Calls Try.prog 42 #[.pointer (some ⟨b, 0, none⟩), .int .i64 (i0 : Int)] w fun e w' => e = .returned (.tuple #[]) ∧ Fr [pb] w w' ∧
      IxAt w' b pb ob { x with P := (sbk x.P x.sz i0 (f - 1)).2 } := by
  have hn1 : 1 ≤ x.sz := hp.pos
  have HP : Hid (Pw x.sz) := hp
  have HI : Hid (IxAt w b pb ob x) := h
  have HF : Hid (FirstFree x.P x.sz i0 f) := hf
  have hfl := hf.lt
  have hf0 := hf.gt0
  have c0 := h.c0
  have hne := h.ne1
  have hne' := Ne.symm h.ne1
  clear h hp hf
  go_enter Try.func42, Try.ntmps42
  go_wp2_with fail
  clear c0
  go_loopw [1] (fun v wr => ∃ o U, o < f ∧ v = .int .i64 ((pos x.sz i0 o : Nat) : Int) ∧ Hid (IxAt wr b pb ob { x with P := U }) ∧ Hid (sbk x.P x.sz i0 o = (pos x.sz i0 o, upd U (pos x.sz i0 o) (0, 0))) ∧ Hid (Fr [pb] w wr))
    (fun v _ => x.sz - dist x.sz i0 (intOf v).toNat)
  case atStart =>
    have p0 : pos x.sz i0 0 = i0 := by have := pos_cases x.sz i0 0; omega
    exact ⟨0, x.P, hf0, by rw [p0], HI.out, by rw [p0]; rfl, Fr.refl _ _⟩
  case round =>
    obtain ⟨o, U, ho, rfl, hI, hS, hFr⟩ := hrel
    clear HI
    have hhn : pos x.sz i0 o < x.sz := pos_lt hi0 (by omega)
    have HI2 : Hid (IxAt ((wr.setCell ⟨pb, pos x.sz i0 o * 2, none⟩ (.int .u64 0)).setCell ⟨pb, pos x.sz i0 o * 2 + 1, none⟩ (.int .u64 0)) b pb ob { x with P := upd U (pos x.sz i0 o) (0, 0) }) := hI.out.setPlace (pos x.sz i0 o) 0 0 0 rfl
    have HF2 : Hid (Fr [pb] w ((wr.setCell ⟨pb, pos x.sz i0 o * 2, none⟩ (.int .u64 0)).setCell ⟨pb, pos x.sz i0 o * 2 + 1, none⟩ (.int .u64 0))) := (hFr.out.setCell (.inl (by simp)) _).setCell (.inl (by simp)) _
    have c0 : wr.cell? ⟨b, 0, none⟩ = some (.slice (some ⟨pb, 0, none⟩) x.sz x.sz) := hI.out.c0
    have t0 := hI.out.tab.cell0 hhn
    have t1 := hI.out.tab.cell1 hhn
    have g0 := hI.out.tab.frozen (pos x.sz i0 o * 2)
    have g1 := hI.out.tab.frozen (pos x.sz i0 o * 2 + 1)
    have HD : Hid (dist x.sz i0 (pos x.sz i0 o) = o) := dist_pos hi0 (by omega)
    generalize hT : upd U (pos x.sz i0 o) (0, 0) = T at *
    clear hT hI hFr
    simp only [] at t0 t1
    generalize (U (pos x.sz i0 o)).1 = uh at *
    generalize (U (pos x.sz i0 o)).2 = ul at *
    generalize hhole : pos x.sz i0 o = hole at *
    have HH : Hid (pos x.sz i0 o = hole) := hhole
    clear hhole
    go_wp2_with fail
    clear c0 t0 t1 g0 g1
    go_loopw [1, 5] (fun v u wi => ∃ o', o ≤ o' ∧ o' < f ∧ v = .int .i64 (hole : Int) ∧ u = .int .i64 ((pos x.sz i0 o' : Nat) : Int) ∧ Hid (IxAt wi b pb ob { x with P := T }) ∧ Hid (sbk x.P x.sz i0 o' = (hole, T)) ∧ Hid (Fr [pb] w wi))
      (fun _ u _ => x.sz - dist x.sz i0 (intOf u).toNat)
    case atStart => exact ⟨o, Nat.le_refl _, ho, rfl, by rw [HH.out], HI2.out, hS.out, HF2.out⟩
    case round =>
      obtain ⟨o', ho1, ho2, rfl, rfl, hI, hS', hFr⟩ := hrel
      clear HI2 HF2 hS
      have hjn : pos x.sz i0 (o' + 1) < x.sz := pos_lt hi0 (by omega)
      have hjn' : pos x.sz i0 o' < x.sz := pos_lt hi0 (by omega)
      have hA := HP.out.nextI hjn'
      rw [nxt_pos hi0 (by omega)] at hA
      have HM1 : Hid (dist x.sz i0 (pos x.sz i0 o') = o') := dist_pos hi0 (by omega)
      have HM2 : Hid (dist x.sz i0 (pos x.sz i0 (o' + 1)) = o' + 1) := dist_pos hi0 (by omega)
      have HTj : Hid (T (pos x.sz i0 (o' + 1)) = x.P (pos x.sz i0 (o' + 1))) := by
        have := sbk_rest x.P x.sz i0 hi0 o' (o' + 1) (by omega) (by omega)
        rw [hS'.out] at this; exact this
      have HMv : Hid (dist x.sz hole (pos x.sz i0 (o' + 1)) ≤ dist x.sz ((T (pos x.sz i0 (o' + 1))).1 % x.sz) (pos x.sz i0 (o' + 1)) → sbk x.P x.sz i0 (o' + 1) = (pos x.sz i0 (o' + 1), upd (upd T hole (T (pos x.sz i0 (o' + 1)))) (pos x.sz i0 (o' + 1)) (0, 0))) := sbk_step_move hS'.out
      have HSt : Hid (¬ dist x.sz hole (pos x.sz i0 (o' + 1)) ≤ dist x.sz ((T (pos x.sz i0 (o' + 1))).1 % x.sz) (pos x.sz i0 (o' + 1)) → sbk x.P x.sz i0 (o' + 1) = (hole, T)) := sbk_step_stay hS'.out
      have HFr : Hid ((T (pos x.sz i0 (o' + 1))).2 = 0 → o' + 1 = f) := fun hz => by
        rcases Nat.lt_or_ge (o' + 1) f with hl | hl
        · rw [HTj.out] at hz; exact absurd hz (HF.out.taken _ (by omega) hl)
        · omega
      have HFn : Hid ((T (pos x.sz i0 (o' + 1))).2 ≠ 0 → o' + 1 < f) := fun hz => by
        rcases Nat.lt_or_ge (o' + 1) f with hl | hl
        · exact hl
        · exfalso; have e : o' + 1 = f := by omega
          rw [HTj.out, e] at hz; exact hz HF.out.free
      clear HTj
      have c0 : wr.cell? ⟨b, 0, none⟩ = some (.slice (some ⟨pb, 0, none⟩) x.sz x.sz) := hI.out.c0
      have t0 : wr.cell? ⟨pb, pos x.sz i0 (o' + 1) * 2, none⟩ = some (.int .u64 ((T (pos x.sz i0 (o' + 1))).1 : Int)) := hI.out.tab.cell0 hjn
      have t1 : wr.cell? ⟨pb, pos x.sz i0 (o' + 1) * 2 + 1, none⟩ = some (.int .u64 ((T (pos x.sz i0 (o' + 1))).2 : Int)) := hI.out.tab.cell1 hjn
      have r0 : wr.cell? ⟨pb, hole * 2, none⟩ = some (.int .u64 ((T hole).1 : Int)) := hI.out.tab.cell0 hhn
      have r1 : wr.cell? ⟨pb, hole * 2 + 1, none⟩ = some (.int .u64 ((T hole).2 : Int)) := hI.out.tab.cell1 hhn
      have g0 := hI.out.tab.frozen (hole * 2)
      have g1 := hI.out.tab.frozen (hole * 2 + 1)
      have hbl : b < wr.heap.size := hI.out.lt
      have hpl : pb < wr.heap.size := hI.out.tab.lt
      generalize hj : pos x.sz i0 (o' + 1) = j at *
      have HJ : Hid (pos x.sz i0 (o' + 1) = j) := hj
      clear hj
      have hB := hash_mask HP.out (T j).1
      have hmn : (T j).1 % x.sz < x.sz := Nat.mod_lt _ hn1
      have hd1 := HP.out.distI hmn hjn
      have hd2 := HP.out.distI hhn hjn
      have HI3 : Hid (IxAt ((wr.setCell ⟨pb, hole * 2, none⟩ (.int .u64 ((T j).1 : Int))).setCell ⟨pb, hole * 2 + 1, none⟩ (.int .u64 ((T j).2 : Int))) b pb ob { x with P := upd T hole (T j) }) :=
        hI.out.setPlace hole (T j).1 (T j).2 _ rfl
      have HF3 : Hid (Fr [pb] w ((wr.setCell ⟨pb, hole * 2, none⟩ (.int .u64 ((T j).1 : Int))).setCell ⟨pb, hole * 2 + 1, none⟩ (.int .u64 ((T j).2 : Int)))) :=
        (hFr.out.setCell (.inl (by simp)) _).setCell (.inl (by simp)) _
      by_cases hz : (T j).2 = 0
      · rw [hz] at t1
        have hof := HFr.out hz
        have HE : Hid ((sbk x.P x.sz i0 (f - 1)).2 = T) := by
          rw [← hof, Nat.add_sub_cancel, hS'.out]
          rfl
        clear HFr HFn HMv HSt HI3 HF3 hof
        generalize (T j).1 = th at *
        clear hz
        go_wp2
        exact bodyPost_ret (results_none Try.results42 _ _ _) rfl ⟨rfl, hFr.out.alloc _, by rw [HE.out]; exact hI.out.alloc _⟩
      · have hof := HFn.out hz
        have HIj : Hid (IxAt wr b pb ob { x with P := T }) := hI
        have hz1 : (((T j).2 : Int) == 0) = false := by rw [beq_eq_false_iff_ne]; omega
        by_cases hmv : dist x.sz hole j ≤ dist x.sz ((T j).1 % x.sz) j
        · have HE := HMv.out hmv
          have HE' : Hid (sbk x.P x.sz i0 (o' + 1) = (j, upd (upd T hole (T j)) j (0, 0))) := HE
          clear HFr HFn HMv HSt hz HE hI
          generalize hTj : T j = tj at *
          obtain ⟨th, tl⟩ := tj
          simp only [] at *
          generalize th % x.sz = home at *
          generalize dist x.sz hole j = dd1 at *
          generalize dist x.sz home j = dd2 at *
          go_wp2
          go_region
          all_goals
            go_wp2
            go_roundw
            case rel => exact ⟨o' + 1, upd T hole (th, tl), hof, by rw [HJ.out], (HI3.out.alloc _).drew, by rw [HJ.out]; exact HE'.out, (HF3.out.alloc _).drew⟩
            case measure => simp only [intOf, Int.toNat_natCast]; rw [HM2.out, HD.out]; omega
        · have HE' : Hid (sbk x.P x.sz i0 (o' + 1) = (hole, T)) := HSt.out hmv
          have hmv' : ¬ ((dist x.sz hole j : Nat) : Int) ≤ ((dist x.sz ((T j).1 % x.sz) j : Nat) : Int) := by omega
          clear HFr HFn HMv HSt hz hI HI3 HF3
          generalize (T j).1 = th at *
          generalize (T j).2 = tl at *
          generalize th % x.sz = home at *
          generalize dist x.sz hole j = dd1 at *
          generalize dist x.sz home j = dd2 at *
          go_wp2
          go_roundw
          case rel => exact ⟨o' + 1, by omega, hof, rfl, by rw [HJ.out], HIj.out.alloc _, HE'.out, hFr.out.alloc _⟩
          case measure => simp only [intOf, Int.toNat_natCast]; rw [HM2.out, HM1.out]; omega

end Go.Proofs.Qxb6601018a
