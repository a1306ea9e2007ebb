/-
  THE WALK of step, where there is an old table.
-/
import Derived.Test.Qxb6601018aStepP
import Derived.WalkLawsBesides
import Derived.Deep.LoopGhost
set_option linter.unusedVariables false
namespace Go.Proofs.Qxb6601018a
open Go.RowKit

theorem box_cells (w : World) (a : Addr) (v p q : Value) :
    ((w.setCell a v).alloc (.cells #[p, q] 59)).drew.drew.cell? ⟨w.heap.size, 0, none⟩ = some p ∧ ((w.setCell a v).alloc (.cells #[p, q] 59)).drew.drew.cell? ⟨w.heap.size, 1, none⟩ = some q := by
  have h0 := World.cell?_alloc_new (w.setCell a v) #[p, q] 59 0
  have h1 := World.cell?_alloc_new (w.setCell a v) #[p, q] 59 1
  rw [World.size_setCell] at h0 h1
  exact ⟨h0, h1⟩

set_option maxRecDepth 100000 in
set_option maxHeartbeats 4000000 in
theorem step_old {w : World} {b pb ob : Nat} {x : Ix} {M : Nat → Nat} {c : Nat} (h : IxAt w b pb ob x) (h0 : x.om ≠ 0) (hC : Core x M c) (hlt : c < x.sz) :
    Calls Try.prog 48 #[.pointer (some ⟨b, 0, none⟩)] w fun e w' => e = .returned (.tuple #[]) ∧ Fr [b, pb, ob] w w' ∧ ∃ x', StepPost x x' M c ∧ IxAt w' b pb ob x' := by
  have HI : Hid (IxAt w b pb ob x) := h
  have HC : Hid (Core x M c) := hC
  have H0 : Hid (x.om ≠ 0) := h0
  have hom1 := hC.om_le
  have hnx := (hC.old h0).nx
  have hn := hC.n_le
  have hc4 := hC.cle
  have c2 := h.c2old h0
  have c3 := h.c3
  have hnil := eqNil52
  have hne1 := h.ne1
  have hne1' := Ne.symm h.ne1
  have hne2 := (h.ne2 h0).1
  have hne2' := Ne.symm (h.ne2 h0).1
  have hne3 := (h.ne2 h0).2
  have hne3' := Ne.symm (h.ne2 h0).2
  clear h hC h0
  obtain ⟨en, hE, hen1, hen2, hen3⟩ : ∃ en : Nat, (if (x.om : Int) < (x.nx : Int) + 32 then (x.om : Int) else (x.nx : Int) + 32) = (en : Int) ∧ en ≤ x.nx + 32 ∧ en ≤ x.om ∧ (en = x.nx + 32 ∨ en = x.om) := by
    by_cases e : (x.om : Int) < (x.nx : Int) + 32
    · exact ⟨x.om, by rw [if_pos e], by omega, Nat.le_refl _, .inr rfl⟩
    · exact ⟨x.nx + 32, by rw [if_neg e]; rfl, Nat.le_refl _, by omega, .inl rfl⟩
  have HE3 : Hid (en = x.nx + 32 ∨ en = x.om) := hen3
  have HE1 : Hid (x.nx ≤ en) := by rcases hen3 with e | e <;> simp only [Hid] <;> omega
  clear hen3
  go_enter Try.func48, Try.ntmps48
  go_wp2
  go_region
  clear hE c2 c3
  go_wp2_with fail
  go_loopg [2] 32 (fun gk v wr => ∃ y m, v = .int .i64 ((m : Nat) : Int) ∧ y.nx + gk = x.nx + 32 ∧ Hid (IxAt wr b pb ob y) ∧ Hid (StInv x y m M c) ∧ Hid (Fr [b, pb, ob] w wr))
  case atStart => exact ⟨x, 0, rfl, rfl, HI.out.drew, st_start HC.out H0.out, (Fr.refl _ _).drew⟩
  case round =>
    obtain ⟨y, m, rfl, hgk, hI, hS, hF⟩ := hrel
    clear HI
    have hyom := hS.out.om
    have hysz := hS.out.sz
    have hyn := hS.out.core.n_le
    have hm4 := hS.out.mv4
    have hy2 := hS.out.nx2
    have h0y : y.om ≠ 0 := by rw [hyom]; exact H0.out
    have c2 := hI.out.c2old h0y
    have c3 := hI.out.c3
    rw [hyom] at c2
    have HO : Hid (y.om = x.om) := hyom
    have HZ : Hid (y.sz = x.sz) := hysz
    clear hyom hysz h0y
    by_cases hgo : y.nx < en ∧ m < 4
    · obtain ⟨hgo1, hgo2⟩ := hgo
      have hgo1' : (y.nx : Int) < (en : Int) := by omega
      have hgo2' : (m : Int) < 4 := by omega
      have hyl : y.nx < y.om := by rw [HO.out]; omega
      have hylI : (y.nx : Int) < (x.om : Int) := by omega
      have t0 := (hI.out.old (by rw [HO.out]; exact H0.out)).cell0 hyl
      have t1 := (hI.out.old (by rw [HO.out]; exact H0.out)).cell1 hyl
      have g1 := (hI.out.old (by rw [HO.out]; exact H0.out)).frozen (y.nx * 2 + 1)
      have f3 := hI.out.fz 3
      have hbs := hI.out.lt
      have hpbs := hI.out.tab.lt
      have hobs := (hI.out.old (by rw [HO.out]; exact H0.out)).lt
      have HLv : Hid (liveB y.O y.nx = (!((y.O y.nx).2 == 0) && !((y.O y.nx).2 == gone))) := rfl
      have HGo : Hid (gone = 18446744073709551615) := rfl
      go_wp2
      go_region
      by_cases hlive : liveB y.O y.nx = true
      · have hl2 := liveB_true.1 hlive
        have hz1 : (((y.O y.nx).2 : Int) == 0) = false := by rw [beq_eq_false_iff_ne]; have := hl2.1; omega
        have hz2 : (((y.O y.nx).2 : Int) == 18446744073709551615) = false := by rw [beq_eq_false_iff_ne]; have := hl2.2; rw [HGo.out] at this; omega
        have HLive : Hid (liveB y.O y.nx = true) := hlive
        have HI2 : Hid (IxAt (wr.setCell ⟨ob, y.nx * 2 + 1, none⟩ (.int .u64 18446744073709551615)) b pb ob { y with O := upd y.O y.nx ((y.O y.nx).1, gone) }) := hI.out.setGone (by rw [HO.out]; exact H0.out) y.nx
        have HF2 : Hid (Fr [b, pb, ob] w (wr.setCell ⟨ob, y.nx * 2 + 1, none⟩ (.int .u64 18446744073709551615))) := hF.out.setCell (.inl (by simp)) _
        have HMv : Hid (∀ r, IsProbe (stopE y.P) y.sz ((y.O y.nx).1 % y.sz) r → StInv x { y with nx := y.nx + 1, O := upd y.O y.nx ((y.O y.nx).1, gone), P := upd y.P r (y.O y.nx), n := y.n + 1 } (m + 1) M c) :=
          fun r hr => st_move hS.out H0.out (by omega) (by omega) hgo2 HLive.out hr
        have HEx : Hid (∃ q, q < y.sz ∧ stopE y.P q) := hS.out.core.free (by rw [HZ.out]; omega)
        have HPw : Hid (Pw y.sz) := hS.out.core.pw
        have c0 := hI.out.c0
        clear hl2 hlive HLv HGo
        have hA := HPw.out.u64 (y.O y.nx).1
        have hsz1 := hS.out.core.sz_le
        have hsz0 : 1 ≤ y.sz := HPw.out.pos
        have hw1 : IntKind.u64.wrap (↑y.sz - 1) = ↑y.sz - 1 := by rw [IntKind.wrap_u64]; omega
        have hsl : (y.O y.nx).1 % y.sz < y.sz := Nat.mod_lt _ hsz0
        generalize hsE : (y.O y.nx).1 % y.sz = s at *
        clear hsE
        go_wp2
        go_region
        go_wp2
        have HI3 : Hid (IxAt ((wr.setCell ⟨ob, y.nx * 2 + 1, none⟩ (.int .u64 18446744073709551615)).alloc (.cells #[.int .u64 ((y.O y.nx).1 : Int), .int .u64 ((y.O y.nx).2 : Int)] 59)).drew.drew b pb ob { y with O := upd y.O y.nx ((y.O y.nx).1, gone) }) := (HI2.out.alloc _).drew.drew
        have HF3 : Hid (Fr [b, pb, ob] w ((wr.setCell ⟨ob, y.nx * 2 + 1, none⟩ (.int .u64 18446744073709551615)).alloc (.cells #[.int .u64 ((y.O y.nx).1 : Int), .int .u64 ((y.O y.nx).2 : Int)] 59)).drew.drew) := (HF2.out.alloc _).drew.drew
        obtain ⟨bx0, bx1⟩ := box_cells wr ⟨ob, y.nx * 2 + 1, none⟩ (.int .u64 18446744073709551615) (.int .u64 ((y.O y.nx).1 : Int)) (.int .u64 ((y.O y.nx).2 : Int))
        generalize ((wr.setCell ⟨ob, y.nx * 2 + 1, none⟩ (.int .u64 18446744073709551615)).alloc (.cells #[.int .u64 ((y.O y.nx).1 : Int), .int .u64 ((y.O y.nx).2 : Int)] 59)).drew.drew = w2 at *
        clear HI2 HF2 c2 c3 c0 t0 t1 g1 f3 hA hI hF hS HLive hz1 hz2
        have hpx : pb ≠ wr.heap.size := by omega
        have hpx' : wr.heap.size ≠ pb := by omega
        have hbx : b ≠ wr.heap.size := by omega
        have hbx' : wr.heap.size ≠ b := by omega
        clear hbs hpbs hobs
        generalize wr.heap.size = bx at *
        generalize hOn : y.O y.nx = on at *
        obtain ⟨th, tl⟩ := on
        simp only [] at *
        have c0 : w2.cell? ⟨b, 0, none⟩ = some (.slice (some ⟨pb, 0, none⟩) y.sz y.sz) := HI3.out.c0
        have c1 : w2.cell? ⟨b, 1, none⟩ = some (.int .i64 (y.n : Int)) := HI3.out.c1
        have c3 : w2.cell? ⟨b, 3, none⟩ = some (.int .i64 (y.nx : Int)) := HI3.out.c3
        have f1 := HI3.out.fz 1
        have f3 := HI3.out.fz 3
        go_loop [6] (fun v => ∃ i : Nat, i < y.sz ∧ v = .int .u64 i ∧ Hid (∀ c, c < y.sz → dist y.sz s c < dist y.sz s i → ¬ stopE y.P c)) (fun v => y.sz - dist y.sz s (intOf v).toNat)
        case atStart => exact ⟨s, hsl, rfl, fun c hc hd => by have d := dist_cases y.sz s s; omega⟩
        case round =>
          obtain ⟨i, hi, rfl, hbef⟩ := hrel
          have t0 := HI3.out.tab.cell0 hi
          have t1 := HI3.out.tab.cell1 hi
          have g0 := HI3.out.tab.frozen (i * 2)
          have g1 := HI3.out.tab.frozen (i * 2 + 1)
          have hAn := HPw.out.next hi
          simp only [] at t0 t1 g0 g1
          by_cases hz : (y.P i).2 = 0
          · have HPr : Hid (StInv x { y with nx := y.nx + 1, O := upd y.O y.nx (th, gone), P := upd y.P i (th, tl), n := y.n + 1 } (m + 1) M c) := HMv.out i ⟨hi, hz, hbef.out⟩
            have HI4 : Hid (IxAt ((((w2.setCell ⟨pb, i * 2, none⟩ (.int .u64 (th : Int))).setCell ⟨pb, i * 2 + 1, none⟩ (.int .u64 (tl : Int))).setCell ⟨b, 1, none⟩ (.int .i64 ((y.n : Int) + 1))).setCell ⟨b, 3, none⟩ (.int .i64 ((y.nx : Int) + 1))) b pb ob { y with nx := y.nx + 1, O := upd y.O y.nx (th, gone), P := upd y.P i (th, tl), n := y.n + 1 }) :=
              ((HI3.out.setPlace i th tl _ rfl).setN (y.n + 1) _ rfl).setNx (y.nx + 1) _ rfl
            have HF4 : Hid (Fr [b, pb, ob] w ((((w2.setCell ⟨pb, i * 2, none⟩ (.int .u64 (th : Int))).setCell ⟨pb, i * 2 + 1, none⟩ (.int .u64 (tl : Int))).setCell ⟨b, 1, none⟩ (.int .i64 ((y.n : Int) + 1))).setCell ⟨b, 3, none⟩ (.int .i64 ((y.nx : Int) + 1)))) :=
              (((HF3.out.setCell (.inl (by simp)) _).setCell (.inl (by simp)) _).setCell (.inl (by simp)) _).setCell (.inl (by simp)) _
            rw [hz] at t1
            clear hz HMv
            generalize (y.P i).1 = ph at *
            go_wp2
            go_region
            go_wp2
            go_roundg (gk - 1)
            case measure => omega
            case rel => exact ⟨_, m + 1, by go_num, by show y.nx + 1 + (gk - 1) = _; omega, HI4.out.drew, HPr, HF4.out.drew⟩
          · have hN := probe_next (stop := stopE y.P) hsl hi HEx.out hbef.out hz
            have HN' : Hid (nxt y.sz i < y.sz ∧ (∀ c, c < y.sz → dist y.sz s c < dist y.sz s (nxt y.sz i) → ¬ stopE y.P c) ∧ y.sz - dist y.sz s (nxt y.sz i) < y.sz - dist y.sz s i) := hN
            have hz2 : (((y.P i).2 : Int) != 0) = true := by rw [bne_iff_ne]; omega
            clear hN hz
            generalize (y.P i).2 = pl at *
            go_wp2
            go_round
            case rel => exact ⟨nxt y.sz i, HN'.out.1, rfl, HN'.out.2.1⟩
            case measure => simp only [intOf, Int.toNat_natCast]; exact HN'.out.2.2
      · have HSk : Hid (StInv x { y with nx := y.nx + 1 } m M c) := st_skip hS.out H0.out (by omega) (by omega) hgo2 (by simpa using hlive)
        have HNx : Hid (IxAt (wr.setCell ⟨b, 3, none⟩ (.int .i64 ((y.nx : Int) + 1))) b pb ob { y with nx := y.nx + 1 }) := hI.out.setNx (y.nx + 1) _ rfl
        have HFr : Hid (Fr [b, pb, ob] w (wr.setCell ⟨b, 3, none⟩ (.int .i64 ((y.nx : Int) + 1)))) := hF.out.setCell (.inl (by simp)) _
        by_cases hz : (y.O y.nx).2 = 0
        · have hz1 : (((y.O y.nx).2 : Int) == 0) = true := by rw [hz]; rfl
          clear HLv hlive hz
          generalize (y.O y.nx).1 = th at *
          generalize (y.O y.nx).2 = tl at *
          go_wp2
          go_roundg (gk - 1)
          case measure => omega
          case rel => exact ⟨{ y with nx := y.nx + 1 }, m, rfl, by show y.nx + 1 + (gk - 1) = _; omega, (HNx.out.alloc _).drew, HSk, (HFr.out.alloc _).drew⟩
        · have hz1 : (((y.O y.nx).2 : Int) == 0) = false := by rw [beq_eq_false_iff_ne]; omega
          have hg : (y.O y.nx).2 = gone := by
            by_cases e : (y.O y.nx).2 = gone
            · exact e
            · exact absurd (liveB_true.2 ⟨hz, e⟩) hlive
          have hz2 : (((y.O y.nx).2 : Int) == 18446744073709551615) = true := by rw [hg]; rfl
          clear HLv hlive hz hg
          generalize (y.O y.nx).1 = th at *
          generalize (y.O y.nx).2 = tl at *
          go_wp2
          go_roundg (gk - 1)
          case measure => omega
          case rel => exact ⟨{ y with nx := y.nx + 1 }, m, rfl, by show y.nx + 1 + (gk - 1) = _; omega, (HNx.out.alloc _).drew, HSk, (HFr.out.alloc _).drew⟩
    · have HEnd : Hid (¬ (y.nx < x.nx + 32 ∧ y.nx < x.om ∧ m < 4)) := fun hh => hgo ⟨by rcases HE3.out with e | e <;> omega, hh.2.2⟩
      have f2 := hI.out.fz 2
      by_cases hlast : y.nx = x.om
      · have hl1 : ((y.nx : Int) == (x.om : Int)) = true := by rw [hlast]; simp
        have HNil : Hid (IxAt (wr.setCell ⟨b, 2, none⟩ (.slice none 0 0)) b pb ob { y with om := 0 }) := hI.out.setNil
        have HFn : Hid (Fr [b, pb, ob] w (wr.setCell ⟨b, 2, none⟩ (.slice none 0 0))) := hF.out.setCell (.inl (by simp)) _
        have HP : Hid (StepPost x { y with om := 0 } M c) := ⟨y, m, hS.out, HEnd.out, .inl ⟨hlast, rfl⟩⟩
        have hge : ¬ (y.nx : Int) < (en : Int) := by omega
        clear hlast hgo HEnd
        go_wp2
        go_region
        go_wp2
        go_end0
        exact ⟨rfl, HFn.out.drew, _, HP, HNil.out.drew⟩
      · have hl1 : ((y.nx : Int) == (x.om : Int)) = false := by rw [beq_eq_false_iff_ne]; omega
        have HP : Hid (StepPost x y M c) := ⟨y, m, hS.out, HEnd.out, .inr ⟨hlast, rfl⟩⟩
        clear HEnd
        by_cases hge : y.nx < en
        · have hge' : (y.nx : Int) < (en : Int) := by omega
          have hm' : ¬ (m : Int) < 4 := by omega
          clear hlast hgo
          go_wp2
          go_region
          go_wp2
          go_end0
          exact ⟨rfl, hF.out.drew, _, HP, hI.out.drew⟩
        · have hge' : ¬ (y.nx : Int) < (en : Int) := by omega
          clear hlast hgo
          go_wp2
          go_region
          go_wp2
          go_end0
          exact ⟨rfl, hF.out.drew, _, HP, hI.out.drew⟩

end Go.Proofs.Qxb6601018a
