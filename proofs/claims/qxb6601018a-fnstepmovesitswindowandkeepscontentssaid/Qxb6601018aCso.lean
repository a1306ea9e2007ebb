/-
  THE WALK of zztb1CheckedStep where there is an old table.
-/
import Derived.Test.Qxb6601018aCs
set_option linter.unusedVariables false
namespace Go.Proofs.Qxb6601018a
open Go.RowKit

theorem z32_eq : (#[.int .u64 0, .int .u64 0, .int .u64 0, .int .u64 0, .int .u64 0, .int .u64 0, .int .u64 0, .int .u64 0, .int .u64 0, .int .u64 0, .int .u64 0, .int .u64 0, .int .u64 0, .int .u64 0, .int .u64 0, .int .u64 0, .int .u64 0, .int .u64 0, .int .u64 0, .int .u64 0, .int .u64 0, .int .u64 0, .int .u64 0, .int .u64 0, .int .u64 0, .int .u64 0, .int .u64 0, .int .u64 0, .int .u64 0, .int .u64 0, .int .u64 0, .int .u64 0] : Array Value) = Array.replicate 32 (.int .u64 0) := rfl

theorem rowIs_z32 (w : World) : ((w.alloc (.cells #[.int .u64 0, .int .u64 0, .int .u64 0, .int .u64 0, .int .u64 0, .int .u64 0, .int .u64 0, .int .u64 0, .int .u64 0, .int .u64 0, .int .u64 0, .int .u64 0, .int .u64 0, .int .u64 0, .int .u64 0, .int .u64 0, .int .u64 0, .int .u64 0, .int .u64 0, .int .u64 0, .int .u64 0, .int .u64 0, .int .u64 0, .int .u64 0, .int .u64 0, .int .u64 0, .int .u64 0, .int .u64 0, .int .u64 0, .int .u64 0, .int .u64 0, .int .u64 0] 61)).alloc (.cells #[.int .u64 0, .int .u64 0, .int .u64 0, .int .u64 0, .int .u64 0, .int .u64 0, .int .u64 0, .int .u64 0, .int .u64 0, .int .u64 0, .int .u64 0, .int .u64 0, .int .u64 0, .int .u64 0, .int .u64 0, .int .u64 0, .int .u64 0, .int .u64 0, .int .u64 0, .int .u64 0, .int .u64 0, .int .u64 0, .int .u64 0, .int .u64 0, .int .u64 0, .int .u64 0, .int .u64 0, .int .u64 0, .int .u64 0, .int .u64 0, .int .u64 0, .int .u64 0] 61)).rowIs w.heap.size 61 32 (fun _ => .int .u64 0) ∧ ((w.alloc (.cells #[.int .u64 0, .int .u64 0, .int .u64 0, .int .u64 0, .int .u64 0, .int .u64 0, .int .u64 0, .int .u64 0, .int .u64 0, .int .u64 0, .int .u64 0, .int .u64 0, .int .u64 0, .int .u64 0, .int .u64 0, .int .u64 0, .int .u64 0, .int .u64 0, .int .u64 0, .int .u64 0, .int .u64 0, .int .u64 0, .int .u64 0, .int .u64 0, .int .u64 0, .int .u64 0, .int .u64 0, .int .u64 0, .int .u64 0, .int .u64 0, .int .u64 0, .int .u64 0] 61)).alloc (.cells #[.int .u64 0, .int .u64 0, .int .u64 0, .int .u64 0, .int .u64 0, .int .u64 0, .int .u64 0, .int .u64 0, .int .u64 0, .int .u64 0, .int .u64 0, .int .u64 0, .int .u64 0, .int .u64 0, .int .u64 0, .int .u64 0, .int .u64 0, .int .u64 0, .int .u64 0, .int .u64 0, .int .u64 0, .int .u64 0, .int .u64 0, .int .u64 0, .int .u64 0, .int .u64 0, .int .u64 0, .int .u64 0, .int .u64 0, .int .u64 0, .int .u64 0, .int .u64 0] 61)).rowIs (w.heap.size + 1) 61 32 (fun _ => .int .u64 0) := by
  rw [z32_eq]
  have hc : ∀ i, i < (Array.replicate 32 (Value.int .u64 0)).size → (Array.replicate 32 (Value.int .u64 0))[i]? = some (Value.int .u64 0) := by
    intro i hi
    rw [Array.size_replicate] at hi
    rw [Array.getElem?_replicate, if_pos hi]
  have h1 := World.rowIs_alloc w (Array.replicate 32 (Value.int .u64 0)) 61 (fun _ => .int .u64 0) hc
  have h2 := World.rowIs_alloc (w.alloc (.cells (Array.replicate 32 (Value.int .u64 0)) 61)) (Array.replicate 32 (Value.int .u64 0)) 61 (fun _ => .int .u64 0) hc
  rw [Array.size_replicate] at h1 h2
  rw [World.size_alloc] at h2
  exact ⟨h1.alloc _, h2⟩

theorem win_cnt {x : Ix} {m t : Nat} (ht : t ≤ m) : cnt (fun i => liveN (if i < m then (x.O (x.nx + i)).2 else 0)) t = cnt (winB x) t := by
  refine cnt_congr (fun i hi => ?_)
  rw [if_pos (by omega)]; rfl

theorem cnt_succ_le (p : Nat → Bool) (t : Nat) : cnt p (t + 1) ≤ cnt p t + 1 := by
  simp only [cnt]; split <;> omega

set_option maxRecDepth 100000 in
set_option maxHeartbeats 16000000 in
theorem cs_old_a {B : Nat} {w : World} {b : Nat} {hs locs : Nat → Nat} {k : Nat} {x : Ix} (h : GO hs locs B b k x w) (h0 : x.om ≠ 0) (hBs : B ≤ w.heap.size) (hgt : (x.om : Int) < (x.nx : Int) + 32) :
    Calls Try.prog 38 #[.pointer (some ⟨b, 0, none⟩)] w fun e w' => e = .returned (.bool true) ∧ Below B w w' ∧ ∃ x', GO hs locs B b k x' w' := by
  obtain ⟨pb, ob, hb1, hb2, hb3, hI⟩ := h.ix
  have hom : x.om ≤ 16384 := by have := h.core.om_le; omega
  have hnx := (h.core.old h0).nx
  have hn4 := h.core.n_le
  have hc4 := h.core.cle
  have HI : Hid (IxAt w b pb ob x) := hI
  have H0 : Hid (x.om ≠ 0) := h0
  have HG : Hid (GO hs locs B b k x w) := h
  have HBs : Hid (B ≤ w.heap.size) := hBs
  have HB1 : Hid (B ≤ b) := hb1
  have HB2 : Hid (B ≤ pb) := hb2
  have HB3 : Hid (B ≤ ob) := hb3 h0
  clear h hI h0 hBs hb1 hb2 hb3
  go_enter Try.func38, Try.ntmps38
  go_wp2_with fail
  refine (zzLen HI.out).mono ?_
  rintro e w1 ⟨rfl, rfl⟩
  go_wp2_with fail
  refine (zzHasOld HI.out).mono ?_
  rintro e w2 ⟨rfl, rfl⟩
  rw [hasOld_true H0.out]
  go_wp2_with fail
  refine (zzNext HI.out).mono ?_
  rintro e w3 ⟨rfl, rfl⟩
  go_wp2_with fail
  refine (zzOldLen HI.out).mono ?_
  rintro e w4 ⟨rfl, rfl⟩
  go_wp2_with fail
  refine (zzN HI.out).mono ?_
  rintro e w5 ⟨rfl, rfl⟩
  go_wp2_with fail
  have hen1 : x.om ≤ x.nx + 32 := by omega
  have hen2 : x.om ≤ x.om := by omega
  have hen0 : x.nx ≤ x.om := by omega
  obtain ⟨m, hm⟩ : ∃ m, m + x.nx = x.om := ⟨x.om - x.nx, by omega⟩
  have hm32 : m ≤ 32 := by omega
  obtain ⟨hz1, hz2⟩ := rowIs_z32 w5
  have HR1 : Hid (((w5.alloc (.cells #[.int .u64 0, .int .u64 0, .int .u64 0, .int .u64 0, .int .u64 0, .int .u64 0, .int .u64 0, .int .u64 0, .int .u64 0, .int .u64 0, .int .u64 0, .int .u64 0, .int .u64 0, .int .u64 0, .int .u64 0, .int .u64 0, .int .u64 0, .int .u64 0, .int .u64 0, .int .u64 0, .int .u64 0, .int .u64 0, .int .u64 0, .int .u64 0, .int .u64 0, .int .u64 0, .int .u64 0, .int .u64 0, .int .u64 0, .int .u64 0, .int .u64 0, .int .u64 0] 61)).alloc (.cells #[.int .u64 0, .int .u64 0, .int .u64 0, .int .u64 0, .int .u64 0, .int .u64 0, .int .u64 0, .int .u64 0, .int .u64 0, .int .u64 0, .int .u64 0, .int .u64 0, .int .u64 0, .int .u64 0, .int .u64 0, .int .u64 0, .int .u64 0, .int .u64 0, .int .u64 0, .int .u64 0, .int .u64 0, .int .u64 0, .int .u64 0, .int .u64 0, .int .u64 0, .int .u64 0, .int .u64 0, .int .u64 0, .int .u64 0, .int .u64 0, .int .u64 0, .int .u64 0] 61)).rowIs w5.heap.size 61 32 (fun _ => .int .u64 0)) := hz1
  have HR2 : Hid (((w5.alloc (.cells #[.int .u64 0, .int .u64 0, .int .u64 0, .int .u64 0, .int .u64 0, .int .u64 0, .int .u64 0, .int .u64 0, .int .u64 0, .int .u64 0, .int .u64 0, .int .u64 0, .int .u64 0, .int .u64 0, .int .u64 0, .int .u64 0, .int .u64 0, .int .u64 0, .int .u64 0, .int .u64 0, .int .u64 0, .int .u64 0, .int .u64 0, .int .u64 0, .int .u64 0, .int .u64 0, .int .u64 0, .int .u64 0, .int .u64 0, .int .u64 0, .int .u64 0, .int .u64 0] 61)).alloc (.cells #[.int .u64 0, .int .u64 0, .int .u64 0, .int .u64 0, .int .u64 0, .int .u64 0, .int .u64 0, .int .u64 0, .int .u64 0, .int .u64 0, .int .u64 0, .int .u64 0, .int .u64 0, .int .u64 0, .int .u64 0, .int .u64 0, .int .u64 0, .int .u64 0, .int .u64 0, .int .u64 0, .int .u64 0, .int .u64 0, .int .u64 0, .int .u64 0, .int .u64 0, .int .u64 0, .int .u64 0, .int .u64 0, .int .u64 0, .int .u64 0, .int .u64 0, .int .u64 0] 61)).rowIs (w5.heap.size + 1) 61 32 (fun _ => .int .u64 0)) := hz2
  have HB0 : Hid (Below w5.heap.size w5 ((w5.alloc (.cells #[.int .u64 0, .int .u64 0, .int .u64 0, .int .u64 0, .int .u64 0, .int .u64 0, .int .u64 0, .int .u64 0, .int .u64 0, .int .u64 0, .int .u64 0, .int .u64 0, .int .u64 0, .int .u64 0, .int .u64 0, .int .u64 0, .int .u64 0, .int .u64 0, .int .u64 0, .int .u64 0, .int .u64 0, .int .u64 0, .int .u64 0, .int .u64 0, .int .u64 0, .int .u64 0, .int .u64 0, .int .u64 0, .int .u64 0, .int .u64 0, .int .u64 0, .int .u64 0] 61)).alloc (.cells #[.int .u64 0, .int .u64 0, .int .u64 0, .int .u64 0, .int .u64 0, .int .u64 0, .int .u64 0, .int .u64 0, .int .u64 0, .int .u64 0, .int .u64 0, .int .u64 0, .int .u64 0, .int .u64 0, .int .u64 0, .int .u64 0, .int .u64 0, .int .u64 0, .int .u64 0, .int .u64 0, .int .u64 0, .int .u64 0, .int .u64 0, .int .u64 0, .int .u64 0, .int .u64 0, .int .u64 0, .int .u64 0, .int .u64 0, .int .u64 0, .int .u64 0, .int .u64 0] 61))) := ((Below.refl _ _).alloc (Nat.le_refl _) _).alloc (by simp) _
  clear hz1 hz2
  generalize hn0 : w5.heap.size = n0 at *
  have HN0 : Hid (w5.heap.size = n0) := hn0
  clear hn0
  generalize (w5.alloc (.cells #[.int .u64 0, .int .u64 0, .int .u64 0, .int .u64 0, .int .u64 0, .int .u64 0, .int .u64 0, .int .u64 0, .int .u64 0, .int .u64 0, .int .u64 0, .int .u64 0, .int .u64 0, .int .u64 0, .int .u64 0, .int .u64 0, .int .u64 0, .int .u64 0, .int .u64 0, .int .u64 0, .int .u64 0, .int .u64 0, .int .u64 0, .int .u64 0, .int .u64 0, .int .u64 0, .int .u64 0, .int .u64 0, .int .u64 0, .int .u64 0, .int .u64 0, .int .u64 0] 61)).alloc (.cells #[.int .u64 0, .int .u64 0, .int .u64 0, .int .u64 0, .int .u64 0, .int .u64 0, .int .u64 0, .int .u64 0, .int .u64 0, .int .u64 0, .int .u64 0, .int .u64 0, .int .u64 0, .int .u64 0, .int .u64 0, .int .u64 0, .int .u64 0, .int .u64 0, .int .u64 0, .int .u64 0, .int .u64 0, .int .u64 0, .int .u64 0, .int .u64 0, .int .u64 0, .int .u64 0, .int .u64 0, .int .u64 0, .int .u64 0, .int .u64 0, .int .u64 0, .int .u64 0] 61) = w6 at *
  go_loopw [20] (fun v wr => ∃ t : Nat, t ≤ m ∧ v = .int .i64 ((x.nx : Int) + (t : Int)) ∧ Hid (Below n0 w5 wr) ∧ Hid (wr.rowIs n0 61 32 (fun i => if i < t then .int .u64 (((x.O (x.nx + i)).1 : Nat) : Int) else .int .u64 0)) ∧ Hid (wr.rowIs (n0 + 1) 61 32 (fun i => if i < t then .int .u64 (((x.O (x.nx + i)).2 : Nat) : Int) else .int .u64 0))) (fun v _ => m + x.nx - (intOf v).toNat)
  case atStart => exact ⟨0, Nat.zero_le _, by simp, HB0, HR1.out.congr (fun i _ => by simp), HR2.out.congr (fun i _ => by simp)⟩
  case round =>
    obtain ⟨t, ht, rfl, hB, hr1, hr2⟩ := hrel
    clear HR1 HR2 HB0
    have HIr : Hid (IxAt wr b pb ob x) := HI.out.ext (by rw [HN0.out]; exact hB.out)
    by_cases hlt : t < m
    · have hltI : (x.nx : Int) + (t : Int) < (x.om : Int) := by omega
      have ht32 : (t : Int) < 32 := by omega
      have hP := zzOldPlaceAt HIr.out H0.out (x.nx + t) (by omega) hom
      rw [Int.natCast_add] at hP
      have HP : Hid (Calls Try.prog 45 #[.pointer (some ⟨b, 0, none⟩), .int .i64 ((x.nx : Int) + (t : Int))] wr fun e w' => e = .returned (.tuple #[.int .u64 (((x.O (x.nx + t)).1 : Nat) : Int), .int .u64 (((x.O (x.nx + t)).2 : Nat) : Int)]) ∧ Below wr.heap.size wr w') := hP
      clear hP
      go_wp2_with fail
      refine HP.out.mono ?_
      rintro e w7 ⟨rfl, hb7⟩
      clear HP
      have HB7 : Hid (Below n0 w5 w7) := hB.out.trans (hb7.mono (by have := hB.out.size; rw [HN0.out] at this; exact this))
      have q1 := rowIs_ext hr1.out hb7
      have q2 := rowIs_ext hr2.out hb7
      have Q1 : Hid (((w7.setCell ⟨n0, t, none⟩ (.int .u64 (((x.O (x.nx + t)).1 : Nat) : Int))).setCell ⟨n0 + 1, t, none⟩ (.int .u64 (((x.O (x.nx + t)).2 : Nat) : Int))).rowIs n0 61 32 (fun i => if i < t + 1 then .int .u64 (((x.O (x.nx + i)).1 : Nat) : Int) else .int .u64 0)) :=
        (rowIs_fill (f := fun i => (x.O (x.nx + i)).1) q1).setOther (by show n0 ≠ n0 + 1; omega) _
      have Q2 : Hid (((w7.setCell ⟨n0, t, none⟩ (.int .u64 (((x.O (x.nx + t)).1 : Nat) : Int))).setCell ⟨n0 + 1, t, none⟩ (.int .u64 (((x.O (x.nx + t)).2 : Nat) : Int))).rowIs (n0 + 1) 61 32 (fun i => if i < t + 1 then .int .u64 (((x.O (x.nx + i)).2 : Nat) : Int) else .int .u64 0)) :=
        rowIs_fill (f := fun i => (x.O (x.nx + i)).2) (q2.setOther (by show n0 + 1 ≠ n0; omega) _)
      have QB : Hid (Below n0 w5 ((w7.setCell ⟨n0, t, none⟩ (.int .u64 (((x.O (x.nx + t)).1 : Nat) : Int))).setCell ⟨n0 + 1, t, none⟩ (.int .u64 (((x.O (x.nx + t)).2 : Nat) : Int)))) :=
        (HB7.out.setCell (Nat.le_refl _) _).setCell (Nat.le_succ _) _
      have d1 := q1.cell (show t < 32 by omega)
      have d2 := q2.cell (show t < 32 by omega)
      have z1 := q1.frozen t
      have z2 := q2.frozen t
      simp only [Nat.lt_irrefl, if_false] at d1 d2
      clear q1 q2 hb7 hr1 hr2 hB
      generalize (x.O (x.nx + t)).1 = ph at *
      generalize (x.O (x.nx + t)).2 = pl at *
      go_wp2
      go_roundw
      case rel => exact ⟨t + 1, by omega, congrArg (Value.int .i64) (show (x.nx : Int) + (t : Int) + 1 = (x.nx : Int) + ((t + 1 : Nat) : Int) by omega), QB, Q1, Q2⟩
      case measure => simp [intOf]; omega
    · have hte : t = m := by omega
      subst hte
      have R1 : Hid (wr.rowIs n0 61 32 (fun i => .int .u64 ((if i < t then (x.O (x.nx + i)).1 else 0 : Nat) : Int))) := hr1.out.congr (fun i hi => by split <;> rfl)
      have R2 : Hid (wr.rowIs (n0 + 1) 61 32 (fun i => .int .u64 ((if i < t then (x.O (x.nx + i)).2 else 0 : Nat) : Int))) := hr2.out.congr (fun i hi => by split <;> rfl)
      have hge : ¬ (x.nx : Int) + (t : Int) < (x.om : Int) := by omega
      clear hr1 hr2
      obtain ⟨wq, hwq⟩ : ∃ wq, wq = wr := ⟨_, rfl⟩
      subst hwq
      obtain ⟨m, hmt⟩ : ∃ m, m = t := ⟨_, rfl⟩
      subst hmt
      go_wp2_with fail
      go_loop [23, 24] (fun ev v => ∃ t : Nat, t ≤ m ∧ v = .int .i64 ((x.nx : Int) + (t : Int)) ∧ ev = .int .i64 (x.om : Int) ∧ Hid (∀ j, j < t → cnt (winB x) j < 4)) (fun _ v => m + x.nx - (intOf v).toNat)
      case atStart => exact ⟨0, Nat.zero_le _, by simp, rfl, fun j hj => by omega⟩
      case round =>
        obtain ⟨t, ht, rfl, rfl, hq⟩ := hrel
        by_cases hlt : t < m
        · have hltI : (x.nx : Int) + (t : Int) < (x.om : Int) := by omega
          have hsub : ((x.nx : Int) + (t : Int) - (x.nx : Int)) = (t : Int) := by omega
          have HCL := countLive_any (n0 + 1) _ t 61 wq R2.out (by omega)
          rw [win_cnt ht] at HCL
          have HCL' : Hid (Calls Try.prog 47 #[.slice (some ⟨n0 + 1, 0, none⟩) 32 32, .int .i64 0, .int .i64 (t : Int)] wq fun e w' => e = .returned (.int .i64 ((cnt (winB x) t : Nat) : Int)) ∧ w' = wq) := HCL
          clear HCL
          have hc4' : cnt (winB x) t ≤ 4 := by
            cases t with
            | zero => exact Nat.zero_le _
            | succ t => have h1 := hq.out t (by omega); have h2 := cnt_succ_le (winB x) t; omega
          go_wp2_with fail
          refine HCL'.out.mono ?_
          rintro e w8 ⟨rfl, rfl⟩
          clear HCL'
          by_cases h4 : cnt (winB x) t = 4
          · have h4b : ((cnt (winB x) t : Int) == 4) = true := by rw [h4]; rfl
            have HEI : Hid (EIs x x.om (x.nx + t)) := ⟨by omega, by omega, fun j hj => hq.out j (by omega), .inr (by rw [Nat.add_sub_cancel_left]; exact h4)⟩
            have hD : t ≤ m := ht
            clear h4 hlt hltI hc4' hq ht
            go_wp2_with fail
            have hsubD : (((x.nx : Int) + (t : Int)) - (x.nx : Int)) = (t : Int) := by omega
            have HCM := countLive_any (n0 + 1) _ t 61 w8 R2.out (by omega)
            rw [win_cnt hD] at HCM
            have HCM' : Hid (Calls Try.prog 47 #[.slice (some ⟨n0 + 1, 0, none⟩) 32 32, .int .i64 0, .int .i64 (t : Int)] w8 fun e w' => e = .returned (.int .i64 ((cnt (winB x) t : Nat) : Int)) ∧ w' = w8) := HCM
            clear HCM
            try rw [hsubD]
            refine HCM'.out.mono ?_
            rintro e w9 ⟨rfl, rfl⟩
            clear HCM'
            have hbl := HIr.out.lt
            have hpl := HIr.out.tab.lt
            have hol := (HIr.out.old H0.out).lt
            have hw5 := HI.out.lt
            have hw5p := HI.out.tab.lt
            have hw5o := (HI.out.old H0.out).lt
            rw [HN0.out] at hw5 hw5p hw5o
            have HST := zzStep_of (R := fun w' => Fr [b, pb, ob] w9 w' ∧ ∃ x', StepPost x x' (lastM hs locs noDel k) (cnt (firstB hs) k) ∧ IxAt w' b pb ob x') (step_old HIr.out H0.out HG.out.core (HG.out.load.room HG.out.core (by omega)))
            have HST' : Hid (Calls Try.prog 40 #[.pointer (some ⟨b, 0, none⟩)] w9 fun e w' => e = .returned (.tuple #[]) ∧ (Fr [b, pb, ob] w9 w' ∧ ∃ x', StepPost x x' (lastM hs locs noDel k) (cnt (firstB hs) k) ∧ IxAt w' b pb ob x')) := HST
            clear HST
            go_wp2_with fail
            refine HST'.out.mono ?_
            rintro e wa ⟨rfl, hFa, x', hSP, hIa⟩
            clear HST'
            obtain ⟨hE', hN', hOld', hNil'⟩ := hSP.eis hen1 hen2 (by first | exact .inl rfl | exact .inr rfl)
            have hnx' : x'.nx = x.nx + t := hE'.unique HEI.out
            rw [hnx', Nat.add_sub_cancel_left] at hN'
            have hsz' := hSP.sz
            have R1a : Hid (wa.rowIs n0 61 32 (fun i => .int .u64 ((if i < m then (x.O (x.nx + i)).1 else 0 : Nat) : Int))) := R1.out.of_block (hFa.block _ R1.out.lt (by simp; omega))
            have R2a : Hid (wa.rowIs (n0 + 1) 61 32 (fun i => .int .u64 ((if i < m then (x.O (x.nx + i)).2 else 0 : Nat) : Int))) := R2.out.of_block (hFa.block _ R2.out.lt (by simp; omega))
            have hBs5 : B ≤ n0 := HBs.out
            have HBa : Hid (Below B w5 wa) := (hB.out.mono hBs5).trans (hFa.below (fun z hz => by
              simp at hz
              rcases hz with rfl | rfl | rfl
              · exact HB1.out
              · exact HB2.out
              · exact HB3.out) (by have h1 := hB.out.size; rw [HN0.out] at h1; omega))
            have HGa : Hid (GO hs locs B b k x' wa) := ⟨⟨pb, ob, HB1.out, HB2.out, fun _ => HB3.out, hIa⟩, hSP.core H0.out, hSP.load HG.out.core H0.out HG.out.load (by omega)⟩
            have HIa : Hid (IxAt wa b pb ob x') := hIa
            have HSP : Hid (StepPost x x' (lastM hs locs noDel k) (cnt (firstB hs) k)) := hSP
            have HOld : Hid (x'.om ≠ 0 → x'.om = x.om ∧ x'.nx ≠ x.om ∧ ∀ q, x'.O q = if x.nx ≤ q ∧ q < x'.nx ∧ liveB x.O q = true then ((x.O q).1, gone) else x.O q) := hOld'
            have HNil : Hid (x'.om = 0 → x.om ≠ 0 → x'.nx = x.om) := hNil'
            have HNx : Hid (x'.nx = x.nx + t) := hnx'
            have hBa0 : B ≤ wa.heap.size := Nat.le_trans HBs.out (by have := HBa.out.size; rw [HN0.out] at this; exact this)
            have HBa0 : Hid (B ≤ wa.heap.size) := hBa0
            have hnxI : ((x'.nx : Int) != ((x.nx : Int) + (t : Int))) = false := by rw [bne_eq_false_iff_eq]; omega
            have hlenI : ((x'.sz : Int) != (x.sz : Int)) = false := by rw [hsz']; simp
            have hnI : ((x'.n : Int) != (x.n : Int) + ((cnt (winB x) t : Nat) : Int)) = false := by rw [bne_eq_false_iff_eq]; omega
            have hcw := cnt_le (winB x) t
            clear hFa hSP hIa hE' hN' hOld' hNil' hsz' R1 R2 hBa0 hnx' hbl hpl hol hw5 hw5p hw5o HEI HIr hB
            go_wp2_with fail
            refine (zzNext HIa.out).mono ?_
            rintro e wb ⟨rfl, rfl⟩
            go_wp2_with fail
            refine (zzHasOld HIa.out).mono ?_
            rintro e wb ⟨rfl, rfl⟩
            by_cases ho : x'.om = 0
            · have hdone : x'.nx = x.om := HNil.out ho H0.out
              have hne : (((x.nx : Int) + (t : Int)) != (x.om : Int)) = false := by first | (simp; done) | (rw [bne_eq_false_iff_eq]; have := HNx.out; omega)
              rw [hasOld_false ho]
              have HO' : Hid (x'.om = 0) := ho
              clear ho hdone
              go_wp2_with fail
              refine (zzLen HIa.out).mono ?_
              rintro e wb ⟨rfl, rfl⟩
              go_wp2_with fail
              refine (zzN HIa.out).mono ?_
              rintro e wb ⟨rfl, rfl⟩
              have hsz16 : x'.sz ≤ 16384 := by have := HGa.out.core.sz_le; omega
              have hom16 : x'.om ≤ 16384 := by have := HGa.out.core.om_le; omega
              have HShape : Hid (Shape x') := HGa.out.shape
              go_wp2_with fail
              clear hnxI hlenI hnI hcw hne
              go_loopw [26] (fun v wr => ∃ u : Nat, u ≤ t ∧ v = .int .i64 ((x.nx : Int) + (u : Int)) ∧ Hid (Below wb.heap.size wb wr)) (fun v _ => t + x.nx - (intOf v).toNat)
              case atStart => exact ⟨0, Nat.zero_le _, by simp, Below.refl _ _⟩
              case round =>
                obtain ⟨u, hu, rfl, hBu⟩ := hrel
                have HIu : Hid (IxAt wr b pb ob x') := HIa.out.ext hBu.out
                have R1u : Hid (wr.rowIs n0 61 32 (fun i => .int .u64 ((if i < m then (x.O (x.nx + i)).1 else 0 : Nat) : Int))) := rowIs_ext R1a.out hBu.out
                have R2u : Hid (wr.rowIs (n0 + 1) 61 32 (fun i => .int .u64 ((if i < m then (x.O (x.nx + i)).2 else 0 : Nat) : Int))) := rowIs_ext R2a.out hBu.out
                have hsubu : ((x.nx : Int) + (u : Int) - (x.nx : Int)) = (u : Int) := by omega
                by_cases hlu : u < t
                · have hluI : (x.nx : Int) + (u : Int) < ((x.nx : Int) + (t : Int)) := by omega
                  have hu32 : (u : Int) < 32 := by omega
                  have d1 := R1u.out.cell (show u < 32 by omega)
                  have d2 := R2u.out.cell (show u < 32 by omega)
                  simp only [show u < m by omega, if_true] at d1 d2
                  have HMoved : Hid (liveB x.O (x.nx + u) = true → ∀ r, IsProbe (stopF x'.P (x.O (x.nx + u)).1) x'.sz ((x.O (x.nx + u)).1 % x'.sz) r → (x'.P r).2 = (x.O (x.nx + u)).2 ∧ (x'.P r).2 ≠ 0) :=
                    fun hl r hr => HSP.out.moved HG.out.core H0.out (by omega) (by rw [HNx.out]; omega) hl hr
                  have hwu : wr.heap.size = wr.heap.size := rfl
                  go_wp2_with fail
                  refine (live_any _ _).mono ?_
                  rintro e wc ⟨rfl, rfl⟩
                  cases hlv : liveN (x.O (x.nx + u)).2 with
                  | false =>
                    clear hlv HMoved
                    go_wp2
                    go_roundw
                    case rel => exact ⟨u + 1, by omega, congrArg (Value.int .i64) (show (x.nx : Int) + (u : Int) + 1 = (x.nx : Int) + ((u + 1 : Nat) : Int) by omega), hBu⟩
                    case measure => simp [intOf]; omega
                  | true =>
                    have HMv : Hid (∀ r, IsProbe (stopF x'.P (x.O (x.nx + u)).1) x'.sz ((x.O (x.nx + u)).1 % x'.sz) r → (x'.P r).2 = (x.O (x.nx + u)).2 ∧ (x'.P r).2 ≠ 0) := HMoved.out hlv
                    clear HMoved hlv
                    go_wp2_with fail
                    refine (zzFind HIu.out _ HShape.out.pw hsz16 HShape.out.free).mono ?_
                    rintro e wd ⟨hbd, r, hr, rfl⟩
                    obtain ⟨hv1, hv2⟩ := HMv.out r hr
                    have hrl := hr.lt
                    have e1 : findV x'.P r = .tuple #[.int .i64 (r : Int), .bool true] := by simp [findV, hv2]
                    rw [e1]
                    have HBd : Hid (Below wb.heap.size wb wd) := hBu.out.trans (hbd.mono hBu.out.size)
                    have HId : Hid (IxAt wd b pb ob x') := HIu.out.ext hbd
                    have d1' := (rowIs_ext R1u.out hbd).cell (show u < 32 by omega)
                    have d2' := (rowIs_ext R2u.out hbd).cell (show u < 32 by omega)
                    simp only [show u < m by omega, if_true] at d1' d2'
                    have HPl := zzPlaceAt HId.out r hrl hsz16
                    rw [hv1] at HPl
                    have HPl' : Hid (Calls Try.prog 27 #[.pointer (some ⟨b, 0, none⟩), .int .i64 (r : Int)] wd fun e w' => e = .returned (.tuple #[.int .u64 (((x'.P r).1 : Nat) : Int), .int .u64 (((x.O (x.nx + u)).2 : Nat) : Int)]) ∧ Below wd.heap.size wd w') := HPl
                    clear e1 hr hbd hv1 hv2 HPl d1 d2 HMv
                    go_wp2_with fail
                    refine HPl'.out.mono ?_
                    rintro e we ⟨rfl, hbe⟩
                    have HBe : Hid (Below wb.heap.size wb we) := HBd.out.trans (hbe.mono HBd.out.size)
                    have HIe : Hid (IxAt we b pb ob x') := HId.out.ext hbe
                    have d1 := (rowIs_ext (rowIs_ext R1a.out HBd.out) hbe).cell (show u < 32 by omega)
                    have d2 := (rowIs_ext (rowIs_ext R2a.out HBd.out) hbe).cell (show u < 32 by omega)
                    simp only [show u < m by omega, if_true] at d1 d2
                    clear hbe HPl' d1' d2'
                    go_wp2_with fail
                    refine (zzHasOld HIe.out).mono ?_
                    rintro e wf ⟨rfl, rfl⟩
                    rw [hasOld_false HO'.out]
                    go_wp2
                    go_roundw
                    case rel => exact ⟨u + 1, by omega, congrArg (Value.int .i64) (show (x.nx : Int) + (u : Int) + 1 = (x.nx : Int) + ((u + 1 : Nat) : Int) by omega), HBe⟩
                    case measure => simp [intOf]; omega
                · have hluI : ¬ (x.nx : Int) + (u : Int) < ((x.nx : Int) + (t : Int)) := by omega
                  clear R1u R2u
                  go_wp2_with fail
                  refine (zzHasOld HIu.out).mono ?_
                  rintro e wf ⟨rfl, rfl⟩
                  rw [hasOld_false HO'.out]
                  go_wp2
                  go_ret
                  exact ⟨rfl, HBa.out.trans (hBu.out.mono HBa0.out), x', HGa.out.ext hBu.out⟩
            · obtain ⟨_, hnd, hOO⟩ := HOld.out ho
              have hne : (((x.nx : Int) + (t : Int)) != (x.om : Int)) = true := by rw [bne_iff_ne]; have := HNx.out; omega
              rw [hasOld_true ho]
              have HO' : Hid (x'.om ≠ 0) := ho
              have HOO : Hid (∀ q, x'.O q = if x.nx ≤ q ∧ q < x'.nx ∧ liveB x.O q = true then ((x.O q).1, gone) else x.O q) := hOO
              have HOm : Hid (x'.om = x.om) := (HOld.out ho).1
              clear ho hnd hOO
              go_wp2_with fail
              refine (zzLen HIa.out).mono ?_
              rintro e wb ⟨rfl, rfl⟩
              go_wp2_with fail
              refine (zzN HIa.out).mono ?_
              rintro e wb ⟨rfl, rfl⟩
              have hsz16 : x'.sz ≤ 16384 := by have := HGa.out.core.sz_le; omega
              have hom16 : x'.om ≤ 16384 := by have := HGa.out.core.om_le; omega
              have HShape : Hid (Shape x') := HGa.out.shape
              go_wp2_with fail
              clear hnxI hlenI hnI hcw hne
              go_loopw [26] (fun v wr => ∃ u : Nat, u ≤ t ∧ v = .int .i64 ((x.nx : Int) + (u : Int)) ∧ Hid (Below wb.heap.size wb wr)) (fun v _ => t + x.nx - (intOf v).toNat)
              case atStart => exact ⟨0, Nat.zero_le _, by simp, Below.refl _ _⟩
              case round =>
                obtain ⟨u, hu, rfl, hBu⟩ := hrel
                have HIu : Hid (IxAt wr b pb ob x') := HIa.out.ext hBu.out
                have R1u : Hid (wr.rowIs n0 61 32 (fun i => .int .u64 ((if i < m then (x.O (x.nx + i)).1 else 0 : Nat) : Int))) := rowIs_ext R1a.out hBu.out
                have R2u : Hid (wr.rowIs (n0 + 1) 61 32 (fun i => .int .u64 ((if i < m then (x.O (x.nx + i)).2 else 0 : Nat) : Int))) := rowIs_ext R2a.out hBu.out
                have hsubu : ((x.nx : Int) + (u : Int) - (x.nx : Int)) = (u : Int) := by omega
                by_cases hlu : u < t
                · have hluI : (x.nx : Int) + (u : Int) < ((x.nx : Int) + (t : Int)) := by omega
                  have hu32 : (u : Int) < 32 := by omega
                  have d1 := R1u.out.cell (show u < 32 by omega)
                  have d2 := R2u.out.cell (show u < 32 by omega)
                  simp only [show u < m by omega, if_true] at d1 d2
                  have HMoved : Hid (liveB x.O (x.nx + u) = true → ∀ r, IsProbe (stopF x'.P (x.O (x.nx + u)).1) x'.sz ((x.O (x.nx + u)).1 % x'.sz) r → (x'.P r).2 = (x.O (x.nx + u)).2 ∧ (x'.P r).2 ≠ 0) :=
                    fun hl r hr => HSP.out.moved HG.out.core H0.out (by omega) (by rw [HNx.out]; omega) hl hr
                  have hwu : wr.heap.size = wr.heap.size := rfl
                  go_wp2_with fail
                  refine (live_any _ _).mono ?_
                  rintro e wc ⟨rfl, rfl⟩
                  cases hlv : liveN (x.O (x.nx + u)).2 with
                  | false =>
                    clear hlv HMoved
                    go_wp2
                    go_roundw
                    case rel => exact ⟨u + 1, by omega, congrArg (Value.int .i64) (show (x.nx : Int) + (u : Int) + 1 = (x.nx : Int) + ((u + 1 : Nat) : Int) by omega), hBu⟩
                    case measure => simp [intOf]; omega
                  | true =>
                    have HMv : Hid (∀ r, IsProbe (stopF x'.P (x.O (x.nx + u)).1) x'.sz ((x.O (x.nx + u)).1 % x'.sz) r → (x'.P r).2 = (x.O (x.nx + u)).2 ∧ (x'.P r).2 ≠ 0) := HMoved.out hlv
                    have HGn : Hid (x'.O (x.nx + u) = ((x.O (x.nx + u)).1, gone)) := by rw [HOO.out, if_pos ⟨by omega, by rw [HNx.out]; omega, hlv⟩]; rfl
                    clear HMoved hlv
                    go_wp2_with fail
                    refine (zzFind HIu.out _ HShape.out.pw hsz16 HShape.out.free).mono ?_
                    rintro e wd ⟨hbd, r, hr, rfl⟩
                    obtain ⟨hv1, hv2⟩ := HMv.out r hr
                    have hrl := hr.lt
                    have e1 : findV x'.P r = .tuple #[.int .i64 (r : Int), .bool true] := by simp [findV, hv2]
                    rw [e1]
                    have HBd : Hid (Below wb.heap.size wb wd) := hBu.out.trans (hbd.mono hBu.out.size)
                    have HId : Hid (IxAt wd b pb ob x') := HIu.out.ext hbd
                    have d1' := (rowIs_ext R1u.out hbd).cell (show u < 32 by omega)
                    have d2' := (rowIs_ext R2u.out hbd).cell (show u < 32 by omega)
                    simp only [show u < m by omega, if_true] at d1' d2'
                    have HPl := zzPlaceAt HId.out r hrl hsz16
                    rw [hv1] at HPl
                    have HPl' : Hid (Calls Try.prog 27 #[.pointer (some ⟨b, 0, none⟩), .int .i64 (r : Int)] wd fun e w' => e = .returned (.tuple #[.int .u64 (((x'.P r).1 : Nat) : Int), .int .u64 (((x.O (x.nx + u)).2 : Nat) : Int)]) ∧ Below wd.heap.size wd w') := HPl
                    clear e1 hr hbd hv1 hv2 HPl d1 d2 HMv
                    go_wp2_with fail
                    refine HPl'.out.mono ?_
                    rintro e we ⟨rfl, hbe⟩
                    have HBe : Hid (Below wb.heap.size wb we) := HBd.out.trans (hbe.mono HBd.out.size)
                    have HIe : Hid (IxAt we b pb ob x') := HId.out.ext hbe
                    have d1 := (rowIs_ext (rowIs_ext R1a.out HBd.out) hbe).cell (show u < 32 by omega)
                    have d2 := (rowIs_ext (rowIs_ext R2a.out HBd.out) hbe).cell (show u < 32 by omega)
                    simp only [show u < m by omega, if_true] at d1 d2
                    clear hbe HPl' d1' d2'
                    go_wp2_with fail
                    refine (zzHasOld HIe.out).mono ?_
                    rintro e wf ⟨rfl, rfl⟩
                    rw [hasOld_true HO'.out]
                    have hPo := zzOldPlaceAt HIe.out HO'.out (x.nx + u) (by rw [HOm.out]; omega) hom16
                    rw [HGn.out, Int.natCast_add] at hPo
                    have HPo : Hid (Calls Try.prog 45 #[.pointer (some ⟨b, 0, none⟩), .int .i64 ((x.nx : Int) + (u : Int))] wf fun e w' => e = .returned (.tuple #[.int .u64 (((x.O (x.nx + u)).1 : Nat) : Int), .int .u64 18446744073709551615]) ∧ Below wf.heap.size wf w') := hPo
                    clear hPo
                    go_wp2_with fail
                    refine HPo.out.mono ?_
                    rintro e wg ⟨rfl, hbg⟩
                    have HBg : Hid (Below wb.heap.size wb wg) := HBe.out.trans (hbg.mono HBe.out.size)
                    clear hbg HPo
                    go_wp2
                    go_roundw
                    case rel => exact ⟨u + 1, by omega, congrArg (Value.int .i64) (show (x.nx : Int) + (u : Int) + 1 = (x.nx : Int) + ((u + 1 : Nat) : Int) by omega), HBg⟩
                    case measure => simp [intOf]; omega
                · have hluI : ¬ (x.nx : Int) + (u : Int) < ((x.nx : Int) + (t : Int)) := by omega
                  clear R1u R2u
                  go_wp2_with fail
                  refine (zzHasOld HIu.out).mono ?_
                  rintro e wf ⟨rfl, rfl⟩
                  rw [hasOld_true HO'.out]
                  have HBf : Hid (Below wb.heap.size wb wf) := hBu
                  clear hBu HIu hluI hlu hsubu hu
                  go_wp2_with fail
                  go_loopw [33] (fun v wr => ∃ q : Nat, t ≤ q ∧ q ≤ m ∧ v = .int .i64 ((x.nx : Int) + (q : Int)) ∧ Hid (Below wb.heap.size wb wr)) (fun v _ => m + x.nx - (intOf v).toNat)
                  case atStart => exact ⟨t, Nat.le_refl _, hD, congrArg (Value.int .i64) (by omega), HBf⟩
                  case round =>
                    obtain ⟨q, hq1, hq2, rfl, hBq⟩ := hrel
                    have HIq : Hid (IxAt wr b pb ob x') := HIa.out.ext hBq.out
                    have hsubq : ((x.nx : Int) + (q : Int) - (x.nx : Int)) = (q : Int) := by omega
                    by_cases hlq : q < m
                    · have hlqI : (x.nx : Int) + (q : Int) < (x.om : Int) := by omega
                      have hq32 : (q : Int) < 32 := by omega
                      have hPo := zzOldPlaceAt HIq.out HO'.out (x.nx + q) (by rw [HOm.out]; omega) hom16
                      rw [HOO.out, if_neg (by rw [HNx.out]; omega), Int.natCast_add] at hPo
                      have HPo : Hid (Calls Try.prog 45 #[.pointer (some ⟨b, 0, none⟩), .int .i64 ((x.nx : Int) + (q : Int))] wr fun e w' => e = .returned (.tuple #[.int .u64 (((x.O (x.nx + q)).1 : Nat) : Int), .int .u64 (((x.O (x.nx + q)).2 : Nat) : Int)]) ∧ Below wr.heap.size wr w') := hPo
                      clear hPo
                      go_wp2_with fail
                      refine HPo.out.mono ?_
                      rintro e wg ⟨rfl, hbg⟩
                      have HBg : Hid (Below wb.heap.size wb wg) := hBq.out.trans (hbg.mono hBq.out.size)
                      have d1 := (rowIs_ext R1a.out HBg.out).cell (show q < 32 by omega)
                      have d2 := (rowIs_ext R2a.out HBg.out).cell (show q < 32 by omega)
                      simp only [hlq, if_true] at d1 d2
                      clear hbg HPo
                      generalize (x.O (x.nx + q)).1 = qh at *
                      generalize (x.O (x.nx + q)).2 = ql at *
                      go_wp2
                      go_roundw
                      case rel => exact ⟨q + 1, by omega, by omega, congrArg (Value.int .i64) (show (x.nx : Int) + (q : Int) + 1 = (x.nx : Int) + ((q + 1 : Nat) : Int) by omega), HBg⟩
                      case measure => simp [intOf]; omega
                    · have hlqI : ¬ (x.nx : Int) + (q : Int) < (x.om : Int) := by omega
                      go_wp2
                      go_ret
                      exact ⟨rfl, HBa.out.trans (hBq.out.mono HBa0.out), x', HGa.out.ext hBq.out⟩
          · have h4b : ((cnt (winB x) t : Int) == 4) = false := by rw [beq_eq_false_iff_ne]; omega
            have HQ : Hid (∀ j, j < t + 1 → cnt (winB x) j < 4) := fun j hj => by
              by_cases e : j = t
              · subst e; omega
              · exact hq.out j (by omega)
            clear h4 hq
            go_wp2
            go_round
            case rel => exact ⟨t + 1, by omega, congrArg (Value.int .i64) (show (x.nx : Int) + (t : Int) + 1 = (x.nx : Int) + ((t + 1 : Nat) : Int) by omega), rfl, HQ⟩
            case measure => simp [intOf]; omega
        · have hte : t = m := by omega
          have HEI : Hid (EIs x x.om (x.nx + t)) := ⟨by omega, by omega, fun j hj => hq.out j (by omega), .inl (by omega)⟩
          have hD : t ≤ m := ht
          have hge2 : ¬ (x.nx : Int) + (t : Int) < (x.om : Int) := by omega
          have hmt : m ≤ t := by omega
          clear hq ht hlt hte
          go_wp2_with fail
          have hsubD : ((x.om : Int) - (x.nx : Int)) = (t : Int) := by omega
          have HCM := countLive_any (n0 + 1) _ t 61 wq R2.out (by omega)
          rw [win_cnt hD] at HCM
          have HCM' : Hid (Calls Try.prog 47 #[.slice (some ⟨n0 + 1, 0, none⟩) 32 32, .int .i64 0, .int .i64 (t : Int)] wq fun e w' => e = .returned (.int .i64 ((cnt (winB x) t : Nat) : Int)) ∧ w' = wq) := HCM
          clear HCM
          try rw [hsubD]
          refine HCM'.out.mono ?_
          rintro e w9 ⟨rfl, rfl⟩
          clear HCM'
          have hbl := HIr.out.lt
          have hpl := HIr.out.tab.lt
          have hol := (HIr.out.old H0.out).lt
          have hw5 := HI.out.lt
          have hw5p := HI.out.tab.lt
          have hw5o := (HI.out.old H0.out).lt
          rw [HN0.out] at hw5 hw5p hw5o
          have HST := zzStep_of (R := fun w' => Fr [b, pb, ob] w9 w' ∧ ∃ x', StepPost x x' (lastM hs locs noDel k) (cnt (firstB hs) k) ∧ IxAt w' b pb ob x') (step_old HIr.out H0.out HG.out.core (HG.out.load.room HG.out.core (by omega)))
          have HST' : Hid (Calls Try.prog 40 #[.pointer (some ⟨b, 0, none⟩)] w9 fun e w' => e = .returned (.tuple #[]) ∧ (Fr [b, pb, ob] w9 w' ∧ ∃ x', StepPost x x' (lastM hs locs noDel k) (cnt (firstB hs) k) ∧ IxAt w' b pb ob x')) := HST
          clear HST
          go_wp2_with fail
          refine HST'.out.mono ?_
          rintro e wa ⟨rfl, hFa, x', hSP, hIa⟩
          clear HST'
          obtain ⟨hE', hN', hOld', hNil'⟩ := hSP.eis hen1 hen2 (by first | exact .inl rfl | exact .inr rfl)
          have hnx' : x'.nx = x.nx + t := hE'.unique HEI.out
          rw [hnx', Nat.add_sub_cancel_left] at hN'
          have hsz' := hSP.sz
          have R1a : Hid (wa.rowIs n0 61 32 (fun i => .int .u64 ((if i < m then (x.O (x.nx + i)).1 else 0 : Nat) : Int))) := R1.out.of_block (hFa.block _ R1.out.lt (by simp; omega))
          have R2a : Hid (wa.rowIs (n0 + 1) 61 32 (fun i => .int .u64 ((if i < m then (x.O (x.nx + i)).2 else 0 : Nat) : Int))) := R2.out.of_block (hFa.block _ R2.out.lt (by simp; omega))
          have hBs5 : B ≤ n0 := HBs.out
          have HBa : Hid (Below B w5 wa) := (hB.out.mono hBs5).trans (hFa.below (fun z hz => by
            simp at hz
            rcases hz with rfl | rfl | rfl
            · exact HB1.out
            · exact HB2.out
            · exact HB3.out) (by have h1 := hB.out.size; rw [HN0.out] at h1; omega))
          have HGa : Hid (GO hs locs B b k x' wa) := ⟨⟨pb, ob, HB1.out, HB2.out, fun _ => HB3.out, hIa⟩, hSP.core H0.out, hSP.load HG.out.core H0.out HG.out.load (by omega)⟩
          have HIa : Hid (IxAt wa b pb ob x') := hIa
          have HSP : Hid (StepPost x x' (lastM hs locs noDel k) (cnt (firstB hs) k)) := hSP
          have HOld : Hid (x'.om ≠ 0 → x'.om = x.om ∧ x'.nx ≠ x.om ∧ ∀ q, x'.O q = if x.nx ≤ q ∧ q < x'.nx ∧ liveB x.O q = true then ((x.O q).1, gone) else x.O q) := hOld'
          have HNil : Hid (x'.om = 0 → x.om ≠ 0 → x'.nx = x.om) := hNil'
          have HNx : Hid (x'.nx = x.nx + t) := hnx'
          have hBa0 : B ≤ wa.heap.size := Nat.le_trans HBs.out (by have := HBa.out.size; rw [HN0.out] at this; exact this)
          have HBa0 : Hid (B ≤ wa.heap.size) := hBa0
          have hnxI : ((x'.nx : Int) != (x.om : Int)) = false := by rw [bne_eq_false_iff_eq]; omega
          have hlenI : ((x'.sz : Int) != (x.sz : Int)) = false := by rw [hsz']; simp
          have hnI : ((x'.n : Int) != (x.n : Int) + ((cnt (winB x) t : Nat) : Int)) = false := by rw [bne_eq_false_iff_eq]; omega
          have hcw := cnt_le (winB x) t
          clear hFa hSP hIa hE' hN' hOld' hNil' hsz' R1 R2 hBa0 hnx' hbl hpl hol hw5 hw5p hw5o HEI HIr hB
          go_wp2_with fail
          refine (zzNext HIa.out).mono ?_
          rintro e wb ⟨rfl, rfl⟩
          go_wp2_with fail
          refine (zzHasOld HIa.out).mono ?_
          rintro e wb ⟨rfl, rfl⟩
          by_cases ho : x'.om = 0
          · have hdone : x'.nx = x.om := HNil.out ho H0.out
            have hne : ((x.om : Int) != (x.om : Int)) = false := by first | (simp; done) | (rw [bne_eq_false_iff_eq]; have := HNx.out; omega)
            rw [hasOld_false ho]
            have HO' : Hid (x'.om = 0) := ho
            clear ho hdone
            go_wp2_with fail
            refine (zzLen HIa.out).mono ?_
            rintro e wb ⟨rfl, rfl⟩
            go_wp2_with fail
            refine (zzN HIa.out).mono ?_
            rintro e wb ⟨rfl, rfl⟩
            have hsz16 : x'.sz ≤ 16384 := by have := HGa.out.core.sz_le; omega
            have hom16 : x'.om ≤ 16384 := by have := HGa.out.core.om_le; omega
            have HShape : Hid (Shape x') := HGa.out.shape
            go_wp2_with fail
            clear hnxI hlenI hnI hcw hne
            go_loopw [26] (fun v wr => ∃ u : Nat, u ≤ t ∧ v = .int .i64 ((x.nx : Int) + (u : Int)) ∧ Hid (Below wb.heap.size wb wr)) (fun v _ => t + x.nx - (intOf v).toNat)
            case atStart => exact ⟨0, Nat.zero_le _, by simp, Below.refl _ _⟩
            case round =>
              obtain ⟨u, hu, rfl, hBu⟩ := hrel
              have HIu : Hid (IxAt wr b pb ob x') := HIa.out.ext hBu.out
              have R1u : Hid (wr.rowIs n0 61 32 (fun i => .int .u64 ((if i < m then (x.O (x.nx + i)).1 else 0 : Nat) : Int))) := rowIs_ext R1a.out hBu.out
              have R2u : Hid (wr.rowIs (n0 + 1) 61 32 (fun i => .int .u64 ((if i < m then (x.O (x.nx + i)).2 else 0 : Nat) : Int))) := rowIs_ext R2a.out hBu.out
              have hsubu : ((x.nx : Int) + (u : Int) - (x.nx : Int)) = (u : Int) := by omega
              by_cases hlu : u < t
              · have hluI : (x.nx : Int) + (u : Int) < (x.om : Int) := by omega
                have hu32 : (u : Int) < 32 := by omega
                have d1 := R1u.out.cell (show u < 32 by omega)
                have d2 := R2u.out.cell (show u < 32 by omega)
                simp only [show u < m by omega, if_true] at d1 d2
                have HMoved : Hid (liveB x.O (x.nx + u) = true → ∀ r, IsProbe (stopF x'.P (x.O (x.nx + u)).1) x'.sz ((x.O (x.nx + u)).1 % x'.sz) r → (x'.P r).2 = (x.O (x.nx + u)).2 ∧ (x'.P r).2 ≠ 0) :=
                  fun hl r hr => HSP.out.moved HG.out.core H0.out (by omega) (by rw [HNx.out]; omega) hl hr
                have hwu : wr.heap.size = wr.heap.size := rfl
                go_wp2_with fail
                refine (live_any _ _).mono ?_
                rintro e wc ⟨rfl, rfl⟩
                cases hlv : liveN (x.O (x.nx + u)).2 with
                | false =>
                  clear hlv HMoved
                  go_wp2
                  go_roundw
                  case rel => exact ⟨u + 1, by omega, congrArg (Value.int .i64) (show (x.nx : Int) + (u : Int) + 1 = (x.nx : Int) + ((u + 1 : Nat) : Int) by omega), hBu⟩
                  case measure => simp [intOf]; omega
                | true =>
                  have HMv : Hid (∀ r, IsProbe (stopF x'.P (x.O (x.nx + u)).1) x'.sz ((x.O (x.nx + u)).1 % x'.sz) r → (x'.P r).2 = (x.O (x.nx + u)).2 ∧ (x'.P r).2 ≠ 0) := HMoved.out hlv
                  clear HMoved hlv
                  go_wp2_with fail
                  refine (zzFind HIu.out _ HShape.out.pw hsz16 HShape.out.free).mono ?_
                  rintro e wd ⟨hbd, r, hr, rfl⟩
                  obtain ⟨hv1, hv2⟩ := HMv.out r hr
                  have hrl := hr.lt
                  have e1 : findV x'.P r = .tuple #[.int .i64 (r : Int), .bool true] := by simp [findV, hv2]
                  rw [e1]
                  have HBd : Hid (Below wb.heap.size wb wd) := hBu.out.trans (hbd.mono hBu.out.size)
                  have HId : Hid (IxAt wd b pb ob x') := HIu.out.ext hbd
                  have d1' := (rowIs_ext R1u.out hbd).cell (show u < 32 by omega)
                  have d2' := (rowIs_ext R2u.out hbd).cell (show u < 32 by omega)
                  simp only [show u < m by omega, if_true] at d1' d2'
                  have HPl := zzPlaceAt HId.out r hrl hsz16
                  rw [hv1] at HPl
                  have HPl' : Hid (Calls Try.prog 27 #[.pointer (some ⟨b, 0, none⟩), .int .i64 (r : Int)] wd fun e w' => e = .returned (.tuple #[.int .u64 (((x'.P r).1 : Nat) : Int), .int .u64 (((x.O (x.nx + u)).2 : Nat) : Int)]) ∧ Below wd.heap.size wd w') := HPl
                  clear e1 hr hbd hv1 hv2 HPl d1 d2 HMv
                  go_wp2_with fail
                  refine HPl'.out.mono ?_
                  rintro e we ⟨rfl, hbe⟩
                  have HBe : Hid (Below wb.heap.size wb we) := HBd.out.trans (hbe.mono HBd.out.size)
                  have HIe : Hid (IxAt we b pb ob x') := HId.out.ext hbe
                  have d1 := (rowIs_ext (rowIs_ext R1a.out HBd.out) hbe).cell (show u < 32 by omega)
                  have d2 := (rowIs_ext (rowIs_ext R2a.out HBd.out) hbe).cell (show u < 32 by omega)
                  simp only [show u < m by omega, if_true] at d1 d2
                  clear hbe HPl' d1' d2'
                  go_wp2_with fail
                  refine (zzHasOld HIe.out).mono ?_
                  rintro e wf ⟨rfl, rfl⟩
                  rw [hasOld_false HO'.out]
                  go_wp2
                  go_roundw
                  case rel => exact ⟨u + 1, by omega, congrArg (Value.int .i64) (show (x.nx : Int) + (u : Int) + 1 = (x.nx : Int) + ((u + 1 : Nat) : Int) by omega), HBe⟩
                  case measure => simp [intOf]; omega
              · have hluI : ¬ (x.nx : Int) + (u : Int) < (x.om : Int) := by omega
                clear R1u R2u
                go_wp2_with fail
                refine (zzHasOld HIu.out).mono ?_
                rintro e wf ⟨rfl, rfl⟩
                rw [hasOld_false HO'.out]
                go_wp2
                go_ret
                exact ⟨rfl, HBa.out.trans (hBu.out.mono HBa0.out), x', HGa.out.ext hBu.out⟩
          · exfalso
            have h1 := (HOld.out ho).2.1
            have h2 := HNx.out
            omega

set_option maxRecDepth 100000 in
set_option maxHeartbeats 16000000 in
theorem cs_old_b {B : Nat} {w : World} {b : Nat} {hs locs : Nat → Nat} {k : Nat} {x : Ix} (h : GO hs locs B b k x w) (h0 : x.om ≠ 0) (hBs : B ≤ w.heap.size) (hgt : ¬ (x.om : Int) < (x.nx : Int) + 32) :
    Calls Try.prog 38 #[.pointer (some ⟨b, 0, none⟩)] w fun e w' => e = .returned (.bool true) ∧ Below B w w' ∧ ∃ x', GO hs locs B b k x' w' := by
  obtain ⟨pb, ob, hb1, hb2, hb3, hI⟩ := h.ix
  have hom : x.om ≤ 16384 := by have := h.core.om_le; omega
  have hnx := (h.core.old h0).nx
  have hn4 := h.core.n_le
  have hc4 := h.core.cle
  have HI : Hid (IxAt w b pb ob x) := hI
  have H0 : Hid (x.om ≠ 0) := h0
  have HG : Hid (GO hs locs B b k x w) := h
  have HBs : Hid (B ≤ w.heap.size) := hBs
  have HB1 : Hid (B ≤ b) := hb1
  have HB2 : Hid (B ≤ pb) := hb2
  have HB3 : Hid (B ≤ ob) := hb3 h0
  clear h hI h0 hBs hb1 hb2 hb3
  go_enter Try.func38, Try.ntmps38
  go_wp2_with fail
  refine (zzLen HI.out).mono ?_
  rintro e w1 ⟨rfl, rfl⟩
  go_wp2_with fail
  refine (zzHasOld HI.out).mono ?_
  rintro e w2 ⟨rfl, rfl⟩
  rw [hasOld_true H0.out]
  go_wp2_with fail
  refine (zzNext HI.out).mono ?_
  rintro e w3 ⟨rfl, rfl⟩
  go_wp2_with fail
  refine (zzOldLen HI.out).mono ?_
  rintro e w4 ⟨rfl, rfl⟩
  go_wp2_with fail
  refine (zzN HI.out).mono ?_
  rintro e w5 ⟨rfl, rfl⟩
  go_wp2_with fail
  have hen1 : (x.nx + 32) ≤ x.nx + 32 := by omega
  have hen2 : (x.nx + 32) ≤ x.om := by omega
  have hen0 : x.nx ≤ (x.nx + 32) := by omega
  obtain ⟨m, hm⟩ : ∃ m, m + x.nx = (x.nx + 32) := ⟨(x.nx + 32) - x.nx, by omega⟩
  have hm32 : m ≤ 32 := by omega
  obtain ⟨hz1, hz2⟩ := rowIs_z32 w5
  have HR1 : Hid (((w5.alloc (.cells #[.int .u64 0, .int .u64 0, .int .u64 0, .int .u64 0, .int .u64 0, .int .u64 0, .int .u64 0, .int .u64 0, .int .u64 0, .int .u64 0, .int .u64 0, .int .u64 0, .int .u64 0, .int .u64 0, .int .u64 0, .int .u64 0, .int .u64 0, .int .u64 0, .int .u64 0, .int .u64 0, .int .u64 0, .int .u64 0, .int .u64 0, .int .u64 0, .int .u64 0, .int .u64 0, .int .u64 0, .int .u64 0, .int .u64 0, .int .u64 0, .int .u64 0, .int .u64 0] 61)).alloc (.cells #[.int .u64 0, .int .u64 0, .int .u64 0, .int .u64 0, .int .u64 0, .int .u64 0, .int .u64 0, .int .u64 0, .int .u64 0, .int .u64 0, .int .u64 0, .int .u64 0, .int .u64 0, .int .u64 0, .int .u64 0, .int .u64 0, .int .u64 0, .int .u64 0, .int .u64 0, .int .u64 0, .int .u64 0, .int .u64 0, .int .u64 0, .int .u64 0, .int .u64 0, .int .u64 0, .int .u64 0, .int .u64 0, .int .u64 0, .int .u64 0, .int .u64 0, .int .u64 0] 61)).rowIs w5.heap.size 61 32 (fun _ => .int .u64 0)) := hz1
  have HR2 : Hid (((w5.alloc (.cells #[.int .u64 0, .int .u64 0, .int .u64 0, .int .u64 0, .int .u64 0, .int .u64 0, .int .u64 0, .int .u64 0, .int .u64 0, .int .u64 0, .int .u64 0, .int .u64 0, .int .u64 0, .int .u64 0, .int .u64 0, .int .u64 0, .int .u64 0, .int .u64 0, .int .u64 0, .int .u64 0, .int .u64 0, .int .u64 0, .int .u64 0, .int .u64 0, .int .u64 0, .int .u64 0, .int .u64 0, .int .u64 0, .int .u64 0, .int .u64 0, .int .u64 0, .int .u64 0] 61)).alloc (.cells #[.int .u64 0, .int .u64 0, .int .u64 0, .int .u64 0, .int .u64 0, .int .u64 0, .int .u64 0, .int .u64 0, .int .u64 0, .int .u64 0, .int .u64 0, .int .u64 0, .int .u64 0, .int .u64 0, .int .u64 0, .int .u64 0, .int .u64 0, .int .u64 0, .int .u64 0, .int .u64 0, .int .u64 0, .int .u64 0, .int .u64 0, .int .u64 0, .int .u64 0, .int .u64 0, .int .u64 0, .int .u64 0, .int .u64 0, .int .u64 0, .int .u64 0, .int .u64 0] 61)).rowIs (w5.heap.size + 1) 61 32 (fun _ => .int .u64 0)) := hz2
  have HB0 : Hid (Below w5.heap.size w5 ((w5.alloc (.cells #[.int .u64 0, .int .u64 0, .int .u64 0, .int .u64 0, .int .u64 0, .int .u64 0, .int .u64 0, .int .u64 0, .int .u64 0, .int .u64 0, .int .u64 0, .int .u64 0, .int .u64 0, .int .u64 0, .int .u64 0, .int .u64 0, .int .u64 0, .int .u64 0, .int .u64 0, .int .u64 0, .int .u64 0, .int .u64 0, .int .u64 0, .int .u64 0, .int .u64 0, .int .u64 0, .int .u64 0, .int .u64 0, .int .u64 0, .int .u64 0, .int .u64 0, .int .u64 0] 61)).alloc (.cells #[.int .u64 0, .int .u64 0, .int .u64 0, .int .u64 0, .int .u64 0, .int .u64 0, .int .u64 0, .int .u64 0, .int .u64 0, .int .u64 0, .int .u64 0, .int .u64 0, .int .u64 0, .int .u64 0, .int .u64 0, .int .u64 0, .int .u64 0, .int .u64 0, .int .u64 0, .int .u64 0, .int .u64 0, .int .u64 0, .int .u64 0, .int .u64 0, .int .u64 0, .int .u64 0, .int .u64 0, .int .u64 0, .int .u64 0, .int .u64 0, .int .u64 0, .int .u64 0] 61))) := ((Below.refl _ _).alloc (Nat.le_refl _) _).alloc (by simp) _
  clear hz1 hz2
  generalize hn0 : w5.heap.size = n0 at *
  have HN0 : Hid (w5.heap.size = n0) := hn0
  clear hn0
  generalize (w5.alloc (.cells #[.int .u64 0, .int .u64 0, .int .u64 0, .int .u64 0, .int .u64 0, .int .u64 0, .int .u64 0, .int .u64 0, .int .u64 0, .int .u64 0, .int .u64 0, .int .u64 0, .int .u64 0, .int .u64 0, .int .u64 0, .int .u64 0, .int .u64 0, .int .u64 0, .int .u64 0, .int .u64 0, .int .u64 0, .int .u64 0, .int .u64 0, .int .u64 0, .int .u64 0, .int .u64 0, .int .u64 0, .int .u64 0, .int .u64 0, .int .u64 0, .int .u64 0, .int .u64 0] 61)).alloc (.cells #[.int .u64 0, .int .u64 0, .int .u64 0, .int .u64 0, .int .u64 0, .int .u64 0, .int .u64 0, .int .u64 0, .int .u64 0, .int .u64 0, .int .u64 0, .int .u64 0, .int .u64 0, .int .u64 0, .int .u64 0, .int .u64 0, .int .u64 0, .int .u64 0, .int .u64 0, .int .u64 0, .int .u64 0, .int .u64 0, .int .u64 0, .int .u64 0, .int .u64 0, .int .u64 0, .int .u64 0, .int .u64 0, .int .u64 0, .int .u64 0, .int .u64 0, .int .u64 0] 61) = w6 at *
  go_loopw [20] (fun v wr => ∃ t : Nat, t ≤ m ∧ v = .int .i64 ((x.nx : Int) + (t : Int)) ∧ Hid (Below n0 w5 wr) ∧ Hid (wr.rowIs n0 61 32 (fun i => if i < t then .int .u64 (((x.O (x.nx + i)).1 : Nat) : Int) else .int .u64 0)) ∧ Hid (wr.rowIs (n0 + 1) 61 32 (fun i => if i < t then .int .u64 (((x.O (x.nx + i)).2 : Nat) : Int) else .int .u64 0))) (fun v _ => m + x.nx - (intOf v).toNat)
  case atStart => exact ⟨0, Nat.zero_le _, by simp, HB0, HR1.out.congr (fun i _ => by simp), HR2.out.congr (fun i _ => by simp)⟩
  case round =>
    obtain ⟨t, ht, rfl, hB, hr1, hr2⟩ := hrel
    clear HR1 HR2 HB0
    have HIr : Hid (IxAt wr b pb ob x) := HI.out.ext (by rw [HN0.out]; exact hB.out)
    by_cases hlt : t < m
    · have hltI : (x.nx : Int) + (t : Int) < ((x.nx : Int) + 32) := by omega
      have ht32 : (t : Int) < 32 := by omega
      have hP := zzOldPlaceAt HIr.out H0.out (x.nx + t) (by omega) hom
      rw [Int.natCast_add] at hP
      have HP : Hid (Calls Try.prog 45 #[.pointer (some ⟨b, 0, none⟩), .int .i64 ((x.nx : Int) + (t : Int))] wr fun e w' => e = .returned (.tuple #[.int .u64 (((x.O (x.nx + t)).1 : Nat) : Int), .int .u64 (((x.O (x.nx + t)).2 : Nat) : Int)]) ∧ Below wr.heap.size wr w') := hP
      clear hP
      go_wp2_with fail
      refine HP.out.mono ?_
      rintro e w7 ⟨rfl, hb7⟩
      clear HP
      have HB7 : Hid (Below n0 w5 w7) := hB.out.trans (hb7.mono (by have := hB.out.size; rw [HN0.out] at this; exact this))
      have q1 := rowIs_ext hr1.out hb7
      have q2 := rowIs_ext hr2.out hb7
      have Q1 : Hid (((w7.setCell ⟨n0, t, none⟩ (.int .u64 (((x.O (x.nx + t)).1 : Nat) : Int))).setCell ⟨n0 + 1, t, none⟩ (.int .u64 (((x.O (x.nx + t)).2 : Nat) : Int))).rowIs n0 61 32 (fun i => if i < t + 1 then .int .u64 (((x.O (x.nx + i)).1 : Nat) : Int) else .int .u64 0)) :=
        (rowIs_fill (f := fun i => (x.O (x.nx + i)).1) q1).setOther (by show n0 ≠ n0 + 1; omega) _
      have Q2 : Hid (((w7.setCell ⟨n0, t, none⟩ (.int .u64 (((x.O (x.nx + t)).1 : Nat) : Int))).setCell ⟨n0 + 1, t, none⟩ (.int .u64 (((x.O (x.nx + t)).2 : Nat) : Int))).rowIs (n0 + 1) 61 32 (fun i => if i < t + 1 then .int .u64 (((x.O (x.nx + i)).2 : Nat) : Int) else .int .u64 0)) :=
        rowIs_fill (f := fun i => (x.O (x.nx + i)).2) (q2.setOther (by show n0 + 1 ≠ n0; omega) _)
      have QB : Hid (Below n0 w5 ((w7.setCell ⟨n0, t, none⟩ (.int .u64 (((x.O (x.nx + t)).1 : Nat) : Int))).setCell ⟨n0 + 1, t, none⟩ (.int .u64 (((x.O (x.nx + t)).2 : Nat) : Int)))) :=
        (HB7.out.setCell (Nat.le_refl _) _).setCell (Nat.le_succ _) _
      have d1 := q1.cell (show t < 32 by omega)
      have d2 := q2.cell (show t < 32 by omega)
      have z1 := q1.frozen t
      have z2 := q2.frozen t
      simp only [Nat.lt_irrefl, if_false] at d1 d2
      clear q1 q2 hb7 hr1 hr2 hB
      generalize (x.O (x.nx + t)).1 = ph at *
      generalize (x.O (x.nx + t)).2 = pl at *
      go_wp2
      go_roundw
      case rel => exact ⟨t + 1, by omega, congrArg (Value.int .i64) (show (x.nx : Int) + (t : Int) + 1 = (x.nx : Int) + ((t + 1 : Nat) : Int) by omega), QB, Q1, Q2⟩
      case measure => simp [intOf]; omega
    · have hte : t = m := by omega
      subst hte
      have R1 : Hid (wr.rowIs n0 61 32 (fun i => .int .u64 ((if i < t then (x.O (x.nx + i)).1 else 0 : Nat) : Int))) := hr1.out.congr (fun i hi => by split <;> rfl)
      have R2 : Hid (wr.rowIs (n0 + 1) 61 32 (fun i => .int .u64 ((if i < t then (x.O (x.nx + i)).2 else 0 : Nat) : Int))) := hr2.out.congr (fun i hi => by split <;> rfl)
      have hge : ¬ (x.nx : Int) + (t : Int) < ((x.nx : Int) + 32) := by omega
      clear hr1 hr2
      obtain ⟨wq, hwq⟩ : ∃ wq, wq = wr := ⟨_, rfl⟩
      subst hwq
      obtain ⟨m, hmt⟩ : ∃ m, m = t := ⟨_, rfl⟩
      subst hmt
      go_wp2_with fail
      go_loop [23, 24] (fun ev v => ∃ t : Nat, t ≤ m ∧ v = .int .i64 ((x.nx : Int) + (t : Int)) ∧ ev = .int .i64 ((x.nx : Int) + 32) ∧ Hid (∀ j, j < t → cnt (winB x) j < 4)) (fun _ v => m + x.nx - (intOf v).toNat)
      case atStart => exact ⟨0, Nat.zero_le _, by simp, rfl, fun j hj => by omega⟩
      case round =>
        obtain ⟨t, ht, rfl, rfl, hq⟩ := hrel
        by_cases hlt : t < m
        · have hltI : (x.nx : Int) + (t : Int) < ((x.nx : Int) + 32) := by omega
          have hsub : ((x.nx : Int) + (t : Int) - (x.nx : Int)) = (t : Int) := by omega
          have HCL := countLive_any (n0 + 1) _ t 61 wq R2.out (by omega)
          rw [win_cnt ht] at HCL
          have HCL' : Hid (Calls Try.prog 47 #[.slice (some ⟨n0 + 1, 0, none⟩) 32 32, .int .i64 0, .int .i64 (t : Int)] wq fun e w' => e = .returned (.int .i64 ((cnt (winB x) t : Nat) : Int)) ∧ w' = wq) := HCL
          clear HCL
          have hc4' : cnt (winB x) t ≤ 4 := by
            cases t with
            | zero => exact Nat.zero_le _
            | succ t => have h1 := hq.out t (by omega); have h2 := cnt_succ_le (winB x) t; omega
          go_wp2_with fail
          refine HCL'.out.mono ?_
          rintro e w8 ⟨rfl, rfl⟩
          clear HCL'
          by_cases h4 : cnt (winB x) t = 4
          · have h4b : ((cnt (winB x) t : Int) == 4) = true := by rw [h4]; rfl
            have HEI : Hid (EIs x (x.nx + 32) (x.nx + t)) := ⟨by omega, by omega, fun j hj => hq.out j (by omega), .inr (by rw [Nat.add_sub_cancel_left]; exact h4)⟩
            have hD : t ≤ m := ht
            clear h4 hlt hltI hc4' hq ht
            go_wp2_with fail
            have hsubD : (((x.nx : Int) + (t : Int)) - (x.nx : Int)) = (t : Int) := by omega
            have HCM := countLive_any (n0 + 1) _ t 61 w8 R2.out (by omega)
            rw [win_cnt hD] at HCM
            have HCM' : Hid (Calls Try.prog 47 #[.slice (some ⟨n0 + 1, 0, none⟩) 32 32, .int .i64 0, .int .i64 (t : Int)] w8 fun e w' => e = .returned (.int .i64 ((cnt (winB x) t : Nat) : Int)) ∧ w' = w8) := HCM
            clear HCM
            try rw [hsubD]
            refine HCM'.out.mono ?_
            rintro e w9 ⟨rfl, rfl⟩
            clear HCM'
            have hbl := HIr.out.lt
            have hpl := HIr.out.tab.lt
            have hol := (HIr.out.old H0.out).lt
            have hw5 := HI.out.lt
            have hw5p := HI.out.tab.lt
            have hw5o := (HI.out.old H0.out).lt
            rw [HN0.out] at hw5 hw5p hw5o
            have HST := zzStep_of (R := fun w' => Fr [b, pb, ob] w9 w' ∧ ∃ x', StepPost x x' (lastM hs locs noDel k) (cnt (firstB hs) k) ∧ IxAt w' b pb ob x') (step_old HIr.out H0.out HG.out.core (HG.out.load.room HG.out.core (by omega)))
            have HST' : Hid (Calls Try.prog 40 #[.pointer (some ⟨b, 0, none⟩)] w9 fun e w' => e = .returned (.tuple #[]) ∧ (Fr [b, pb, ob] w9 w' ∧ ∃ x', StepPost x x' (lastM hs locs noDel k) (cnt (firstB hs) k) ∧ IxAt w' b pb ob x')) := HST
            clear HST
            go_wp2_with fail
            refine HST'.out.mono ?_
            rintro e wa ⟨rfl, hFa, x', hSP, hIa⟩
            clear HST'
            obtain ⟨hE', hN', hOld', hNil'⟩ := hSP.eis hen1 hen2 (by first | exact .inl rfl | exact .inr rfl)
            have hnx' : x'.nx = x.nx + t := hE'.unique HEI.out
            rw [hnx', Nat.add_sub_cancel_left] at hN'
            have hsz' := hSP.sz
            have R1a : Hid (wa.rowIs n0 61 32 (fun i => .int .u64 ((if i < m then (x.O (x.nx + i)).1 else 0 : Nat) : Int))) := R1.out.of_block (hFa.block _ R1.out.lt (by simp; omega))
            have R2a : Hid (wa.rowIs (n0 + 1) 61 32 (fun i => .int .u64 ((if i < m then (x.O (x.nx + i)).2 else 0 : Nat) : Int))) := R2.out.of_block (hFa.block _ R2.out.lt (by simp; omega))
            have hBs5 : B ≤ n0 := HBs.out
            have HBa : Hid (Below B w5 wa) := (hB.out.mono hBs5).trans (hFa.below (fun z hz => by
              simp at hz
              rcases hz with rfl | rfl | rfl
              · exact HB1.out
              · exact HB2.out
              · exact HB3.out) (by have h1 := hB.out.size; rw [HN0.out] at h1; omega))
            have HGa : Hid (GO hs locs B b k x' wa) := ⟨⟨pb, ob, HB1.out, HB2.out, fun _ => HB3.out, hIa⟩, hSP.core H0.out, hSP.load HG.out.core H0.out HG.out.load (by omega)⟩
            have HIa : Hid (IxAt wa b pb ob x') := hIa
            have HSP : Hid (StepPost x x' (lastM hs locs noDel k) (cnt (firstB hs) k)) := hSP
            have HOld : Hid (x'.om ≠ 0 → x'.om = x.om ∧ x'.nx ≠ x.om ∧ ∀ q, x'.O q = if x.nx ≤ q ∧ q < x'.nx ∧ liveB x.O q = true then ((x.O q).1, gone) else x.O q) := hOld'
            have HNil : Hid (x'.om = 0 → x.om ≠ 0 → x'.nx = x.om) := hNil'
            have HNx : Hid (x'.nx = x.nx + t) := hnx'
            have hBa0 : B ≤ wa.heap.size := Nat.le_trans HBs.out (by have := HBa.out.size; rw [HN0.out] at this; exact this)
            have HBa0 : Hid (B ≤ wa.heap.size) := hBa0
            have hnxI : ((x'.nx : Int) != ((x.nx : Int) + (t : Int))) = false := by rw [bne_eq_false_iff_eq]; omega
            have hlenI : ((x'.sz : Int) != (x.sz : Int)) = false := by rw [hsz']; simp
            have hnI : ((x'.n : Int) != (x.n : Int) + ((cnt (winB x) t : Nat) : Int)) = false := by rw [bne_eq_false_iff_eq]; omega
            have hcw := cnt_le (winB x) t
            clear hFa hSP hIa hE' hN' hOld' hNil' hsz' R1 R2 hBa0 hnx' hbl hpl hol hw5 hw5p hw5o HEI HIr hB
            go_wp2_with fail
            refine (zzNext HIa.out).mono ?_
            rintro e wb ⟨rfl, rfl⟩
            go_wp2_with fail
            refine (zzHasOld HIa.out).mono ?_
            rintro e wb ⟨rfl, rfl⟩
            by_cases ho : x'.om = 0
            · have hdone : x'.nx = x.om := HNil.out ho H0.out
              have hne : (((x.nx : Int) + (t : Int)) != (x.om : Int)) = false := by first | (simp; done) | (rw [bne_eq_false_iff_eq]; have := HNx.out; omega)
              rw [hasOld_false ho]
              have HO' : Hid (x'.om = 0) := ho
              clear ho hdone
              go_wp2_with fail
              refine (zzLen HIa.out).mono ?_
              rintro e wb ⟨rfl, rfl⟩
              go_wp2_with fail
              refine (zzN HIa.out).mono ?_
              rintro e wb ⟨rfl, rfl⟩
              have hsz16 : x'.sz ≤ 16384 := by have := HGa.out.core.sz_le; omega
              have hom16 : x'.om ≤ 16384 := by have := HGa.out.core.om_le; omega
              have HShape : Hid (Shape x') := HGa.out.shape
              go_wp2_with fail
              clear hnxI hlenI hnI hcw hne
              go_loopw [26] (fun v wr => ∃ u : Nat, u ≤ t ∧ v = .int .i64 ((x.nx : Int) + (u : Int)) ∧ Hid (Below wb.heap.size wb wr)) (fun v _ => t + x.nx - (intOf v).toNat)
              case atStart => exact ⟨0, Nat.zero_le _, by simp, Below.refl _ _⟩
              case round =>
                obtain ⟨u, hu, rfl, hBu⟩ := hrel
                have HIu : Hid (IxAt wr b pb ob x') := HIa.out.ext hBu.out
                have R1u : Hid (wr.rowIs n0 61 32 (fun i => .int .u64 ((if i < m then (x.O (x.nx + i)).1 else 0 : Nat) : Int))) := rowIs_ext R1a.out hBu.out
                have R2u : Hid (wr.rowIs (n0 + 1) 61 32 (fun i => .int .u64 ((if i < m then (x.O (x.nx + i)).2 else 0 : Nat) : Int))) := rowIs_ext R2a.out hBu.out
                have hsubu : ((x.nx : Int) + (u : Int) - (x.nx : Int)) = (u : Int) := by omega
                by_cases hlu : u < t
                · have hluI : (x.nx : Int) + (u : Int) < ((x.nx : Int) + (t : Int)) := by omega
                  have hu32 : (u : Int) < 32 := by omega
                  have d1 := R1u.out.cell (show u < 32 by omega)
                  have d2 := R2u.out.cell (show u < 32 by omega)
                  simp only [show u < m by omega, if_true] at d1 d2
                  have HMoved : Hid (liveB x.O (x.nx + u) = true → ∀ r, IsProbe (stopF x'.P (x.O (x.nx + u)).1) x'.sz ((x.O (x.nx + u)).1 % x'.sz) r → (x'.P r).2 = (x.O (x.nx + u)).2 ∧ (x'.P r).2 ≠ 0) :=
                    fun hl r hr => HSP.out.moved HG.out.core H0.out (by omega) (by rw [HNx.out]; omega) hl hr
                  have hwu : wr.heap.size = wr.heap.size := rfl
                  go_wp2_with fail
                  refine (live_any _ _).mono ?_
                  rintro e wc ⟨rfl, rfl⟩
                  cases hlv : liveN (x.O (x.nx + u)).2 with
                  | false =>
                    clear hlv HMoved
                    go_wp2
                    go_roundw
                    case rel => exact ⟨u + 1, by omega, congrArg (Value.int .i64) (show (x.nx : Int) + (u : Int) + 1 = (x.nx : Int) + ((u + 1 : Nat) : Int) by omega), hBu⟩
                    case measure => simp [intOf]; omega
                  | true =>
                    have HMv : Hid (∀ r, IsProbe (stopF x'.P (x.O (x.nx + u)).1) x'.sz ((x.O (x.nx + u)).1 % x'.sz) r → (x'.P r).2 = (x.O (x.nx + u)).2 ∧ (x'.P r).2 ≠ 0) := HMoved.out hlv
                    clear HMoved hlv
                    go_wp2_with fail
                    refine (zzFind HIu.out _ HShape.out.pw hsz16 HShape.out.free).mono ?_
                    rintro e wd ⟨hbd, r, hr, rfl⟩
                    obtain ⟨hv1, hv2⟩ := HMv.out r hr
                    have hrl := hr.lt
                    have e1 : findV x'.P r = .tuple #[.int .i64 (r : Int), .bool true] := by simp [findV, hv2]
                    rw [e1]
                    have HBd : Hid (Below wb.heap.size wb wd) := hBu.out.trans (hbd.mono hBu.out.size)
                    have HId : Hid (IxAt wd b pb ob x') := HIu.out.ext hbd
                    have d1' := (rowIs_ext R1u.out hbd).cell (show u < 32 by omega)
                    have d2' := (rowIs_ext R2u.out hbd).cell (show u < 32 by omega)
                    simp only [show u < m by omega, if_true] at d1' d2'
                    have HPl := zzPlaceAt HId.out r hrl hsz16
                    rw [hv1] at HPl
                    have HPl' : Hid (Calls Try.prog 27 #[.pointer (some ⟨b, 0, none⟩), .int .i64 (r : Int)] wd fun e w' => e = .returned (.tuple #[.int .u64 (((x'.P r).1 : Nat) : Int), .int .u64 (((x.O (x.nx + u)).2 : Nat) : Int)]) ∧ Below wd.heap.size wd w') := HPl
                    clear e1 hr hbd hv1 hv2 HPl d1 d2 HMv
                    go_wp2_with fail
                    refine HPl'.out.mono ?_
                    rintro e we ⟨rfl, hbe⟩
                    have HBe : Hid (Below wb.heap.size wb we) := HBd.out.trans (hbe.mono HBd.out.size)
                    have HIe : Hid (IxAt we b pb ob x') := HId.out.ext hbe
                    have d1 := (rowIs_ext (rowIs_ext R1a.out HBd.out) hbe).cell (show u < 32 by omega)
                    have d2 := (rowIs_ext (rowIs_ext R2a.out HBd.out) hbe).cell (show u < 32 by omega)
                    simp only [show u < m by omega, if_true] at d1 d2
                    clear hbe HPl' d1' d2'
                    go_wp2_with fail
                    refine (zzHasOld HIe.out).mono ?_
                    rintro e wf ⟨rfl, rfl⟩
                    rw [hasOld_false HO'.out]
                    go_wp2
                    go_roundw
                    case rel => exact ⟨u + 1, by omega, congrArg (Value.int .i64) (show (x.nx : Int) + (u : Int) + 1 = (x.nx : Int) + ((u + 1 : Nat) : Int) by omega), HBe⟩
                    case measure => simp [intOf]; omega
                · have hluI : ¬ (x.nx : Int) + (u : Int) < ((x.nx : Int) + (t : Int)) := by omega
                  clear R1u R2u
                  go_wp2_with fail
                  refine (zzHasOld HIu.out).mono ?_
                  rintro e wf ⟨rfl, rfl⟩
                  rw [hasOld_false HO'.out]
                  go_wp2
                  go_ret
                  exact ⟨rfl, HBa.out.trans (hBu.out.mono HBa0.out), x', HGa.out.ext hBu.out⟩
            · obtain ⟨_, hnd, hOO⟩ := HOld.out ho
              have hne : (((x.nx : Int) + (t : Int)) != (x.om : Int)) = true := by rw [bne_iff_ne]; have := HNx.out; omega
              rw [hasOld_true ho]
              have HO' : Hid (x'.om ≠ 0) := ho
              have HOO : Hid (∀ q, x'.O q = if x.nx ≤ q ∧ q < x'.nx ∧ liveB x.O q = true then ((x.O q).1, gone) else x.O q) := hOO
              have HOm : Hid (x'.om = x.om) := (HOld.out ho).1
              clear ho hnd hOO
              go_wp2_with fail
              refine (zzLen HIa.out).mono ?_
              rintro e wb ⟨rfl, rfl⟩
              go_wp2_with fail
              refine (zzN HIa.out).mono ?_
              rintro e wb ⟨rfl, rfl⟩
              have hsz16 : x'.sz ≤ 16384 := by have := HGa.out.core.sz_le; omega
              have hom16 : x'.om ≤ 16384 := by have := HGa.out.core.om_le; omega
              have HShape : Hid (Shape x') := HGa.out.shape
              go_wp2_with fail
              clear hnxI hlenI hnI hcw hne
              go_loopw [26] (fun v wr => ∃ u : Nat, u ≤ t ∧ v = .int .i64 ((x.nx : Int) + (u : Int)) ∧ Hid (Below wb.heap.size wb wr)) (fun v _ => t + x.nx - (intOf v).toNat)
              case atStart => exact ⟨0, Nat.zero_le _, by simp, Below.refl _ _⟩
              case round =>
                obtain ⟨u, hu, rfl, hBu⟩ := hrel
                have HIu : Hid (IxAt wr b pb ob x') := HIa.out.ext hBu.out
                have R1u : Hid (wr.rowIs n0 61 32 (fun i => .int .u64 ((if i < m then (x.O (x.nx + i)).1 else 0 : Nat) : Int))) := rowIs_ext R1a.out hBu.out
                have R2u : Hid (wr.rowIs (n0 + 1) 61 32 (fun i => .int .u64 ((if i < m then (x.O (x.nx + i)).2 else 0 : Nat) : Int))) := rowIs_ext R2a.out hBu.out
                have hsubu : ((x.nx : Int) + (u : Int) - (x.nx : Int)) = (u : Int) := by omega
                by_cases hlu : u < t
                · have hluI : (x.nx : Int) + (u : Int) < ((x.nx : Int) + (t : Int)) := by omega
                  have hu32 : (u : Int) < 32 := by omega
                  have d1 := R1u.out.cell (show u < 32 by omega)
                  have d2 := R2u.out.cell (show u < 32 by omega)
                  simp only [show u < m by omega, if_true] at d1 d2
                  have HMoved : Hid (liveB x.O (x.nx + u) = true → ∀ r, IsProbe (stopF x'.P (x.O (x.nx + u)).1) x'.sz ((x.O (x.nx + u)).1 % x'.sz) r → (x'.P r).2 = (x.O (x.nx + u)).2 ∧ (x'.P r).2 ≠ 0) :=
                    fun hl r hr => HSP.out.moved HG.out.core H0.out (by omega) (by rw [HNx.out]; omega) hl hr
                  have hwu : wr.heap.size = wr.heap.size := rfl
                  go_wp2_with fail
                  refine (live_any _ _).mono ?_
                  rintro e wc ⟨rfl, rfl⟩
                  cases hlv : liveN (x.O (x.nx + u)).2 with
                  | false =>
                    clear hlv HMoved
                    go_wp2
                    go_roundw
                    case rel => exact ⟨u + 1, by omega, congrArg (Value.int .i64) (show (x.nx : Int) + (u : Int) + 1 = (x.nx : Int) + ((u + 1 : Nat) : Int) by omega), hBu⟩
                    case measure => simp [intOf]; omega
                  | true =>
                    have HMv : Hid (∀ r, IsProbe (stopF x'.P (x.O (x.nx + u)).1) x'.sz ((x.O (x.nx + u)).1 % x'.sz) r → (x'.P r).2 = (x.O (x.nx + u)).2 ∧ (x'.P r).2 ≠ 0) := HMoved.out hlv
                    have HGn : Hid (x'.O (x.nx + u) = ((x.O (x.nx + u)).1, gone)) := by rw [HOO.out, if_pos ⟨by omega, by rw [HNx.out]; omega, hlv⟩]; rfl
                    clear HMoved hlv
                    go_wp2_with fail
                    refine (zzFind HIu.out _ HShape.out.pw hsz16 HShape.out.free).mono ?_
                    rintro e wd ⟨hbd, r, hr, rfl⟩
                    obtain ⟨hv1, hv2⟩ := HMv.out r hr
                    have hrl := hr.lt
                    have e1 : findV x'.P r = .tuple #[.int .i64 (r : Int), .bool true] := by simp [findV, hv2]
                    rw [e1]
                    have HBd : Hid (Below wb.heap.size wb wd) := hBu.out.trans (hbd.mono hBu.out.size)
                    have HId : Hid (IxAt wd b pb ob x') := HIu.out.ext hbd
                    have d1' := (rowIs_ext R1u.out hbd).cell (show u < 32 by omega)
                    have d2' := (rowIs_ext R2u.out hbd).cell (show u < 32 by omega)
                    simp only [show u < m by omega, if_true] at d1' d2'
                    have HPl := zzPlaceAt HId.out r hrl hsz16
                    rw [hv1] at HPl
                    have HPl' : Hid (Calls Try.prog 27 #[.pointer (some ⟨b, 0, none⟩), .int .i64 (r : Int)] wd fun e w' => e = .returned (.tuple #[.int .u64 (((x'.P r).1 : Nat) : Int), .int .u64 (((x.O (x.nx + u)).2 : Nat) : Int)]) ∧ Below wd.heap.size wd w') := HPl
                    clear e1 hr hbd hv1 hv2 HPl d1 d2 HMv
                    go_wp2_with fail
                    refine HPl'.out.mono ?_
                    rintro e we ⟨rfl, hbe⟩
                    have HBe : Hid (Below wb.heap.size wb we) := HBd.out.trans (hbe.mono HBd.out.size)
                    have HIe : Hid (IxAt we b pb ob x') := HId.out.ext hbe
                    have d1 := (rowIs_ext (rowIs_ext R1a.out HBd.out) hbe).cell (show u < 32 by omega)
                    have d2 := (rowIs_ext (rowIs_ext R2a.out HBd.out) hbe).cell (show u < 32 by omega)
                    simp only [show u < m by omega, if_true] at d1 d2
                    clear hbe HPl' d1' d2'
                    go_wp2_with fail
                    refine (zzHasOld HIe.out).mono ?_
                    rintro e wf ⟨rfl, rfl⟩
                    rw [hasOld_true HO'.out]
                    have hPo := zzOldPlaceAt HIe.out HO'.out (x.nx + u) (by rw [HOm.out]; omega) hom16
                    rw [HGn.out, Int.natCast_add] at hPo
                    have HPo : Hid (Calls Try.prog 45 #[.pointer (some ⟨b, 0, none⟩), .int .i64 ((x.nx : Int) + (u : Int))] wf fun e w' => e = .returned (.tuple #[.int .u64 (((x.O (x.nx + u)).1 : Nat) : Int), .int .u64 18446744073709551615]) ∧ Below wf.heap.size wf w') := hPo
                    clear hPo
                    go_wp2_with fail
                    refine HPo.out.mono ?_
                    rintro e wg ⟨rfl, hbg⟩
                    have HBg : Hid (Below wb.heap.size wb wg) := HBe.out.trans (hbg.mono HBe.out.size)
                    clear hbg HPo
                    go_wp2
                    go_roundw
                    case rel => exact ⟨u + 1, by omega, congrArg (Value.int .i64) (show (x.nx : Int) + (u : Int) + 1 = (x.nx : Int) + ((u + 1 : Nat) : Int) by omega), HBg⟩
                    case measure => simp [intOf]; omega
                · have hluI : ¬ (x.nx : Int) + (u : Int) < ((x.nx : Int) + (t : Int)) := by omega
                  clear R1u R2u
                  go_wp2_with fail
                  refine (zzHasOld HIu.out).mono ?_
                  rintro e wf ⟨rfl, rfl⟩
                  rw [hasOld_true HO'.out]
                  have HBf : Hid (Below wb.heap.size wb wf) := hBu
                  clear hBu HIu hluI hlu hsubu hu
                  go_wp2_with fail
                  go_loopw [33] (fun v wr => ∃ q : Nat, t ≤ q ∧ q ≤ m ∧ v = .int .i64 ((x.nx : Int) + (q : Int)) ∧ Hid (Below wb.heap.size wb wr)) (fun v _ => m + x.nx - (intOf v).toNat)
                  case atStart => exact ⟨t, Nat.le_refl _, hD, congrArg (Value.int .i64) (by omega), HBf⟩
                  case round =>
                    obtain ⟨q, hq1, hq2, rfl, hBq⟩ := hrel
                    have HIq : Hid (IxAt wr b pb ob x') := HIa.out.ext hBq.out
                    have hsubq : ((x.nx : Int) + (q : Int) - (x.nx : Int)) = (q : Int) := by omega
                    by_cases hlq : q < m
                    · have hlqI : (x.nx : Int) + (q : Int) < ((x.nx : Int) + 32) := by omega
                      have hq32 : (q : Int) < 32 := by omega
                      have hPo := zzOldPlaceAt HIq.out HO'.out (x.nx + q) (by rw [HOm.out]; omega) hom16
                      rw [HOO.out, if_neg (by rw [HNx.out]; omega), Int.natCast_add] at hPo
                      have HPo : Hid (Calls Try.prog 45 #[.pointer (some ⟨b, 0, none⟩), .int .i64 ((x.nx : Int) + (q : Int))] wr fun e w' => e = .returned (.tuple #[.int .u64 (((x.O (x.nx + q)).1 : Nat) : Int), .int .u64 (((x.O (x.nx + q)).2 : Nat) : Int)]) ∧ Below wr.heap.size wr w') := hPo
                      clear hPo
                      go_wp2_with fail
                      refine HPo.out.mono ?_
                      rintro e wg ⟨rfl, hbg⟩
                      have HBg : Hid (Below wb.heap.size wb wg) := hBq.out.trans (hbg.mono hBq.out.size)
                      have d1 := (rowIs_ext R1a.out HBg.out).cell (show q < 32 by omega)
                      have d2 := (rowIs_ext R2a.out HBg.out).cell (show q < 32 by omega)
                      simp only [hlq, if_true] at d1 d2
                      clear hbg HPo
                      generalize (x.O (x.nx + q)).1 = qh at *
                      generalize (x.O (x.nx + q)).2 = ql at *
                      go_wp2
                      go_roundw
                      case rel => exact ⟨q + 1, by omega, by omega, congrArg (Value.int .i64) (show (x.nx : Int) + (q : Int) + 1 = (x.nx : Int) + ((q + 1 : Nat) : Int) by omega), HBg⟩
                      case measure => simp [intOf]; omega
                    · have hlqI : ¬ (x.nx : Int) + (q : Int) < ((x.nx : Int) + 32) := by omega
                      go_wp2
                      go_ret
                      exact ⟨rfl, HBa.out.trans (hBq.out.mono HBa0.out), x', HGa.out.ext hBq.out⟩
          · have h4b : ((cnt (winB x) t : Int) == 4) = false := by rw [beq_eq_false_iff_ne]; omega
            have HQ : Hid (∀ j, j < t + 1 → cnt (winB x) j < 4) := fun j hj => by
              by_cases e : j = t
              · subst e; omega
              · exact hq.out j (by omega)
            clear h4 hq
            go_wp2
            go_round
            case rel => exact ⟨t + 1, by omega, congrArg (Value.int .i64) (show (x.nx : Int) + (t : Int) + 1 = (x.nx : Int) + ((t + 1 : Nat) : Int) by omega), rfl, HQ⟩
            case measure => simp [intOf]; omega
        · have hte : t = m := by omega
          have HEI : Hid (EIs x (x.nx + 32) (x.nx + t)) := ⟨by omega, by omega, fun j hj => hq.out j (by omega), .inl (by omega)⟩
          have hD : t ≤ m := ht
          have hge2 : ¬ (x.nx : Int) + (t : Int) < ((x.nx : Int) + 32) := by omega
          have hmt : m ≤ t := by omega
          clear hq ht hlt hte
          go_wp2_with fail
          have hsubD : (((x.nx : Int) + 32) - (x.nx : Int)) = (t : Int) := by omega
          have HCM := countLive_any (n0 + 1) _ t 61 wq R2.out (by omega)
          rw [win_cnt hD] at HCM
          have HCM' : Hid (Calls Try.prog 47 #[.slice (some ⟨n0 + 1, 0, none⟩) 32 32, .int .i64 0, .int .i64 (t : Int)] wq fun e w' => e = .returned (.int .i64 ((cnt (winB x) t : Nat) : Int)) ∧ w' = wq) := HCM
          clear HCM
          try rw [hsubD]
          refine HCM'.out.mono ?_
          rintro e w9 ⟨rfl, rfl⟩
          clear HCM'
          have hbl := HIr.out.lt
          have hpl := HIr.out.tab.lt
          have hol := (HIr.out.old H0.out).lt
          have hw5 := HI.out.lt
          have hw5p := HI.out.tab.lt
          have hw5o := (HI.out.old H0.out).lt
          rw [HN0.out] at hw5 hw5p hw5o
          have HST := zzStep_of (R := fun w' => Fr [b, pb, ob] w9 w' ∧ ∃ x', StepPost x x' (lastM hs locs noDel k) (cnt (firstB hs) k) ∧ IxAt w' b pb ob x') (step_old HIr.out H0.out HG.out.core (HG.out.load.room HG.out.core (by omega)))
          have HST' : Hid (Calls Try.prog 40 #[.pointer (some ⟨b, 0, none⟩)] w9 fun e w' => e = .returned (.tuple #[]) ∧ (Fr [b, pb, ob] w9 w' ∧ ∃ x', StepPost x x' (lastM hs locs noDel k) (cnt (firstB hs) k) ∧ IxAt w' b pb ob x')) := HST
          clear HST
          go_wp2_with fail
          refine HST'.out.mono ?_
          rintro e wa ⟨rfl, hFa, x', hSP, hIa⟩
          clear HST'
          obtain ⟨hE', hN', hOld', hNil'⟩ := hSP.eis hen1 hen2 (by first | exact .inl rfl | exact .inr rfl)
          have hnx' : x'.nx = x.nx + t := hE'.unique HEI.out
          rw [hnx', Nat.add_sub_cancel_left] at hN'
          have hsz' := hSP.sz
          have R1a : Hid (wa.rowIs n0 61 32 (fun i => .int .u64 ((if i < m then (x.O (x.nx + i)).1 else 0 : Nat) : Int))) := R1.out.of_block (hFa.block _ R1.out.lt (by simp; omega))
          have R2a : Hid (wa.rowIs (n0 + 1) 61 32 (fun i => .int .u64 ((if i < m then (x.O (x.nx + i)).2 else 0 : Nat) : Int))) := R2.out.of_block (hFa.block _ R2.out.lt (by simp; omega))
          have hBs5 : B ≤ n0 := HBs.out
          have HBa : Hid (Below B w5 wa) := (hB.out.mono hBs5).trans (hFa.below (fun z hz => by
            simp at hz
            rcases hz with rfl | rfl | rfl
            · exact HB1.out
            · exact HB2.out
            · exact HB3.out) (by have h1 := hB.out.size; rw [HN0.out] at h1; omega))
          have HGa : Hid (GO hs locs B b k x' wa) := ⟨⟨pb, ob, HB1.out, HB2.out, fun _ => HB3.out, hIa⟩, hSP.core H0.out, hSP.load HG.out.core H0.out HG.out.load (by omega)⟩
          have HIa : Hid (IxAt wa b pb ob x') := hIa
          have HSP : Hid (StepPost x x' (lastM hs locs noDel k) (cnt (firstB hs) k)) := hSP
          have HOld : Hid (x'.om ≠ 0 → x'.om = x.om ∧ x'.nx ≠ x.om ∧ ∀ q, x'.O q = if x.nx ≤ q ∧ q < x'.nx ∧ liveB x.O q = true then ((x.O q).1, gone) else x.O q) := hOld'
          have HNil : Hid (x'.om = 0 → x.om ≠ 0 → x'.nx = x.om) := hNil'
          have HNx : Hid (x'.nx = x.nx + t) := hnx'
          have hBa0 : B ≤ wa.heap.size := Nat.le_trans HBs.out (by have := HBa.out.size; rw [HN0.out] at this; exact this)
          have HBa0 : Hid (B ≤ wa.heap.size) := hBa0
          have hnxI : ((x'.nx : Int) != ((x.nx : Int) + 32)) = false := by rw [bne_eq_false_iff_eq]; omega
          have hlenI : ((x'.sz : Int) != (x.sz : Int)) = false := by rw [hsz']; simp
          have hnI : ((x'.n : Int) != (x.n : Int) + ((cnt (winB x) t : Nat) : Int)) = false := by rw [bne_eq_false_iff_eq]; omega
          have hcw := cnt_le (winB x) t
          clear hFa hSP hIa hE' hN' hOld' hNil' hsz' R1 R2 hBa0 hnx' hbl hpl hol hw5 hw5p hw5o HEI HIr hB
          go_wp2_with fail
          refine (zzNext HIa.out).mono ?_
          rintro e wb ⟨rfl, rfl⟩
          go_wp2_with fail
          refine (zzHasOld HIa.out).mono ?_
          rintro e wb ⟨rfl, rfl⟩
          by_cases ho : x'.om = 0
          · have hdone : x'.nx = x.om := HNil.out ho H0.out
            have hne : (((x.nx : Int) + 32) != (x.om : Int)) = false := by first | (simp; done) | (rw [bne_eq_false_iff_eq]; have := HNx.out; omega)
            rw [hasOld_false ho]
            have HO' : Hid (x'.om = 0) := ho
            clear ho hdone
            go_wp2_with fail
            refine (zzLen HIa.out).mono ?_
            rintro e wb ⟨rfl, rfl⟩
            go_wp2_with fail
            refine (zzN HIa.out).mono ?_
            rintro e wb ⟨rfl, rfl⟩
            have hsz16 : x'.sz ≤ 16384 := by have := HGa.out.core.sz_le; omega
            have hom16 : x'.om ≤ 16384 := by have := HGa.out.core.om_le; omega
            have HShape : Hid (Shape x') := HGa.out.shape
            go_wp2_with fail
            clear hnxI hlenI hnI hcw hne
            go_loopw [26] (fun v wr => ∃ u : Nat, u ≤ t ∧ v = .int .i64 ((x.nx : Int) + (u : Int)) ∧ Hid (Below wb.heap.size wb wr)) (fun v _ => t + x.nx - (intOf v).toNat)
            case atStart => exact ⟨0, Nat.zero_le _, by simp, Below.refl _ _⟩
            case round =>
              obtain ⟨u, hu, rfl, hBu⟩ := hrel
              have HIu : Hid (IxAt wr b pb ob x') := HIa.out.ext hBu.out
              have R1u : Hid (wr.rowIs n0 61 32 (fun i => .int .u64 ((if i < m then (x.O (x.nx + i)).1 else 0 : Nat) : Int))) := rowIs_ext R1a.out hBu.out
              have R2u : Hid (wr.rowIs (n0 + 1) 61 32 (fun i => .int .u64 ((if i < m then (x.O (x.nx + i)).2 else 0 : Nat) : Int))) := rowIs_ext R2a.out hBu.out
              have hsubu : ((x.nx : Int) + (u : Int) - (x.nx : Int)) = (u : Int) := by omega
              by_cases hlu : u < t
              · have hluI : (x.nx : Int) + (u : Int) < ((x.nx : Int) + 32) := by omega
                have hu32 : (u : Int) < 32 := by omega
                have d1 := R1u.out.cell (show u < 32 by omega)
                have d2 := R2u.out.cell (show u < 32 by omega)
                simp only [show u < m by omega, if_true] at d1 d2
                have HMoved : Hid (liveB x.O (x.nx + u) = true → ∀ r, IsProbe (stopF x'.P (x.O (x.nx + u)).1) x'.sz ((x.O (x.nx + u)).1 % x'.sz) r → (x'.P r).2 = (x.O (x.nx + u)).2 ∧ (x'.P r).2 ≠ 0) :=
                  fun hl r hr => HSP.out.moved HG.out.core H0.out (by omega) (by rw [HNx.out]; omega) hl hr
                have hwu : wr.heap.size = wr.heap.size := rfl
                go_wp2_with fail
                refine (live_any _ _).mono ?_
                rintro e wc ⟨rfl, rfl⟩
                cases hlv : liveN (x.O (x.nx + u)).2 with
                | false =>
                  clear hlv HMoved
                  go_wp2
                  go_roundw
                  case rel => exact ⟨u + 1, by omega, congrArg (Value.int .i64) (show (x.nx : Int) + (u : Int) + 1 = (x.nx : Int) + ((u + 1 : Nat) : Int) by omega), hBu⟩
                  case measure => simp [intOf]; omega
                | true =>
                  have HMv : Hid (∀ r, IsProbe (stopF x'.P (x.O (x.nx + u)).1) x'.sz ((x.O (x.nx + u)).1 % x'.sz) r → (x'.P r).2 = (x.O (x.nx + u)).2 ∧ (x'.P r).2 ≠ 0) := HMoved.out hlv
                  clear HMoved hlv
                  go_wp2_with fail
                  refine (zzFind HIu.out _ HShape.out.pw hsz16 HShape.out.free).mono ?_
                  rintro e wd ⟨hbd, r, hr, rfl⟩
                  obtain ⟨hv1, hv2⟩ := HMv.out r hr
                  have hrl := hr.lt
                  have e1 : findV x'.P r = .tuple #[.int .i64 (r : Int), .bool true] := by simp [findV, hv2]
                  rw [e1]
                  have HBd : Hid (Below wb.heap.size wb wd) := hBu.out.trans (hbd.mono hBu.out.size)
                  have HId : Hid (IxAt wd b pb ob x') := HIu.out.ext hbd
                  have d1' := (rowIs_ext R1u.out hbd).cell (show u < 32 by omega)
                  have d2' := (rowIs_ext R2u.out hbd).cell (show u < 32 by omega)
                  simp only [show u < m by omega, if_true] at d1' d2'
                  have HPl := zzPlaceAt HId.out r hrl hsz16
                  rw [hv1] at HPl
                  have HPl' : Hid (Calls Try.prog 27 #[.pointer (some ⟨b, 0, none⟩), .int .i64 (r : Int)] wd fun e w' => e = .returned (.tuple #[.int .u64 (((x'.P r).1 : Nat) : Int), .int .u64 (((x.O (x.nx + u)).2 : Nat) : Int)]) ∧ Below wd.heap.size wd w') := HPl
                  clear e1 hr hbd hv1 hv2 HPl d1 d2 HMv
                  go_wp2_with fail
                  refine HPl'.out.mono ?_
                  rintro e we ⟨rfl, hbe⟩
                  have HBe : Hid (Below wb.heap.size wb we) := HBd.out.trans (hbe.mono HBd.out.size)
                  have HIe : Hid (IxAt we b pb ob x') := HId.out.ext hbe
                  have d1 := (rowIs_ext (rowIs_ext R1a.out HBd.out) hbe).cell (show u < 32 by omega)
                  have d2 := (rowIs_ext (rowIs_ext R2a.out HBd.out) hbe).cell (show u < 32 by omega)
                  simp only [show u < m by omega, if_true] at d1 d2
                  clear hbe HPl' d1' d2'
                  go_wp2_with fail
                  refine (zzHasOld HIe.out).mono ?_
                  rintro e wf ⟨rfl, rfl⟩
                  rw [hasOld_false HO'.out]
                  go_wp2
                  go_roundw
                  case rel => exact ⟨u + 1, by omega, congrArg (Value.int .i64) (show (x.nx : Int) + (u : Int) + 1 = (x.nx : Int) + ((u + 1 : Nat) : Int) by omega), HBe⟩
                  case measure => simp [intOf]; omega
              · have hluI : ¬ (x.nx : Int) + (u : Int) < ((x.nx : Int) + 32) := by omega
                clear R1u R2u
                go_wp2_with fail
                refine (zzHasOld HIu.out).mono ?_
                rintro e wf ⟨rfl, rfl⟩
                rw [hasOld_false HO'.out]
                go_wp2
                go_ret
                exact ⟨rfl, HBa.out.trans (hBu.out.mono HBa0.out), x', HGa.out.ext hBu.out⟩
          · obtain ⟨_, hnd, hOO⟩ := HOld.out ho
            have hne : (((x.nx : Int) + 32) != (x.om : Int)) = true := by rw [bne_iff_ne]; have := HNx.out; omega
            rw [hasOld_true ho]
            have HO' : Hid (x'.om ≠ 0) := ho
            have HOO : Hid (∀ q, x'.O q = if x.nx ≤ q ∧ q < x'.nx ∧ liveB x.O q = true then ((x.O q).1, gone) else x.O q) := hOO
            have HOm : Hid (x'.om = x.om) := (HOld.out ho).1
            clear ho hnd hOO
            go_wp2_with fail
            refine (zzLen HIa.out).mono ?_
            rintro e wb ⟨rfl, rfl⟩
            go_wp2_with fail
            refine (zzN HIa.out).mono ?_
            rintro e wb ⟨rfl, rfl⟩
            have hsz16 : x'.sz ≤ 16384 := by have := HGa.out.core.sz_le; omega
            have hom16 : x'.om ≤ 16384 := by have := HGa.out.core.om_le; omega
            have HShape : Hid (Shape x') := HGa.out.shape
            go_wp2_with fail
            clear hnxI hlenI hnI hcw hne
            go_loopw [26] (fun v wr => ∃ u : Nat, u ≤ t ∧ v = .int .i64 ((x.nx : Int) + (u : Int)) ∧ Hid (Below wb.heap.size wb wr)) (fun v _ => t + x.nx - (intOf v).toNat)
            case atStart => exact ⟨0, Nat.zero_le _, by simp, Below.refl _ _⟩
            case round =>
              obtain ⟨u, hu, rfl, hBu⟩ := hrel
              have HIu : Hid (IxAt wr b pb ob x') := HIa.out.ext hBu.out
              have R1u : Hid (wr.rowIs n0 61 32 (fun i => .int .u64 ((if i < m then (x.O (x.nx + i)).1 else 0 : Nat) : Int))) := rowIs_ext R1a.out hBu.out
              have R2u : Hid (wr.rowIs (n0 + 1) 61 32 (fun i => .int .u64 ((if i < m then (x.O (x.nx + i)).2 else 0 : Nat) : Int))) := rowIs_ext R2a.out hBu.out
              have hsubu : ((x.nx : Int) + (u : Int) - (x.nx : Int)) = (u : Int) := by omega
              by_cases hlu : u < t
              · have hluI : (x.nx : Int) + (u : Int) < ((x.nx : Int) + 32) := by omega
                have hu32 : (u : Int) < 32 := by omega
                have d1 := R1u.out.cell (show u < 32 by omega)
                have d2 := R2u.out.cell (show u < 32 by omega)
                simp only [show u < m by omega, if_true] at d1 d2
                have HMoved : Hid (liveB x.O (x.nx + u) = true → ∀ r, IsProbe (stopF x'.P (x.O (x.nx + u)).1) x'.sz ((x.O (x.nx + u)).1 % x'.sz) r → (x'.P r).2 = (x.O (x.nx + u)).2 ∧ (x'.P r).2 ≠ 0) :=
                  fun hl r hr => HSP.out.moved HG.out.core H0.out (by omega) (by rw [HNx.out]; omega) hl hr
                have hwu : wr.heap.size = wr.heap.size := rfl
                go_wp2_with fail
                refine (live_any _ _).mono ?_
                rintro e wc ⟨rfl, rfl⟩
                cases hlv : liveN (x.O (x.nx + u)).2 with
                | false =>
                  clear hlv HMoved
                  go_wp2
                  go_roundw
                  case rel => exact ⟨u + 1, by omega, congrArg (Value.int .i64) (show (x.nx : Int) + (u : Int) + 1 = (x.nx : Int) + ((u + 1 : Nat) : Int) by omega), hBu⟩
                  case measure => simp [intOf]; omega
                | true =>
                  have HMv : Hid (∀ r, IsProbe (stopF x'.P (x.O (x.nx + u)).1) x'.sz ((x.O (x.nx + u)).1 % x'.sz) r → (x'.P r).2 = (x.O (x.nx + u)).2 ∧ (x'.P r).2 ≠ 0) := HMoved.out hlv
                  have HGn : Hid (x'.O (x.nx + u) = ((x.O (x.nx + u)).1, gone)) := by rw [HOO.out, if_pos ⟨by omega, by rw [HNx.out]; omega, hlv⟩]; rfl
                  clear HMoved hlv
                  go_wp2_with fail
                  refine (zzFind HIu.out _ HShape.out.pw hsz16 HShape.out.free).mono ?_
                  rintro e wd ⟨hbd, r, hr, rfl⟩
                  obtain ⟨hv1, hv2⟩ := HMv.out r hr
                  have hrl := hr.lt
                  have e1 : findV x'.P r = .tuple #[.int .i64 (r : Int), .bool true] := by simp [findV, hv2]
                  rw [e1]
                  have HBd : Hid (Below wb.heap.size wb wd) := hBu.out.trans (hbd.mono hBu.out.size)
                  have HId : Hid (IxAt wd b pb ob x') := HIu.out.ext hbd
                  have d1' := (rowIs_ext R1u.out hbd).cell (show u < 32 by omega)
                  have d2' := (rowIs_ext R2u.out hbd).cell (show u < 32 by omega)
                  simp only [show u < m by omega, if_true] at d1' d2'
                  have HPl := zzPlaceAt HId.out r hrl hsz16
                  rw [hv1] at HPl
                  have HPl' : Hid (Calls Try.prog 27 #[.pointer (some ⟨b, 0, none⟩), .int .i64 (r : Int)] wd fun e w' => e = .returned (.tuple #[.int .u64 (((x'.P r).1 : Nat) : Int), .int .u64 (((x.O (x.nx + u)).2 : Nat) : Int)]) ∧ Below wd.heap.size wd w') := HPl
                  clear e1 hr hbd hv1 hv2 HPl d1 d2 HMv
                  go_wp2_with fail
                  refine HPl'.out.mono ?_
                  rintro e we ⟨rfl, hbe⟩
                  have HBe : Hid (Below wb.heap.size wb we) := HBd.out.trans (hbe.mono HBd.out.size)
                  have HIe : Hid (IxAt we b pb ob x') := HId.out.ext hbe
                  have d1 := (rowIs_ext (rowIs_ext R1a.out HBd.out) hbe).cell (show u < 32 by omega)
                  have d2 := (rowIs_ext (rowIs_ext R2a.out HBd.out) hbe).cell (show u < 32 by omega)
                  simp only [show u < m by omega, if_true] at d1 d2
                  clear hbe HPl' d1' d2'
                  go_wp2_with fail
                  refine (zzHasOld HIe.out).mono ?_
                  rintro e wf ⟨rfl, rfl⟩
                  rw [hasOld_true HO'.out]
                  have hPo := zzOldPlaceAt HIe.out HO'.out (x.nx + u) (by rw [HOm.out]; omega) hom16
                  rw [HGn.out, Int.natCast_add] at hPo
                  have HPo : Hid (Calls Try.prog 45 #[.pointer (some ⟨b, 0, none⟩), .int .i64 ((x.nx : Int) + (u : Int))] wf fun e w' => e = .returned (.tuple #[.int .u64 (((x.O (x.nx + u)).1 : Nat) : Int), .int .u64 18446744073709551615]) ∧ Below wf.heap.size wf w') := hPo
                  clear hPo
                  go_wp2_with fail
                  refine HPo.out.mono ?_
                  rintro e wg ⟨rfl, hbg⟩
                  have HBg : Hid (Below wb.heap.size wb wg) := HBe.out.trans (hbg.mono HBe.out.size)
                  clear hbg HPo
                  go_wp2
                  go_roundw
                  case rel => exact ⟨u + 1, by omega, congrArg (Value.int .i64) (show (x.nx : Int) + (u : Int) + 1 = (x.nx : Int) + ((u + 1 : Nat) : Int) by omega), HBg⟩
                  case measure => simp [intOf]; omega
              · have hluI : ¬ (x.nx : Int) + (u : Int) < ((x.nx : Int) + 32) := by omega
                clear R1u R2u
                go_wp2_with fail
                refine (zzHasOld HIu.out).mono ?_
                rintro e wf ⟨rfl, rfl⟩
                rw [hasOld_true HO'.out]
                have HBf : Hid (Below wb.heap.size wb wf) := hBu
                clear hBu HIu hluI hlu hsubu hu
                go_wp2_with fail
                go_loopw [33] (fun v wr => ∃ q : Nat, t ≤ q ∧ q ≤ m ∧ v = .int .i64 ((x.nx : Int) + (q : Int)) ∧ Hid (Below wb.heap.size wb wr)) (fun v _ => m + x.nx - (intOf v).toNat)
                case atStart => exact ⟨t, Nat.le_refl _, hD, congrArg (Value.int .i64) (by omega), HBf⟩
                case round =>
                  obtain ⟨q, hq1, hq2, rfl, hBq⟩ := hrel
                  have HIq : Hid (IxAt wr b pb ob x') := HIa.out.ext hBq.out
                  have hsubq : ((x.nx : Int) + (q : Int) - (x.nx : Int)) = (q : Int) := by omega
                  by_cases hlq : q < m
                  · have hlqI : (x.nx : Int) + (q : Int) < ((x.nx : Int) + 32) := by omega
                    have hq32 : (q : Int) < 32 := by omega
                    have hPo := zzOldPlaceAt HIq.out HO'.out (x.nx + q) (by rw [HOm.out]; omega) hom16
                    rw [HOO.out, if_neg (by rw [HNx.out]; omega), Int.natCast_add] at hPo
                    have HPo : Hid (Calls Try.prog 45 #[.pointer (some ⟨b, 0, none⟩), .int .i64 ((x.nx : Int) + (q : Int))] wr fun e w' => e = .returned (.tuple #[.int .u64 (((x.O (x.nx + q)).1 : Nat) : Int), .int .u64 (((x.O (x.nx + q)).2 : Nat) : Int)]) ∧ Below wr.heap.size wr w') := hPo
                    clear hPo
                    go_wp2_with fail
                    refine HPo.out.mono ?_
                    rintro e wg ⟨rfl, hbg⟩
                    have HBg : Hid (Below wb.heap.size wb wg) := hBq.out.trans (hbg.mono hBq.out.size)
                    have d1 := (rowIs_ext R1a.out HBg.out).cell (show q < 32 by omega)
                    have d2 := (rowIs_ext R2a.out HBg.out).cell (show q < 32 by omega)
                    simp only [hlq, if_true] at d1 d2
                    clear hbg HPo
                    generalize (x.O (x.nx + q)).1 = qh at *
                    generalize (x.O (x.nx + q)).2 = ql at *
                    go_wp2
                    go_roundw
                    case rel => exact ⟨q + 1, by omega, by omega, congrArg (Value.int .i64) (show (x.nx : Int) + (q : Int) + 1 = (x.nx : Int) + ((q + 1 : Nat) : Int) by omega), HBg⟩
                    case measure => simp [intOf]; omega
                  · have hlqI : ¬ (x.nx : Int) + (q : Int) < ((x.nx : Int) + 32) := by omega
                    go_wp2
                    go_ret
                    exact ⟨rfl, HBa.out.trans (hBq.out.mono HBa0.out), x', HGa.out.ext hBq.out⟩

/-- zztb1CheckedStep answers true, and leaves an index with the same contents -/
theorem checkedStep_any {B : Nat} {w : World} {b : Nat} {hs locs : Nat → Nat} {k : Nat} (h : G hs locs B b k w) (hBs : B ≤ w.heap.size) :
    Calls Try.prog 38 #[.pointer (some ⟨b, 0, none⟩)] w fun e w' => e = .returned (.bool true) ∧ Below B w w' ∧ G hs locs B b k w' := by
  obtain ⟨x, hG⟩ := h.open_
  by_cases h0 : x.om = 0
  · refine (cs_nil hG h0 hBs).mono ?_
    rintro e w' ⟨rfl, hb⟩
    exact ⟨rfl, hb.mono hBs, h.ext hb⟩
  · by_cases hgt : (x.om : Int) < (x.nx : Int) + 32
    · refine (cs_old_a hG h0 hBs hgt).mono ?_
      rintro e w' ⟨rfl, hb, x', hG'⟩
      exact ⟨rfl, hb, x', _, hG'.ix, hG'.core, hG'.load, rfl⟩
    · refine (cs_old_b hG h0 hBs hgt).mono ?_
      rintro e w' ⟨rfl, hb, x', hG'⟩
      exact ⟨rfl, hb, x', _, hG'.ix, hG'.core, hG'.load, rfl⟩

end Go.Proofs.Qxb6601018a
