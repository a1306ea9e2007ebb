/-
  zztb1CheckedStep and zztb1CountLive: the plain side, and the walks.
-/
import Derived.Test.Qxb6601018aSt
set_option linter.unusedVariables false
namespace Go.Proofs.Qxb6601018a
open Go.RowKit

/-- the end of the window that step moves -/
structure EIs (x : Ix) (en e : Nat) : Prop where
  lo : x.nx ≤ e
  hi : e ≤ en
  early : ∀ j, j < e - x.nx → cnt (winB x) j < 4
  stop : e = en ∨ cnt (winB x) (e - x.nx) = 4

theorem EIs.unique {x : Ix} {en e e' : Nat} (h : EIs x en e) (h' : EIs x en e') : e = e' := by
  have a1 := h.lo; have a2 := h.hi; have b1 := h'.lo; have b2 := h'.hi
  rcases Nat.lt_trichotomy e e' with hl | hl | hl
  · exfalso
    rcases h.stop with s | s
    · omega
    · have := h'.early (e - x.nx) (by omega); omega
  · exact hl
  · exfalso
    rcases h'.stop with s | s
    · omega
    · have := h.early (e' - x.nx) (by omega); omega

theorem StepPost.eis {x x' : Ix} {M : Nat → Nat} {c en : Nat} (h : StepPost x x' M c) (hen1 : en ≤ x.nx + 32) (hen2 : en ≤ x.om) (hen3 : en = x.nx + 32 ∨ en = x.om) : EIs x en x'.nx ∧ x'.n = x.n + cnt (winB x) (x'.nx - x.nx) ∧ (x'.om ≠ 0 → x'.om = x.om ∧ x'.nx ≠ x.om ∧ ∀ q, x'.O q = if x.nx ≤ q ∧ q < x'.nx ∧ liveB x.O q = true then ((x.O q).1, gone) else x.O q) ∧ (x'.om = 0 → x.om ≠ 0 → x'.nx = x.om) := by
  obtain ⟨y, mv, hS, hend, hx⟩ := h
  have a0 := hS.nx0; have a1 := hS.nx1; have a2 := hS.nx2; have a3 := hS.mvE; have a4 := hS.mv4
  have hE : EIs x en y.nx := by
    refine ⟨a0, by rcases hen3 with e | e <;> omega, hS.early, ?_⟩
    by_cases h4 : mv < 4
    · left
      rcases hen3 with e | e <;> omega
    · right; omega
  have hn : y.n = x.n + cnt (winB x) (y.nx - x.nx) := by rw [← a3]; exact hS.n
  rcases hx with ⟨e, rfl⟩ | ⟨e, rfl⟩
  · exact ⟨hE, hn, fun h => absurd rfl h, fun _ _ => e⟩
  · exact ⟨hE, hn, fun _ => ⟨hS.om, e, hS.O⟩, fun h h0 => absurd (hS.om ▸ h) h0⟩

/-- a hash that step has moved is found in the new table -/
theorem StepPost.moved {x x' : Ix} {M : Nat → Nat} {c j r : Nat} (h : StepPost x x' M c) (hC : Core x M c) (h0 : x.om ≠ 0) (h1 : x.nx ≤ j) (h2 : j < x'.nx) (hl : liveB x.O j = true)
    (hr : IsProbe (stopF x'.P (x.O j).1) x'.sz ((x.O j).1 % x'.sz) r) : (x'.P r).2 = (x.O j).2 ∧ (x'.P r).2 ≠ 0 := by
  have hC' := h.core h0
  obtain ⟨y, mv, hS, hend, hx⟩ := h
  have hom := hS.om
  have hjy : j < y.nx := by rcases hx with ⟨_, rfl⟩ | ⟨_, rfl⟩ <;> exact h2
  have hjo : j < x.om := by have := hS.nx2; omega
  have hO := hC.old h0
  have hM : M (x.O j).1 = (x.O j).2 := (hO.oM j hjo hl).symm
  have hMz : M (x.O j).1 ≠ 0 := by rw [hM]; exact (liveB_true.1 hl).1
  have hOy := hS.core.old (by rw [hom]; exact h0)
  have hin : ∃ q, q < x'.sz ∧ x'.P q = ((x.O j).1, M (x.O j).1) := by
    rcases hC'.onto (x.O j).1 hMz with hq | ⟨ho, q, hq, e⟩
    · exact hq
    · exfalso
      have hy' : x' = y := by
        rcases hx with ⟨_, rfl⟩ | ⟨_, rfl⟩
        · exact absurd rfl ho
        · rfl
      subst hy'
      have hyj : x'.O j = ((x.O j).1, gone) := by rw [hS.O, if_pos ⟨h1, hjy, hl⟩]
      have hqj : q = j := by
        refine hOy.invO.uniq q j hq (by rw [hom]; exact hjo) (by rw [e]; exact hMz) (by rw [hyj]; show gone ≠ 0; decide) (by rw [e, hyj])
      rw [hqj, hyj] at e
      have e2 := congrArg Prod.snd e
      have := hC.nog (x.O j).1
      simp only [] at e2
      omega
  obtain ⟨q, hq, e⟩ := hin
  have hz : (x'.P r).2 ≠ 0 := by
    intro hz
    have := hC'.invP.absent hr hz q hq (by rw [e]) (by rw [e]; exact hMz)
    exact absurd this (hC'.pnog q hq)
  have hrh := (hr.at_.resolve_left hz).1
  refine ⟨?_, hz⟩
  rw [hC'.pM r hr.lt hz, hrh, hM]

theorem countLive_any (bl : Nat) (f : Nat → Nat) (t : Nat) (ty : TypeId) (w : World) (hr : w.rowIs bl ty 32 (fun i => .int .u64 ((f i : Nat) : Int))) (ht : t ≤ 32) :
    Calls Try.prog 47 #[.slice (some ⟨bl, 0, none⟩) 32 32, .int .i64 0, .int .i64 (t : Int)] w fun e w' => e = .returned (.int .i64 ((cnt (fun i => liveN (f i)) t : Nat) : Int)) ∧ w' = w := by
  have HR : Hid (w.rowIs bl ty 32 (fun i => .int .u64 ((f i : Nat) : Int))) := hr
  clear hr
  go_enter Try.func47, Try.ntmps47
  go_wp2
  go_loop [7, 8] (fun c v => ∃ j : Nat, j ≤ t ∧ v = .int .i64 j ∧ c = .int .i64 ((cnt (fun i => liveN (f i)) j : Nat) : Int)) (fun _ v => t - (intOf v).toNat)
  case atStart => exact ⟨0, Nat.zero_le _, rfl, rfl⟩
  case round =>
    obtain ⟨j, hj, rfl, rfl⟩ := hrel
    have hcl := cnt_le (fun i => liveN (f i)) j
    by_cases hlt : j < t
    · have hc : w.cell? ⟨bl, j, none⟩ = some (.int .u64 ((f j : Nat) : Int)) := HR.out.cell (show j < 32 by omega)
      have HC : Hid (cnt (fun i => liveN (f i)) (j + 1) = cnt (fun i => liveN (f i)) j + (if liveN (f j) then 1 else 0)) := rfl
      go_wp2_with fail
      refine (live_any _ _).mono ?_
      rintro e w2 ⟨rfl, rfl⟩
      cases hlv : liveN (f j) with
      | false =>
        have HC' : Hid (cnt (fun i => liveN (f i)) (j + 1) = cnt (fun i => liveN (f i)) j) := by have := HC.out; rw [hlv] at this; exact this
        clear HC hlv
        go_wp2
        go_round
        case rel => exact ⟨j + 1, by omega, by go_num, by rw [HC'.out]⟩
        case measure => simp [intOf]; omega
      | true =>
        have HC' : Hid (cnt (fun i => liveN (f i)) (j + 1) = cnt (fun i => liveN (f i)) j + 1) := by have := HC.out; rw [hlv] at this; exact this
        clear HC hlv
        go_wp2
        go_round
        case rel => exact ⟨j + 1, by omega, by go_num, by rw [HC'.out]; go_num⟩
        case measure => simp [intOf]; omega
    · have hjt : j = t := by omega
      subst hjt
      go_wp2
      go_ret
      exact ⟨rfl, rfl⟩

theorem rowIs_ext {w w' : World} {b : Nat} {t : TypeId} {n : Nat} {f : Nat → Value} (h : w.rowIs b t n f) (hb : Below w.heap.size w w') : w'.rowIs b t n f := h.of_block (hb.block b h.lt)

theorem rowIs_fill {w : World} {b : Nat} {t : TypeId} {n j : Nat} {f : Nat → Nat} (h : w.rowIs b t n (fun i => if i < j then .int .u64 ((f i : Nat) : Int) else .int .u64 0)) :
    (w.setCell ⟨b, j, none⟩ (.int .u64 ((f j : Nat) : Int))).rowIs b t n (fun i => if i < j + 1 then .int .u64 ((f i : Nat) : Int) else .int .u64 0) := by
  refine (h.set j _).congr (fun i hi => ?_)
  by_cases e : i = j
  · subst e; simp
  · by_cases e2 : i < j
    · simp [e, e2, show i < j + 1 by omega]
    · simp [e, e2, show ¬ i < j + 1 by omega]

set_option maxRecDepth 100000 in
set_option maxHeartbeats 4000000 in
theorem cs_nil {B : Nat} {w : World} {b : Nat} {hs locs : Nat → Nat} {k : Nat} {x : Ix} (h : GO hs locs B b k x w) (h0 : x.om = 0) (hBs : B ≤ w.heap.size) :
    Calls Try.prog 38 #[.pointer (some ⟨b, 0, none⟩)] w fun e w' => e = .returned (.bool true) ∧ Below w.heap.size w w' := by
  obtain ⟨pb, ob, hb1, hb2, _, hI⟩ := h.ix
  have hsz : x.sz ≤ 16384 := by have := h.core.sz_le; omega
  have hszI : (x.sz : Int) ≤ 16384 := by omega
  have hd1 : decide ((16384 : Int) < (x.sz : Int)) = false := decide_eq_false (by omega)
  have HI : Hid (IxAt w b pb ob x) := hI
  have H0 : Hid (x.om = 0) := h0
  clear h hI h0 hb1 hb2
  have hmk := run_make_row' (P := Try.prog) 22 33 (.int .u64 0) 8 Try.underlying22 Try.info33 rfl .i64 .i64 x.sz (by omega) (by omega)
  go_enter Try.func38, Try.ntmps38
  go_wp2_with fail
  refine (zzLen HI.out).mono ?_
  rintro e w1 ⟨rfl, rfl⟩
  go_wp2_with fail
  refine (zzHasOld HI.out).mono ?_
  rintro e w2 ⟨rfl, rfl⟩
  rw [hasOld_false H0.out]
  go_wp2_with fail
  refine (zzN HI.out).mono ?_
  rintro e w3 ⟨rfl, rfl⟩
  go_wp2_with fail
  refine (zzNext HI.out).mono ?_
  rintro e w4 ⟨rfl, rfl⟩
  go_wp2_with fail
  clear hmk
  have HR1 : Hid (((w4.alloc (.cells (madeCells #[.int .u64 0] x.sz) 33)).alloc (.cells (madeCells #[.int .u64 0] x.sz) 33)).rowIs w4.heap.size 33 x.sz (fun _ => .int .u64 0)) := (World.rowIs_made w4 (.int .u64 0) x.sz 33).alloc _
  have HR2 : Hid (((w4.alloc (.cells (madeCells #[.int .u64 0] x.sz) 33)).alloc (.cells (madeCells #[.int .u64 0] x.sz) 33)).rowIs (w4.heap.size + 1) 33 x.sz (fun _ => .int .u64 0)) := by
    have := World.rowIs_made (w4.alloc (.cells (madeCells #[.int .u64 0] x.sz) 33)) (.int .u64 0) x.sz 33
    rw [World.size_alloc] at this; exact this
  have HB0 : Hid (Below w4.heap.size w4 ((w4.alloc (.cells (madeCells #[.int .u64 0] x.sz) 33)).alloc (.cells (madeCells #[.int .u64 0] x.sz) 33))) := ((Below.refl _ _).alloc (Nat.le_refl _) _).alloc (by simp) _
  generalize hn0 : w4.heap.size = n0 at *
  have HN0 : Hid (w4.heap.size = n0) := hn0
  clear hn0
  generalize (w4.alloc (.cells (madeCells #[.int .u64 0] x.sz) 33)).alloc (.cells (madeCells #[.int .u64 0] x.sz) 33) = w5 at *
  go_loopw [8] (fun v wr => ∃ j : Nat, j ≤ x.sz ∧ v = .int .i64 j ∧ Hid (Below n0 w4 wr) ∧ Hid (wr.rowIs n0 33 x.sz (fun i => if i < j then .int .u64 (((x.P i).1 : Nat) : Int) else .int .u64 0)) ∧ Hid (wr.rowIs (n0 + 1) 33 x.sz (fun i => if i < j then .int .u64 (((x.P i).2 : Nat) : Int) else .int .u64 0))) (fun v _ => x.sz - (intOf v).toNat)
  case atStart => exact ⟨0, Nat.zero_le _, rfl, HB0, HR1.out.congr (fun i _ => by simp), HR2.out.congr (fun i _ => by simp)⟩
  case round =>
    obtain ⟨j, hj, rfl, hB, hr1, hr2⟩ := hrel
    clear HR1 HR2 HB0
    have HIr : Hid (IxAt wr b pb ob x) := HI.out.ext (by rw [HN0.out]; exact hB.out)
    by_cases hlt : j < x.sz
    · have hltI : (j : Int) < (x.sz : Int) := by omega
      go_wp2_with fail
      refine (zzPlaceAt HIr.out j hlt hsz).mono ?_
      rintro e w6 ⟨rfl, hb6⟩
      have HB6 : Hid (Below n0 w4 w6) := hB.out.trans (hb6.mono (by have := hB.out.size; rw [HN0.out] at this; exact this))
      have q1 := rowIs_ext hr1.out hb6
      have q2 := rowIs_ext hr2.out hb6
      have Q1 : Hid ((w6.setCell ⟨n0, j, none⟩ (.int .u64 (((x.P j).1 : Nat) : Int))).setCell ⟨n0 + 1, j, none⟩ (.int .u64 (((x.P j).2 : Nat) : Int)) |>.rowIs n0 33 x.sz (fun i => if i < j + 1 then .int .u64 (((x.P i).1 : Nat) : Int) else .int .u64 0)) :=
        (rowIs_fill (f := fun i => (x.P i).1) q1).setOther (by show n0 ≠ n0 + 1; omega) _
      have Q2 : Hid ((w6.setCell ⟨n0, j, none⟩ (.int .u64 (((x.P j).1 : Nat) : Int))).setCell ⟨n0 + 1, j, none⟩ (.int .u64 (((x.P j).2 : Nat) : Int)) |>.rowIs (n0 + 1) 33 x.sz (fun i => if i < j + 1 then .int .u64 (((x.P i).2 : Nat) : Int) else .int .u64 0)) :=
        rowIs_fill (f := fun i => (x.P i).2) (q2.setOther (by show n0 + 1 ≠ n0; omega) _)
      have QB : Hid (Below n0 w4 ((w6.setCell ⟨n0, j, none⟩ (.int .u64 (((x.P j).1 : Nat) : Int))).setCell ⟨n0 + 1, j, none⟩ (.int .u64 (((x.P j).2 : Nat) : Int)))) :=
        (HB6.out.setCell (Nat.le_refl _) _).setCell (Nat.le_succ _) _
      have d1 := q1.cell hlt
      have d2 := q2.cell hlt
      have z1 := q1.frozen j
      have z2 := q2.frozen j
      simp only [Nat.lt_irrefl, if_false] at d1 d2
      clear q1 q2 hb6 hr1 hr2 hB
      generalize (x.P j).1 = ph at *
      generalize (x.P j).2 = pl at *
      go_wp2
      go_roundw
      case rel => exact ⟨j + 1, by omega, by go_num, QB, Q1, Q2⟩
      case measure => simp [intOf]; omega
    · have hje : j = x.sz := by omega
      have R1 : Hid (wr.rowIs n0 33 x.sz (fun i => .int .u64 (((x.P i).1 : Nat) : Int))) := hr1.out.congr (fun i hi => by simp [show i < j by omega])
      have R2 : Hid (wr.rowIs (n0 + 1) 33 x.sz (fun i => .int .u64 (((x.P i).2 : Nat) : Int))) := hr2.out.congr (fun i hi => by simp [show i < j by omega])
      have hge : ¬ (j : Int) < (x.sz : Int) := by omega
      clear hr1 hr2 hje
      go_wp2_with fail
      refine (zzStep_of (R := fun w' => w' = wr) (step_nil HIr.out H0.out)).mono ?_
      rintro e w6 ⟨rfl, hw6⟩
      subst hw6
      go_wp2_with fail
      refine (zzHasOld HIr.out).mono ?_
      rintro e w6 ⟨rfl, rfl⟩
      rw [hasOld_false H0.out]
      go_wp2_with fail
      refine (zzN HIr.out).mono ?_
      rintro e w7 ⟨rfl, rfl⟩
      go_wp2_with fail
      refine (zzLen HIr.out).mono ?_
      rintro e w8 ⟨rfl, rfl⟩
      go_wp2_with fail
      refine (zzNext HIr.out).mono ?_
      rintro e w9 ⟨rfl, rfl⟩
      go_wp2_with fail
      go_loopw [11] (fun v wr => ∃ j : Nat, j ≤ x.sz ∧ v = .int .i64 j ∧ Hid (Below w9.heap.size w9 wr)) (fun v _ => x.sz - (intOf v).toNat)
      case atStart => exact ⟨0, Nat.zero_le _, rfl, Below.refl _ _⟩
      case round =>
        obtain ⟨t, ht, rfl, hBt⟩ := hrel
        have HIt : Hid (IxAt wr b pb ob x) := HIr.out.ext hBt.out
        by_cases htl : t < x.sz
        · have htI : (t : Int) < (x.sz : Int) := by omega
          go_wp2_with fail
          refine (zzPlaceAt HIt.out t htl hsz).mono ?_
          rintro e w10 ⟨rfl, hb10⟩
          have HB10 : Hid (Below w9.heap.size w9 w10) := hBt.out.trans (hb10.mono hBt.out.size)
          have d1 := (rowIs_ext R1.out HB10.out).cell htl
          have d2 := (rowIs_ext R2.out HB10.out).cell htl
          clear hb10
          generalize (x.P t).1 = ph at *
          generalize (x.P t).2 = pl at *
          go_wp2
          go_roundw
          case rel => exact ⟨t + 1, by omega, by go_num, HB10⟩
          case measure => simp [intOf]; omega
        · go_wp2
          go_ret
          exact ⟨rfl, by rw [HN0.out]; exact hB.out.trans (hBt.out.mono (by have := hB.out.size; rw [HN0.out] at this; exact this))⟩

end Go.Proofs.Qxb6601018a
