/-
  zzbLightest and zzbHuffmanDepths: the plain selection.
-/
import Derived.Test.Qxb6601576aHuff
import Derived.Test.Qxb6601576aClone
import Derived.Test.Qxb6601576aDepP
set_option linter.unusedVariables false
namespace Go.Proofs.Qxb6601576a
open Go.RowKit

/-- n bools in block blk -/
structure BoolAt (w : World) (blk n : Nat) (A : Nat → Bool) : Prop where
  lt : blk < w.heap.size
  cell : ∀ t, t < n → w.cell? ⟨blk, t, none⟩ = some (.bool (A t))
  fz : ∀ t, t < n → w.frozen? ⟨blk, t, none⟩ = false

namespace BoolAt
variable {w w' : World} {blk n : Nat} {A : Nat → Bool}
theorem of_block (h : BoolAt w blk n A) (hl : blk < w'.heap.size) (e : w'.heap[blk]? = w.heap[blk]?) : BoolAt w' blk n A :=
  ⟨hl, fun t ht => by rw [← h.cell t ht]; simp [World.cell?, e], fun t ht => by rw [← h.fz t ht]; simp [World.frozen?, e]⟩
theorem fr {S : List Nat} (h : BoolAt w blk n A) (hf : Fr S w w') (hn : blk ∉ S) : BoolAt w' blk n A := h.of_block (Nat.lt_of_lt_of_le h.lt hf.size) (hf.block _ h.lt hn)
theorem ext (h : BoolAt w blk n A) (hb : Below w.heap.size w w') : BoolAt w' blk n A := h.of_block (Nat.lt_of_lt_of_le h.lt hb.size) (hb.block _ h.lt)
theorem setOther (h : BoolAt w blk n A) {a : Addr} (ha : blk ≠ a.block) (v : Value) : BoolAt (w.setCell a v) blk n A := h.of_block (by have := h.lt; simpa [World.setCell] using this) (Below.heap_setCell _ _ _ _ ha)
theorem set (h : BoolAt w blk n A) (i : Nat) (x : Bool) : BoolAt (w.setCell ⟨blk, i, none⟩ (.bool x)) blk n (fun t => if t = i then x else A t) := by
  refine ⟨by have := h.lt; simpa [World.setCell] using this, fun t ht => ?_, fun t ht => ?_⟩
  · by_cases e : t = i
    · subst e; rw [World.cell?_setCell_same _ _ _ (h.cell t ht)]; simp
    · rw [World.cell?_setCell_other _ _ _ _ (fun hh => e (by injection hh with _ h2; exact h2.symm)), h.cell t ht, if_neg e]
  · rw [RowAt.frozen_set]; exact h.fz t ht
theorem congr {A' : Nat → Bool} (h : BoolAt w blk n A) (e : ∀ t, t < n → A t = A' t) : BoolAt w blk n A' :=
  ⟨h.lt, fun t ht => by rw [← e t ht]; exact h.cell t ht, h.fz⟩
end BoolAt

theorem Try.cells66 : Try.prog.cellsOf 66 = 516 := by kernel_rfl
theorem Try.cells22 : Try.prog.cellsOf 22 = 258 := by kernel_rfl
theorem zero66 (u : World) : (zeroValue 66).run Try.prog u = .ok (.agg (Array.replicate 516 (.bool false))) u := by kernel_rfl
theorem zero22 (u : World) : (zeroValue 22).run Try.prog u = .ok (.agg (Array.replicate 258 (.int .i64 0))) u := by kernel_rfl
theorem z66 : ∃ Z : Array Value, Z = Array.replicate 516 (.bool false) ∧ ∀ u, (zeroValue 66).run Try.prog u = .ok (.agg Z) u := ⟨_, rfl, zero66⟩
theorem z22 : ∃ Z : Array Value, Z = Array.replicate 258 (.int .i64 0) ∧ ∀ u, (zeroValue 22).run Try.prog u = .ok (.agg Z) u := ⟨_, rfl, zero22⟩

theorem bools_fresh {u : World} {N t : Nat} {Z : Array Value} (hZ : Z = Array.replicate N (.bool false)) : BoolAt (u.alloc (.cells Z t)) u.heap.size N (fun _ => false) := by
  subst hZ
  have hb : (u.alloc (Obj.cells (Array.replicate N (.bool false)) t)).heap[u.heap.size]? = some (Obj.cells (Array.replicate N (.bool false)) t) := by
    show (u.heap.push _)[u.heap.size]? = _
    rw [Array.getElem?_push]; simp
  refine ⟨by simp, fun s hs => ?_, fun s hs => ?_⟩
  · unfold World.cell?
    rw [hb]
    simp [hs]
  · unfold World.frozen?
    rw [hb]
    simp

def Light33 (w w' : World) (W : Row) (A : Nat → Bool) (m : Nat) (e : Ending) : Prop := ∃ v : Int, e = .returned (.int .i64 v) ∧ BestR W A m v ∧ Below w.heap.size w w'

def Best2 (v7 v8 : Value) (w wr : World) (W : Row) (A : Nat → Bool) (m : Nat) : Prop := ∃ (v : Int) (i : Nat), v7 = .int .i64 v ∧ v8 = .int .i64 i ∧ i ≤ m ∧ BestR W A i v ∧ Below w.heap.size w wr

set_option maxHeartbeats 8000000 in
theorem lightest33 (wb ab m : Nat) (W : Row) (A : Nat → Bool) (w : World) (hW : RowAt .i64 w wb 0 516 W) (hA : BoolAt w ab 516 A) (hm : m ≤ 516) :
    Calls Try.prog 33 #[.pointer (some ⟨wb, 0, none⟩), .pointer (some ⟨ab, 0, none⟩), .int .i64 (m : Int)] w fun e w' => Light33 w w' W A m e := by
  have HW : Hid (RowAt .i64 w wb 0 516 W) := hW
  have HA : Hid (BoolAt w ab 516 A) := hA
  clear hW hA
  go_enter Try.func33, Try.ntmps33
  go_wp2_with fail
  go_loopw [7, 8] (fun v7 v8 wr => Best2 v7 v8 w wr W A m) (fun _ v8 _ => m - (intOf v8).toNat)
  case atStart => exact ⟨-1, 0, rfl, rfl, Nat.zero_le _, BestR.start _ _, Below.refl _ _⟩
  case round =>
    obtain ⟨v, i, rfl, rfl, him, hB, hbel⟩ := hrel
    by_cases hlt : i < m
    · have hlti : (i : Int) < m := by omega
      have ca := (HA.out.ext hbel).cell i (by omega)
      have cw := (HW.out.ext hbel).cell0 (t := i) (by omega)
      have HB : Hid (BestR W A i v) := hB
      have HBEL : Hid (Below w.heap.size w wr) := hbel
      cases hAi : A i with
      | false =>
        rw [hAi] at ca
        have HN : Hid (BestR W A (i + 1) v) := hB.dead hAi
        clear hB hbel
        go_wp2_with fail
        go_big_quiet (fail)
        go_wp2_with fail
        go_roundw
        case rel => exact ⟨v, i + 1, rfl, by go_num, by omega, HN.out, HBEL.out.trans ((below_drewN' nq).mono HBEL.out.size)⟩
        case measure => simp [intOf]; omega
      | true =>
        rw [hAi] at ca
        rcases hB with ⟨rfl, hnone⟩ | ⟨b, rfl, hbi, hAb, hl⟩
        · have HN : Hid (BestR W A (i + 1) i) := HB.out.firstOne hAi
          clear hnone hbel
          go_wp2_with fail
          go_big_quiet (fail)
          go_wp2_with fail
          go_roundw
          case rel => exact ⟨i, i + 1, rfl, by go_num, by omega, HN.out, HBEL.out.trans ((below_drewN' nq).mono HBEL.out.size)⟩
          case measure => simp [intOf]; omega
        · have cb := (HW.out.ext hbel).cell0 (t := b) (by omega)
          have hb0 : decide ((b : Int) < 0) = false := decide_eq_false (by omega)
          clear hAb hl hbel
          by_cases hw : W i < W b
          · have HN : Hid (BestR W A (i + 1) i) := HB.out.better hAi hw
            go_wp2_with fail
            go_big_quiet (fail)
            go_wp2_with fail
            go_roundw
            case rel => exact ⟨i, i + 1, rfl, by go_num, by omega, HN.out, HBEL.out.trans ((below_drewN' nq).mono HBEL.out.size)⟩
            case measure => simp [intOf]; omega
          · have HN : Hid (BestR W A (i + 1) b) := HB.out.worse hAi hw
            go_wp2_with fail
            go_big_quiet (fail)
            go_wp2_with fail
            go_roundw
            case rel => exact ⟨b, i + 1, rfl, by go_num, by omega, HN.out, HBEL.out.trans ((below_drewN' nq).mono HBEL.out.size)⟩
            case measure => simp [intOf]; omega
    · have : m = i := by omega
      subst this
      have hlti : ¬ (m : Int) < m := by omega
      have HB : Hid (BestR W A m v) := hB
      have HBEL : Hid (Below w.heap.size w wr) := hbel
      clear hB hbel
      go_wp2_with fail
      go_ret
      exact ⟨v, rfl, HB.out, HBEL.out⟩

/-- the memory of zzbHuffmanDepths -/
structure DMem (w wr : World) (W P : Row) (A : Nat → Bool) : Prop where
  weight : RowAt .i64 wr w.heap.size 0 516 W
  parent : RowAt .i64 wr (w.heap.size + 1) 0 516 P
  alive : BoolAt wr (w.heap.size + 2) 516 A
  below : Below w.heap.size w wr

namespace DMem
variable {w wr wr' : World} {W P : Row} {A : Nat → Bool}
theorem setW (h : DMem w wr W P A) (t : Nat) (x : Int) : DMem w (wr.setCell ⟨w.heap.size, t, none⟩ (.int .i64 x)) (fun s => if s = t then x else W s) P A := by
  have hw := h.weight.set t x
  rw [Nat.zero_add] at hw
  exact ⟨hw, h.parent.setOther (by simp) _, h.alive.setOther (by simp) _, h.below.setCell (by simp) _⟩
theorem setP (h : DMem w wr W P A) (t : Nat) (x : Int) : DMem w (wr.setCell ⟨w.heap.size + 1, t, none⟩ (.int .i64 x)) W (fun s => if s = t then x else P s) A := by
  have hw := h.parent.set t x
  rw [Nat.zero_add] at hw
  exact ⟨h.weight.setOther (by simp) _, hw, h.alive.setOther (by simp) _, h.below.setCell (by simp) _⟩
theorem setA (h : DMem w wr W P A) (t : Nat) (x : Bool) : DMem w (wr.setCell ⟨w.heap.size + 2, t, none⟩ (.bool x)) W P (fun s => if s = t then x else A s) :=
  ⟨h.weight.setOther (by simp) _, h.parent.setOther (by simp) _, h.alive.set t x, h.below.setCell (by simp) _⟩
theorem ext (h : DMem w wr W P A) (hb : Below wr.heap.size wr wr') : DMem w wr' W P A :=
  ⟨h.weight.ext hb, h.parent.ext hb, h.alive.ext hb, h.below.trans (hb.mono h.below.size)⟩
theorem drew (h : DMem w wr W P A) : DMem w wr.drew W P A := ⟨h.weight.drew, h.parent.drew, ⟨h.alive.lt, h.alive.cell, h.alive.fz⟩, h.below.drew⟩
theorem congr {W' P' : Row} {A' : Nat → Bool} (h : DMem w wr W P A) (e1 : ∀ t, t < 516 → W t = W' t) (e2 : ∀ t, t < 516 → P t = P' t) (e3 : ∀ t, t < 516 → A t = A' t) : DMem w wr W' P' A' :=
  ⟨h.weight.congr e1, h.parent.congr e2, h.alive.congr e3, h.below⟩
end DMem

theorem dmem_start {w : World} {Z65 Z66 : Array Value} (e65 : Z65 = Array.replicate 516 (.int .i64 0)) (e66 : Z66 = Array.replicate 516 (.bool false)) :
    DMem w (((w.alloc (.cells Z65 65)).alloc (.cells Z65 65)).alloc (.cells Z66 66)) (fun _ => 0) (fun _ => 0) (fun _ => false) := by
  refine ⟨?_, ?_, ?_, (((Below.refl _ _).alloc (Nat.le_refl _) _).alloc (by simp) _).alloc (by simp; omega) _⟩
  · exact ((row_fresh (u := w) (t := 65) e65).alloc _).alloc _
  · have := row_fresh (u := w.alloc (.cells Z65 65)) (t := 65) e65
    exact (show RowAt .i64 _ (w.heap.size + 1) 0 516 _ by simpa using this).alloc _
  · have := bools_fresh (u := (w.alloc (.cells Z65 65)).alloc (.cells Z65 65)) (t := 66) e66
    simpa using this

theorem dmem_next {w wr : World} {n s : Nat} {wt : Row} (h : DMem w wr (fun t => if t < s then wt t else 0) (fun _ => 0) (fun t => decide (t < s))) :
    DMem w ((wr.setCell ⟨w.heap.size, s, none⟩ (.int .i64 (wt s))).setCell ⟨w.heap.size + 2, s, none⟩ (.bool true)) (fun t => if t < s + 1 then wt t else 0) (fun _ => 0) (fun t => decide (t < s + 1)) := by
  refine ((h.setW s (wt s)).setA s true).congr (fun t _ => ?_) (fun _ _ => rfl) (fun t _ => ?_)
  · by_cases e : t = s
    · subst e; simp
    · by_cases e2 : t < s
      · rw [if_neg e, if_pos e2, if_pos (by omega)]
      · rw [if_neg e, if_neg e2, if_neg (by omega)]
  · by_cases e : t = s
    · subst e; simp
    · by_cases e2 : t < s
      · rw [if_neg e, decide_eq_true e2, decide_eq_true (by omega)]
      · rw [if_neg e, decide_eq_false e2, decide_eq_false (by omega)]

/-- the state of the selection's loop -/
def DLoop (w wr : World) (n m : Nat) (wt : Row) : Prop := ∃ (T : Nat → Nat) (W P : Row) (A : Nat → Bool), DMem w wr W P A ∧ PSel n wt T m W P A

/-- behind s depths -/
def DFin (w wr : World) (db n s : Nat) (P : Row) (d : Nat → Nat) : Prop :=
  ∃ D' : Row, RowAt .i64 wr (w.heap.size + 1) 0 516 P ∧ RowAt .i64 wr db 0 258 D' ∧ (∀ t, t < s → D' t = d t) ∧ Fr [db] w wr

theorem DFin.next {w wr : World} {db n s : Nat} {P : Row} {d : Nat → Nat} (h : DFin w wr db n s P d) (hdb : db < w.heap.size) : DFin w (wr.setCell ⟨db, s, none⟩ (.int .i64 (d s))) db n (s + 1) P d := by
  obtain ⟨D', h1, h2, h3, h4⟩ := h
  have hw := h2.set s (d s)
  rw [Nat.zero_add] at hw
  refine ⟨_, h1.setOther (by simp; omega) _, hw, fun t ht => ?_, h4.setCell (.inl (by simp)) _⟩
  by_cases e : t = s
  · subst e; simp
  · simp only [if_neg e]; exact h3 t (by omega)

def DepAns (w w' : World) (db n : Nat) (d : Nat → Nat) : Prop := ∃ D' : Row, RowAt .i64 w' db 0 258 D' ∧ (∀ t, t < n → D' t = d t) ∧ Fr [db] w w'

set_option maxRecDepth 100000 in
set_option maxHeartbeats 16000000 in
theorem depths27 (wblk woff wcap db n : Nat) (wt D W0 : Row) (T0 d : Nat → Nat) (w : World) (hW : RowAt .i64 w wblk woff n wt) (hD : RowAt .i64 w db 0 258 D) (hne : wblk ≠ db) (hn : n ≤ 258) (hn1 : 1 ≤ n)
    (hw : ∀ q, q < n → 1 ≤ wt q ∧ wt q ≤ 4194304) (hT : TreeT n wt T0 W0 d) :
    Calls Try.prog 27 #[.slice (some ⟨wblk, woff, none⟩) n wcap, .pointer (some ⟨db, 0, none⟩)] w fun e w' => e = .returned (.tuple #[]) ∧ DepAns w w' db n d := by
  go_enter Try.func27, Try.ntmps27
  have HW : Hid (RowAt .i64 w wblk woff n wt) := hW
  have HD : Hid (RowAt .i64 w db 0 258 D) := hD
  have HWT : Hid (∀ q, q < n → 1 ≤ wt q ∧ wt q ≤ 4194304) := hw
  have HT : Hid (TreeT n wt T0 W0 d) := hT
  have hwl := hW.lt
  have hdl := hD.lt
  clear hW hD hw hT
  obtain ⟨Z66, eZ66, hZ66⟩ := z66
  obtain ⟨Z65, eZ65, hZ65⟩ := z65
  have EZ65 : Hid _ := eZ65
  have EZ66 : Hid _ := eZ66
  clear eZ65 eZ66
  go_upto_region 4 with fail
  generalize hw1 : World.alloc _ _ = w1
  have HB1 : Hid (DMem w w1 (fun t => if t < 0 then wt t else 0) (fun _ => 0) (fun t => decide (t < 0))) := by
    rw [← hw1]
    exact (dmem_start EZ65.out EZ66.out).congr (fun _ _ => by simp) (fun _ _ => rfl) (fun _ _ => by simp)
  clear hw1
  go_wp2_with fail
  go_loopw [8] (fun v wr => ∃ s : Nat, v = .int .i64 s ∧ s ≤ n ∧ DMem w wr (fun t => if t < s then wt t else 0) (fun _ => 0) (fun t => decide (t < s))) (fun v _ => n - (intOf v).toNat)
  case atStart => exact ⟨0, rfl, by omega, HB1.out⟩
  case round =>
    obtain ⟨s, rfl, hsn, hS1⟩ := hrel
    clear HB1
    have HS1 : Hid (DMem w wr (fun t => if t < s then wt t else 0) (fun _ => 0) (fun t => decide (t < s))) := hS1
    by_cases hs : s < n
    · have hsi : (s : Int) < n := by omega
      have cw := (HW.out.below hS1.below hwl).cell s hs
      have cl := hS1.weight.cell0 (t := s) (by omega)
      have fl := hS1.weight.fz0 (t := s) (by omega)
      have ca := hS1.alive.cell s (by omega)
      have fa := hS1.alive.fz s (by omega)
      have HNX := dmem_next (n := n) hS1
      have HNX' : Hid _ := HNX
      clear HNX hS1
      go_wp2_with fail
      go_roundw
      case rel => exact ⟨s + 1, by go_num, by omega, HNX'.out⟩
      case measure => simp [intOf]; omega
    · have hsi : ¬ (s : Int) < n := by omega
      have hsn2 : n = s := by omega
      subst hsn2
      have HM0 : Hid (DLoop w wr n n wt) := ⟨_, _, _, _, hS1, psel_start (fun s hs => (HWT.out s hs).1) (fun s hs => if_pos hs) (fun s hs => decide_eq_true hs)⟩
      clear hS1 HS1
      have hsum : sumTo wt n ≤ 1082130432 := by
        have h1 := sumTo_le (g := wt) (k := n) (B := 4194304) (fun t ht => (HWT.out t ht).2)
        omega
      have HSUM : Hid _ := hsum
      clear hsum
      go_wp2_with fail
      go_loopw [9, 10] (fun v9 v10 wr => ∃ m : Nat, v9 = .int .i64 m ∧ v10 = .int .i64 (2 * (n : Int) - m) ∧ n ≤ m ∧ m < 2 * n ∧ DLoop w wr n m wt) (fun _ v10 _ => (intOf v10).toNat)
      case atStart => exact ⟨n, rfl, by rw [show 2 * (n : Int) - n = n by omega], by omega, by omega, HM0.out⟩
      case round =>
        obtain ⟨m, rfl, rfl, hnm, hm2, T, W, P, A, hM, hP⟩ := hrel
        clear HM0
        have HM : Hid (DMem w wr W P A) := hM
        have HP : Hid (PSel n wt T m W P A) := hP
        clear hM hP
        by_cases hm1 : m + 1 < 2 * n
        · have hci : 1 < 2 * (n : Int) - m := by omega
          go_wp2_with fail
          refine (lightest33 w.heap.size (w.heap.size + 2) m W A wr HM.out.weight HM.out.alive (by omega)).mono ?_
          rintro e w5 ⟨v, rfl, hbest, hb5⟩
          obtain ⟨x, rfl, hxm, hsel1, hal1⟩ := take_best HP.out.sel HP.out.alive (by omega) (by omega) hbest
          have HSEL1 : Hid (Sel n wt (upT T (2 * (m - n)) x) W m (2 * (m - n) + 1)) := hsel1
          have HAL1 : Hid (Alive (upT T (2 * (m - n)) x) m (2 * (m - n) + 1) (fun y => if y = x then false else A y)) := hal1
          have hM5 := HM.out.ext hb5
          have ca := hM5.alive.cell x (by omega)
          have fa := hM5.alive.fz x (by omega)
          have HM6 : Hid (DMem w (w5.setCell ⟨w.heap.size + 2, x, none⟩ (.bool false)) W P (fun y => if y = x then false else A y)) := hM5.setA x false
          clear hbest hb5 hsel1 hal1 hM5
          go_wp2_with fail
          generalize hw6 : World.setCell _ _ _ = w6
          rw [hw6] at HM6
          clear hw6 ca fa HM
          refine (lightest33 w.heap.size (w.heap.size + 2) m W (fun y => if y = x then false else A y) w6 HM6.out.weight HM6.out.alive (by omega)).mono ?_
          rintro e w7 ⟨v, rfl, hbest, hb7⟩
          obtain ⟨y, rfl, hym, hsel2, hal2⟩ := take_best HSEL1.out HAL1.out (by omega) (by omega) hbest
          have HP2 : Hid (PTwo n wt T m x y W A) := ⟨hsel2, hal2⟩
          have hM7 := HM6.out.ext hb7
          have ca := hM7.alive.cell y (by omega)
          have fa := hM7.alive.fz y (by omega)
          obtain ⟨_, _, hxy, htot, hpx, hpy⟩ := HP2.out.lt
          have hM8 : DMem w (w7.setCell ⟨w.heap.size + 2, y, none⟩ (.bool false)) W P (fun z => if z = y then false else if z = x then false else A z) := hM7.setA y false
          clear hbest hb7 hsel2 hal2 hM7
          have hsm := HSUM.out
          have cx := hM8.weight.cell0 (t := x) (by omega)
          have cy := hM8.weight.cell0 (t := y) (by omega)
          have cmm := hM8.weight.cell0 (t := m) (by omega)
          have fmm := hM8.weight.fz0 (t := m) (by omega)
          go_upto_region 16 with fail
          generalize hw8 : World.setCell _ _ _ = w8
          rw [hw8] at hM8 cx cy cmm fmm
          have HM8 : Hid (DMem w w8 W P (fun z => if z = y then false else if z = x then false else A z)) := hM8
          clear hM8 hw8 ca fa
          go_region
          generalize hw9 : World.drew _ = w9
          have hM9 : DMem w w9 (fun t => if t = m then W x + W y else W t) P (fun z => if z = y then false else if z = x then false else A z) := by
            rw [← hw9]; exact (HM8.out.setW m _).drew
          clear hw9 cx cy cmm fmm HM8
          have px := hM9.parent.cell0 (t := x) (by omega)
          have fpx := hM9.parent.fz0 (t := x) (by omega)
          have py := hM9.parent.cell0 (t := y) (by omega)
          have fpy := hM9.parent.fz0 (t := y) (by omega)
          have ca := hM9.alive.cell m (by omega)
          have fa := hM9.alive.fz m (by omega)
          have HNX : Hid (DLoop w (((w9.setCell ⟨w.heap.size + 1, x, none⟩ (.int .i64 m)).setCell ⟨w.heap.size + 1, y, none⟩ (.int .i64 m)).setCell ⟨w.heap.size + 2, m, none⟩ (.bool true)) n (m + 1) wt) :=
            ⟨_, _, _, _, ((hM9.setP x m).setP y m).setA m true, psel_step HP.out HP2.out⟩
          clear hM9
          go_wp2_with fail
          go_roundw
          case rel => exact ⟨m + 1, by go_num, by rw [show 2 * (n : Int) - m - 1 = 2 * (n : Int) - ((m + 1 : Nat) : Int) by omega], by omega, by omega, HNX.out⟩
          case measure => simp [intOf]; omega
        · have hme : m = 2 * n - 1 := by omega
          subst hme
          have hci : ¬ 1 < 2 * (n : Int) - ((2 * n - 1 : Nat) : Int) := by omega
          have hend := psel_end HP.out HT.out hn1
          have HEND : Hid _ := hend
          have HF0 : Hid (DFin w wr db n 0 P d) := ⟨D, HM.out.parent, HD.out.below HM.out.below hdl, fun t ht => by omega, Fr.of_below HM.out.below⟩
          clear hend HM
          have h2n : ((2 * n - 1 : Nat) : Int) = 2 * (n : Int) - 1 := by omega
          rw [h2n] at hci ⊢
          go_wp2_with fail
          go_loopw [14] (fun v wr => ∃ s : Nat, v = .int .i64 s ∧ s ≤ n ∧ DFin w wr db n s P d) (fun v _ => n - (intOf v).toNat)
          case atStart => exact ⟨0, rfl, Nat.zero_le _, HF0.out⟩
          case round =>
            obtain ⟨s, rfl, hsn, hF⟩ := hrel
            clear HF0
            have HF : Hid (DFin w wr db n s P d) := hF
            clear hF
            by_cases hs : s < n
            · have hsi : (s : Int) < n := by omega
              have HNX : Hid (DFin w (wr.setCell ⟨db, s, none⟩ (.int .i64 (d s))) db n (s + 1) P d) := HF.out.next hdl
              obtain ⟨D', hp, ho, _, _⟩ := HF.out
              have co := ho.cell0 (t := s) (by omega)
              have fo := ho.fz0 (t := s) (by omega)
              have HPP : Hid (RowAt .i64 wr (w.heap.size + 1) 0 516 P) := hp
              clear hp ho
              go_wp2_with fail
              go_loop [15, 16] (fun v15 v16 => ∃ k x : Nat, v15 = .int .i64 k ∧ v16 = .int .i64 x ∧ x ≤ 2 * n - 2 ∧ k + d x = d s) (fun _ v16 => 2 * n - 2 - (intOf v16).toNat)
              case atStart => exact ⟨0, s, rfl, rfl, by omega, by omega⟩
              case round =>
                obtain ⟨k, x, rfl, rfl, hx, hk⟩ := hrel
                by_cases hxr : x = 2 * n - 2
                · have hd0 := HT.out.root
                  have hks : k = d s := by rw [hxr] at hk; omega
                  subst hks
                  have hxi : (x : Int) = 2 * (n : Int) - 1 - 1 := by omega
                  rw [hxi]
                  go_wp2_with fail
                  go_roundw
                  case rel => exact ⟨s + 1, by go_num, by omega, HNX.out⟩
                  case measure => simp [intOf]; omega
                · obtain ⟨p, ep, hp1, hp2, hp3⟩ := HEND.out x (by omega)
                  have hxi : ¬ (x : Int) = 2 * (n : Int) - 1 - 1 := by omega
                  have cp := HPP.out.cell0 (t := x) (by omega)
                  rw [ep] at cp
                  have hbd := (HT.out.bounds (by omega) hs).2
                  go_wp2_with fail
                  go_round
                  case rel => exact ⟨k + 1, p, by go_num, rfl, by omega, by omega⟩
                  case measure => simp [intOf]; omega
            · have hsi : ¬ (s : Int) < n := by omega
              have hsn2 : n = s := by omega
              subst hsn2
              go_wp2_with fail
              go_end0
              obtain ⟨D', _, h2, h3, h4⟩ := HF.out
              exact ⟨rfl, D', h2, h3, h4⟩

set_option maxRecDepth 100000 in
set_option maxHeartbeats 4000000 in
theorem depths0 (a : Option Addr) (c db : Nat) (w : World) : Calls Try.prog 27 #[.slice a 0 c, .pointer (some ⟨db, 0, none⟩)] w fun e w' => e = .returned (.tuple #[]) ∧ Below w.heap.size w w' := by
  go_enter Try.func27, Try.ntmps27
  obtain ⟨Z66, eZ66, hZ66⟩ := z66
  obtain ⟨Z65, eZ65, hZ65⟩ := z65
  clear eZ65 eZ66
  go_upto_region 4 with fail
  generalize hw1 : World.alloc _ _ = w1
  have HB1 : Hid (Below w.heap.size w w1) := by
    rw [← hw1]
    exact (((Below.refl _ _).alloc (Nat.le_refl _) _).alloc (by simp) _).alloc (by simp; omega) _
  clear hw1
  go_wp2_with fail
  go_loop [8] (fun v => v = .int .i64 0) (fun _ => 0)
  case atStart => rfl
  case round =>
    subst hrel
    go_wp2_with fail
    go_loop [9, 10] (fun v9 v10 => v9 = .int .i64 0 ∧ v10 = .int .i64 0) (fun _ _ => 0)
    case atStart => exact ⟨rfl, rfl⟩
    case round =>
      obtain ⟨rfl, rfl⟩ := hrel
      go_wp2_with fail
      go_loop [14] (fun v => v = .int .i64 0) (fun _ => 0)
      case atStart => rfl
      case round =>
        subst hrel
        go_wp2_with fail
        go_end0
        exact ⟨rfl, HB1.out⟩

end Go.Proofs.Qxb6601576a
