/-
  THE WALKS of what makes memory (clones, a new index), and of the bounds on lengths.
-/
import Derived.Test.Qxb6601018aScript
set_option linter.unusedVariables false
namespace Go.Proofs.Qxb6601018a
open Go.RowKit

def CloneR (w' : World) (f : Nat → Nat) (l : Nat) (e : Ending) : Prop := ∃ a', e = .returned (.slice a' l l) ∧ SlU w' w'.heap.size a' l f ∧ (a' = none → l = 0)
def CloneRB (w' : World) (f : Nat → Bool) (l : Nat) (e : Ending) : Prop := ∃ a', e = .returned (.slice a' l l) ∧ SlB w' w'.heap.size a' l f ∧ (a' = none → l = 0)

theorem clone64 (a : Option Addr) (l c : Nat) (f : Nat → Nat) (w : World) (hl : SlU w w.heap.size a l f) (hn : a = none → l = 0) (hk : l ≤ 4096) :
    Calls Try.prog 12 #[.slice a l c] w fun e w' => Below w.heap.size w w' ∧ CloneR w' f l e := by
  have HL : Hid (SlU w w.heap.size a l f) := hl
  clear hl
  have hnil := eqNil22
  cases a with
  | none =>
    have h0 := hn rfl
    subst h0
    clear hn
    go_enter Try.func12, Try.ntmps12
    go_wp2
    go_ret
    exact ⟨Below.refl _ _, none, rfl, fun i hi => by omega, fun _ => rfl⟩
  | some x =>
    clear hn
    have hmk := run_make_row' (P := Try.prog) 22 33 (.int .u64 0) 8 Try.underlying22 Try.info33 rfl .i64 .i64 l (by omega) (by omega)
    go_enter Try.func12, Try.ntmps12
    go_wp2
    clear hmk hnil
    go_loopw [4] (fun v wr => ∃ i : Nat, i ≤ l ∧ v = .int .i64 i ∧ Below w.heap.size w wr ∧ wr.rowIs w.heap.size 33 l (fun j => if j < i then .int .u64 (f j : Int) else .int .u64 0)) (fun v _ => l - (intOf v).toNat)
    case atStart =>
      refine ⟨0, Nat.zero_le _, rfl, (Below.refl _ _).alloc (Nat.le_refl _) _, ?_⟩
      exact (World.rowIs_made w (.int .u64 0) l 33).congr (fun i hi => by simp)
    case round =>
      obtain ⟨i, hi, rfl, hbel, hrow⟩ := hrel
      by_cases hlt : i < l
      · obtain ⟨b, off, e1, hb, hc⟩ := HL.out i hlt
        cases e1
        have hc' := (hbel.cell (p := ⟨b, off + i, none⟩) hb).trans hc
        clear hc
        have hd := hrow.cell hlt
        simp only [Nat.lt_irrefl, if_false] at hd
        have hf := hrow.frozen i
        have HN : Hid ((wr.setCell ⟨w.heap.size, i, none⟩ (.int .u64 (f i : Int))).rowIs w.heap.size 33 l (fun j => if j < i + 1 then .int .u64 (f j : Int) else .int .u64 0)) := by
          refine (hrow.set i (.int .u64 (f i : Int))).congr (fun j hj => ?_)
          by_cases e : j = i
          · subst e; simp
          · by_cases e2 : j < i
            · simp [e, e2, show j < i + 1 by omega]
            · simp [e, e2, show ¬ j < i + 1 by omega]
        have HB : Hid (Below w.heap.size w (wr.setCell ⟨w.heap.size, i, none⟩ (.int .u64 (f i : Int)))) := hbel.setCell (Nat.le_refl _) _
        clear HL hrow hbel
        go_wp2
        go_roundw
        case rel => exact ⟨i + 1, by omega, by go_num, HB, HN⟩
        case measure => simp [intOf]; omega
      · have : i = l := by omega
        subst this
        clear HL
        go_wp2
        go_ret
        refine ⟨hbel, some ⟨w.heap.size, 0, none⟩, rfl, fun j hj => ⟨_, 0, rfl, hrow.lt, ?_⟩, fun h => by cases h⟩
        have := hrow.cell hj
        rw [if_pos hj] at this
        rw [Nat.zero_add]; exact this

theorem cloneBool (a : Option Addr) (l c : Nat) (f : Nat → Bool) (w : World) (hl : SlB w w.heap.size a l f) (hn : a = none → l = 0) (hk : l ≤ 4096) :
    Calls Try.prog 13 #[.slice a l c] w fun e w' => Below w.heap.size w w' ∧ CloneRB w' f l e := by
  have HL : Hid (SlB w w.heap.size a l f) := hl
  clear hl
  have hnil := eqNil23
  cases a with
  | none =>
    have h0 := hn rfl
    subst h0
    clear hn
    go_enter Try.func13, Try.ntmps13
    go_wp2
    go_ret
    exact ⟨Below.refl _ _, none, rfl, fun i hi => by omega, fun _ => rfl⟩
  | some x =>
    clear hn
    have hmk := run_make_row' (P := Try.prog) 23 4 (.bool false) 1 Try.underlying23 Try.info4 rfl .i64 .i64 l (by omega) (by omega)
    go_enter Try.func13, Try.ntmps13
    go_wp2
    clear hmk hnil
    go_loopw [4] (fun v wr => ∃ i : Nat, i ≤ l ∧ v = .int .i64 i ∧ Below w.heap.size w wr ∧ wr.rowIs w.heap.size 4 l (fun j => if j < i then .bool (f j) else .bool false)) (fun v _ => l - (intOf v).toNat)
    case atStart =>
      refine ⟨0, Nat.zero_le _, rfl, (Below.refl _ _).alloc (Nat.le_refl _) _, ?_⟩
      exact (World.rowIs_made w (.bool false) l 4).congr (fun i hi => by simp)
    case round =>
      obtain ⟨i, hi, rfl, hbel, hrow⟩ := hrel
      by_cases hlt : i < l
      · obtain ⟨b, off, e1, hb, hc⟩ := HL.out i hlt
        cases e1
        have hc' := (hbel.cell (p := ⟨b, off + i, none⟩) hb).trans hc
        clear hc
        have hd := hrow.cell hlt
        simp only [Nat.lt_irrefl, if_false] at hd
        have hf := hrow.frozen i
        have HN : Hid ((wr.setCell ⟨w.heap.size, i, none⟩ (.bool (f i))).rowIs w.heap.size 4 l (fun j => if j < i + 1 then .bool (f j) else .bool false)) := by
          refine (hrow.set i (.bool (f i))).congr (fun j hj => ?_)
          by_cases e : j = i
          · subst e; simp
          · by_cases e2 : j < i
            · simp [e, e2, show j < i + 1 by omega]
            · simp [e, e2, show ¬ j < i + 1 by omega]
        have HB : Hid (Below w.heap.size w (wr.setCell ⟨w.heap.size, i, none⟩ (.bool (f i)))) := hbel.setCell (Nat.le_refl _) _
        clear HL hrow hbel
        go_wp2
        go_roundw
        case rel => exact ⟨i + 1, by omega, by go_num, HB, HN⟩
        case measure => simp [intOf]; omega
      · have : i = l := by omega
        subst this
        clear HL
        go_wp2
        go_ret
        refine ⟨hbel, some ⟨w.heap.size, 0, none⟩, rfl, fun j hj => ⟨_, 0, rfl, hrow.lt, ?_⟩, fun h => by cases h⟩
        have := hrow.cell hj
        rw [if_pos hj] at this
        rw [Nat.zero_add]; exact this

def emptyTab : Tab := fun _ => (0, 0)
def newIx (n : Nat) : Ix := ⟨n, 0, 0, 0, emptyTab, emptyTab⟩

theorem Try.info59 : (Try.prog.info? 59).map (fun i => (i.zero, i.size, i.bytes)) = some (some (.agg #[.int .u64 0, .int .u64 0]), 2, 16) := by kernel_rfl

/-- 'make([]place, n)' -/
theorem make_places (n : Nat) (hn : n ≤ 16384) (w : World) :
    (Instr.makeSlice 52 (.int .i64 (n : Int)) (.int .i64 (n : Int))).run Try.prog w = .ok (.slice (some ⟨w.heap.size, 0, none⟩) n n) (w.alloc (.cells (madeCells #[.int .u64 0, .int .u64 0] (n * 2)) 59)) := by
  obtain ⟨i, hi, hzz⟩ := Option.map_eq_some_iff.1 Try.info59
  simp only [Prod.mk.injEq] at hzz
  obtain ⟨hz, hs, hb⟩ := hzz
  have hb' : (i.bytes : Int) * (n : Int) ≤ 281474976710656 := by rw [hb]; omega
  have hr := run_make (P := Try.prog) w 52 59 i _ Try.underlying52 hi hz .i64 .i64 n n (by omega) (Int.le_refl _) hb' (by omega)
  simp only [Int.toNat_natCast, hs] at hr
  exact hr

theorem TabAt_made (n : Nat) (w : World) : TabAt (w.alloc (.cells (madeCells #[.int .u64 0, .int .u64 0] (n * 2)) 59)) w.heap.size n emptyTab := by
  refine ⟨madeCells #[.int .u64 0, .int .u64 0] (n * 2), ?_, size_madeCells _ _, fun i hi => ?_⟩
  · show (w.heap.push _)[w.heap.size]? = _
    simp
  · have h1 : i * 2 % 2 = 0 := by omega
    have h2 : (i * 2 + 1) % 2 = 1 := by omega
    have h3 : i * 2 < n * 2 := by omega
    have h4 : i * 2 + 1 < n * 2 := by omega
    simp [madeCells, h1, h2, h3, h4, emptyTab]

theorem zzNewIndex (n : Nat) (hn : n ≤ 16384) (w : World) : Calls Try.prog 14 #[.int .i64 (n : Int)] w fun e w' =>
    e = .returned (.pointer (some ⟨w.heap.size + 1, 0, none⟩)) ∧ Below w.heap.size w w' ∧ w'.heap.size = w.heap.size + 2 ∧ IxAt w' (w.heap.size + 1) w.heap.size 0 (newIx n) := by
  have hmk := make_places n hn
  have HT := TabAt_made n w
  have HT' : Hid (TabAt (w.alloc (.cells (madeCells #[.int .u64 0, .int .u64 0] (n * 2)) 59)) w.heap.size n emptyTab) := HT
  clear HT
  generalize madeCells #[.int .u64 0, .int .u64 0] (n * 2) = mc at *
  go_enter Try.func14, Try.ntmps14
  go_wp2
  go_ret
  refine ⟨rfl, ((Below.refl _ _).alloc (Nat.le_refl _) _).alloc (by simp) _, by simp, ⟨?_, HT'.out.alloc _, fun h => absurd rfl h, by omega, fun h => absurd rfl h⟩⟩
  show ((w.heap.push _).push _)[w.heap.size + 1]? = _
  rw [Array.getElem?_push, if_pos (by simp)]
  rfl

end Go.Proofs.Qxb6601018a
