/-
  THE CLONES and the small helpers of the laws.
-/
import Derived.Test.Qxb6601576aLight
import Derived.Deep.OwnRows
import Derived.Lib.Small
set_option linter.unusedVariables false
namespace Go.Proofs.Qxb6601576a
open Go.RowKit

theorem Try.info5 : (Try.prog.info? 5).map (fun i => (i.zero, i.size, i.bytes)) = some (some (.int .u8 0), 1, 1) := by kernel_rfl
theorem Try.info3 : (Try.prog.info? 3).map (fun i => (i.zero, i.size, i.bytes)) = some (some (.int .i64 0), 1, 8) := by kernel_rfl
theorem eqNil30 (w : World) (a : Option Addr) (n c : Nat) : (binOp .eql 30 (.slice a n c) (.slice none 0 0)).run Try.prog w = .ok (.bool a.isNone) w :=
  Lib.run_eql_slice_nil w 30 5 a n c 0 0 Try.underlying30
theorem eqNil50 (w : World) (a : Option Addr) (n c : Nat) : (binOp .eql 50 (.slice a n c) (.slice none 0 0)).run Try.prog w = .ok (.bool a.isNone) w :=
  Lib.run_eql_slice_nil w 50 3 a n c 0 0 Try.underlying50

/-- a slice that came in -/
def SlI (k : IntKind) (w : World) (a : Option Addr) (n : Nat) (D : Row) : Prop :=
  ∀ i, i < n → ∃ b off, a = some ⟨b, off, none⟩ ∧ b < w.heap.size ∧ w.cell? ⟨b, off + i, none⟩ = some (.int k (D i))

theorem SlI.ext {k : IntKind} {w w' : World} {a : Option Addr} {n : Nat} {D : Row} (h : SlI k w a n D) (hb : Below w.heap.size w w') : SlI k w' a n D := by
  intro i hi
  obtain ⟨b, off, e, hlt, hc⟩ := h i hi
  exact ⟨b, off, e, Nat.lt_of_lt_of_le hlt hb.size, (hb.cell hlt).trans hc⟩

theorem slI_row {k : IntKind} {w : World} {b off n : Nat} {D : Row} (h : RowAt k w b off n D) : SlI k w (some ⟨b, off, none⟩) n D :=
  fun i hi => ⟨b, off, rfl, h.lt, h.cell i hi⟩

/-- a slice made anew -/
def OwnI (k : IntKind) (w w' : World) (a' : Option Addr) (n : Nat) (D : Row) : Prop :=
  (a' = none ∧ n = 0) ∨ ∃ b, a' = some ⟨b, 0, none⟩ ∧ w.heap.size ≤ b ∧ RowAt k w' b 0 n D

def CloneR (k : IntKind) (w w' : World) (n : Nat) (D : Row) (e : Ending) : Prop := ∃ a', e = .returned (.slice a' n n) ∧ OwnI k w w' a' n D

theorem cloneU8 (a : Option Addr) (l c : Nat) (f : Row) (w : World) (hl : SlI .u8 w a l f) (hn : a = none → l = 0) (hk : l ≤ 65536) :
    Calls Try.prog 16 #[.slice a l c] w fun e w' => Below w.heap.size w w' ∧ CloneR .u8 w w' l f e := by
  have HL : Hid (SlI .u8 w a l f) := hl
  clear hl
  have hnil := eqNil30
  cases a with
  | none =>
    have h0 := hn rfl
    subst h0
    clear hn
    go_enter Try.func16, Try.ntmps16
    go_wp2
    go_ret
    exact ⟨Below.refl _ _, none, rfl, .inl ⟨rfl, rfl⟩⟩
  | some x =>
    clear hn
    have hmk := run_make_row' (P := Try.prog) 30 5 (.int .u8 0) 1 Try.underlying30 Try.info5 rfl .i64 .i64 l (by omega) (by omega)
    go_enter Try.func16, Try.ntmps16
    go_wp2
    clear hmk hnil
    go_loopw [4] (fun v wr => ∃ i : Nat, i ≤ l ∧ v = .int .i64 i ∧ Below w.heap.size w wr ∧ wr.rowIs w.heap.size 5 l (fun j => if j < i then .int .u8 (f j) else .int .u8 0)) (fun v _ => l - (intOf v).toNat)
    case atStart =>
      refine ⟨0, Nat.zero_le _, rfl, (Below.refl _ _).alloc (Nat.le_refl _) _, ?_⟩
      exact (World.rowIs_made w (.int .u8 0) l 5).congr (fun i hi => by simp)
    case round =>
      obtain ⟨i, hi, rfl, hbel, hrow⟩ := hrel
      by_cases hlt : i < l
      · obtain ⟨b, off, e1, hb, hc⟩ := HL.out i hlt
        cases e1
        have hc' := (hbel.cell (p := ⟨b, off + i, none⟩) hb).trans hc
        clear hc
        have hd := hrow.cell hlt
        simp only [Nat.lt_irrefl, if_false] at hd
        have hf := hrow.frozen i
        have HN : Hid ((wr.setCell ⟨w.heap.size, i, none⟩ (.int .u8 (f i))).rowIs w.heap.size 5 l (fun j => if j < i + 1 then .int .u8 (f j) else .int .u8 0)) := by
          refine (hrow.set i (.int .u8 (f i))).congr (fun j hj => ?_)
          by_cases e : j = i
          · subst e; simp
          · by_cases e2 : j < i
            · simp [e, e2, show j < i + 1 by omega]
            · simp [e, e2, show ¬ j < i + 1 by omega]
        have HB : Hid (Below w.heap.size w (wr.setCell ⟨w.heap.size, i, none⟩ (.int .u8 (f i)))) := hbel.setCell (Nat.le_refl _) _
        clear HL hrow hbel
        go_wp2
        go_roundw
        case rel => exact ⟨i + 1, by omega, by go_num, HB, HN⟩
        case measure => simp [intOf]; omega
      · have : l = i := by omega
        subst this
        clear HL
        go_wp2
        go_ret
        refine ⟨hbel, some ⟨w.heap.size, 0, none⟩, rfl, .inr ⟨_, rfl, Nat.le_refl _, hrow.lt, fun j hj => ?_, fun j hj => ?_⟩⟩
        · have := hrow.cell hj
          rw [if_pos hj] at this
          rw [Nat.zero_add]; exact this
        · rw [Nat.zero_add]; exact hrow.frozen j

theorem cloneInt (a : Option Addr) (l c : Nat) (f : Row) (w : World) (hl : SlI .i64 w a l f) (hn : a = none → l = 0) (hk : l ≤ 65536) :
    Calls Try.prog 25 #[.slice a l c] w fun e w' => Below w.heap.size w w' ∧ CloneR .i64 w w' l f e := by
  have HL : Hid (SlI .i64 w a l f) := hl
  clear hl
  have hnil := eqNil50
  cases a with
  | none =>
    have h0 := hn rfl
    subst h0
    clear hn
    go_enter Try.func25, Try.ntmps25
    go_wp2
    go_ret
    exact ⟨Below.refl _ _, none, rfl, .inl ⟨rfl, rfl⟩⟩
  | some x =>
    clear hn
    have hmk := run_make_row' (P := Try.prog) 50 3 (.int .i64 0) 8 Try.underlying50 Try.info3 rfl .i64 .i64 l (by omega) (by omega)
    go_enter Try.func25, Try.ntmps25
    go_wp2
    clear hmk hnil
    go_loopw [4] (fun v wr => ∃ i : Nat, i ≤ l ∧ v = .int .i64 i ∧ Below w.heap.size w wr ∧ wr.rowIs w.heap.size 3 l (fun j => if j < i then .int .i64 (f j) else .int .i64 0)) (fun v _ => l - (intOf v).toNat)
    case atStart =>
      refine ⟨0, Nat.zero_le _, rfl, (Below.refl _ _).alloc (Nat.le_refl _) _, ?_⟩
      exact (World.rowIs_made w (.int .i64 0) l 3).congr (fun i hi => by simp)
    case round =>
      obtain ⟨i, hi, rfl, hbel, hrow⟩ := hrel
      by_cases hlt : i < l
      · obtain ⟨b, off, e1, hb, hc⟩ := HL.out i hlt
        cases e1
        have hc' := (hbel.cell (p := ⟨b, off + i, none⟩) hb).trans hc
        clear hc
        have hd := hrow.cell hlt
        simp only [Nat.lt_irrefl, if_false] at hd
        have hf := hrow.frozen i
        have HN : Hid ((wr.setCell ⟨w.heap.size, i, none⟩ (.int .i64 (f i))).rowIs w.heap.size 3 l (fun j => if j < i + 1 then .int .i64 (f j) else .int .i64 0)) := by
          refine (hrow.set i (.int .i64 (f i))).congr (fun j hj => ?_)
          by_cases e : j = i
          · subst e; simp
          · by_cases e2 : j < i
            · simp [e, e2, show j < i + 1 by omega]
            · simp [e, e2, show ¬ j < i + 1 by omega]
        have HB : Hid (Below w.heap.size w (wr.setCell ⟨w.heap.size, i, none⟩ (.int .i64 (f i)))) := hbel.setCell (Nat.le_refl _) _
        clear HL hrow hbel
        go_wp2
        go_roundw
        case rel => exact ⟨i + 1, by omega, by go_num, HB, HN⟩
        case measure => simp [intOf]; omega
      · have : l = i := by omega
        subst this
        clear HL
        go_wp2
        go_ret
        refine ⟨hbel, some ⟨w.heap.size, 0, none⟩, rfl, .inr ⟨_, rfl, Nat.le_refl _, hrow.lt, fun j hj => ?_, fun j hj => ?_⟩⟩
        · have := hrow.cell hj
          rw [if_pos hj] at this
          rw [Nat.zero_add]; exact this
        · rw [Nat.zero_add]; exact hrow.frozen j

def IsB (e : Ending) : Prop := ∃ b, e = .returned (.bool b)

theorem bytes28 (a0 a1 : Option Addr) (l0 c0 l1 c1 : Nat) (w : World) :
    Calls Try.prog 28 #[.slice a0 l0 c0, .slice a1 l1 c1] w fun e w' => w' = w ∧ IsB e := by
  by_cases h0 : l0 ≤ 1048576
  · have h0i : ¬ (1048576 : Int) < l0 := by omega
    by_cases h1 : l1 ≤ 1048576
    · have h1i : ¬ (1048576 : Int) < l1 := by omega
      by_cases h2 : l0 + l1 ≤ 1048576
      · have h2i : ¬ (1048576 : Int) < (l0 : Int) + l1 := by omega
        go_enter Try.func28, Try.ntmps28
        go_wp2
        go_ret
        exact ⟨rfl, _, rfl⟩
      · have h2i : (1048576 : Int) < (l0 : Int) + l1 := by omega
        go_enter Try.func28, Try.ntmps28
        go_wp2
        go_ret
        exact ⟨rfl, _, rfl⟩
    · have h1i : (1048576 : Int) < l1 := by omega
      go_enter Try.func28, Try.ntmps28
      go_wp2
      go_ret
      exact ⟨rfl, _, rfl⟩
  · have h0i : (1048576 : Int) < l0 := by omega
    go_enter Try.func28, Try.ntmps28
    go_wp2
    go_ret
    exact ⟨rfl, _, rfl⟩

theorem bytes29 (a0 a1 : Option Addr) (l0 c0 l1 c1 : Nat) (w : World) :
    Calls Try.prog 29 #[.slice a0 l0 c0, .slice a1 l1 c1] w fun e w' => w' = w ∧ IsB e := by
  by_cases h0 : l0 ≤ 1048576
  · have h0i : ¬ (1048576 : Int) < l0 := by omega
    by_cases h1 : l1 ≤ 1048576
    · have h1i : ¬ (1048576 : Int) < l1 := by omega
      by_cases h2 : l0 + l1 ≤ 1048576
      · have h2i : ¬ (1048576 : Int) < (l0 : Int) + l1 := by omega
        go_enter Try.func29, Try.ntmps29
        go_wp2
        go_ret
        exact ⟨rfl, _, rfl⟩
      · have h2i : (1048576 : Int) < (l0 : Int) + l1 := by omega
        go_enter Try.func29, Try.ntmps29
        go_wp2
        go_ret
        exact ⟨rfl, _, rfl⟩
    · have h1i : (1048576 : Int) < l1 := by omega
      go_enter Try.func29, Try.ntmps29
      go_wp2
      go_ret
      exact ⟨rfl, _, rfl⟩
  · have h0i : (1048576 : Int) < l0 := by omega
    go_enter Try.func29, Try.ntmps29
    go_wp2
    go_ret
    exact ⟨rfl, _, rfl⟩

theorem bytes24 (a0 a1 : Option Addr) (l0 c0 l1 c1 : Nat) (w : World) :
    Calls Try.prog 24 #[.slice a0 l0 c0, .slice a1 l1 c1] w fun e w' => w' = w ∧ IsB e := by
  by_cases h0 : l0 ≤ 1048576
  · have h0i : ¬ (1048576 : Int) < l0 := by omega
    by_cases h1 : l1 ≤ 1048576
    · have h1i : ¬ (1048576 : Int) < l1 := by omega
      by_cases h2 : l0 + l1 ≤ 1048576
      · have h2i : ¬ (1048576 : Int) < (l0 : Int) + l1 := by omega
        go_enter Try.func24, Try.ntmps24
        go_wp2
        go_ret
        exact ⟨rfl, _, rfl⟩
      · have h2i : (1048576 : Int) < (l0 : Int) + l1 := by omega
        go_enter Try.func24, Try.ntmps24
        go_wp2
        go_ret
        exact ⟨rfl, _, rfl⟩
    · have h1i : (1048576 : Int) < l1 := by omega
      go_enter Try.func24, Try.ntmps24
      go_wp2
      go_ret
      exact ⟨rfl, _, rfl⟩
  · have h0i : (1048576 : Int) < l0 := by omega
    go_enter Try.func24, Try.ntmps24
    go_wp2
    go_ret
    exact ⟨rfl, _, rfl⟩

end Go.Proofs.Qxb6601576a
