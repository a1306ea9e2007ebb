/-
  THE WALKS of the accessors of an index.
-/
import Derived.Test.Qxb6601018aFind
import Derived.Deep.QuietTactic
import Derived.BigQuiet
set_option linter.unusedVariables false
namespace Go.Proofs.Qxb6601018a
open Go.RowKit

def hasOld (x : Ix) : Bool := !(x.om == 0)
theorem hasOld_true {x : Ix} (h : x.om ≠ 0) : hasOld x = true := by simp [hasOld, h]
theorem hasOld_false {x : Ix} (h : x.om = 0) : hasOld x = false := by simp [hasOld, h]

section
variable {w : World} {b pb ob : Nat} {x : Ix}

theorem zzN (h : IxAt w b pb ob x) : Calls Try.prog 31 #[.pointer (some ⟨b, 0, none⟩)] w fun e w' => e = .returned (.int .i64 (x.n : Int)) ∧ w' = w := by
  have c1 := h.c1
  clear h
  go_enter Try.func31, Try.ntmps31
  go_wp2
  go_ret
  exact ⟨rfl, rfl⟩

theorem zzNext (h : IxAt w b pb ob x) : Calls Try.prog 36 #[.pointer (some ⟨b, 0, none⟩)] w fun e w' => e = .returned (.int .i64 (x.nx : Int)) ∧ w' = w := by
  have c1 := h.c3
  clear h
  go_enter Try.func36, Try.ntmps36
  go_wp2
  go_ret
  exact ⟨rfl, rfl⟩

theorem zzLen (h : IxAt w b pb ob x) : Calls Try.prog 19 #[.pointer (some ⟨b, 0, none⟩)] w fun e w' => e = .returned (.int .i64 (x.sz : Int)) ∧ w' = w := by
  have c1 := h.c0
  clear h
  go_enter Try.func19, Try.ntmps19
  go_wp2
  go_ret
  exact ⟨rfl, rfl⟩

theorem zzHasOld (h : IxAt w b pb ob x) : Calls Try.prog 18 #[.pointer (some ⟨b, 0, none⟩)] w fun e w' => e = .returned (.bool (hasOld x)) ∧ w' = w := by
  have c1 := h.c2
  clear h
  by_cases h0 : x.om = 0
  · rw [oldV_nil h0] at c1
    rw [hasOld_false h0]
    have hnil := neqNil52
    go_enter Try.func18, Try.ntmps18
    go_wp2
    go_ret
    exact ⟨rfl, rfl⟩
  · rw [oldV_some h0] at c1
    rw [hasOld_true h0]
    have hnil := neqNil52
    go_enter Try.func18, Try.ntmps18
    go_wp2
    go_ret
    exact ⟨rfl, rfl⟩

theorem zzOldLen (h : IxAt w b pb ob x) : Calls Try.prog 35 #[.pointer (some ⟨b, 0, none⟩)] w fun e w' => e = .returned (.int .i64 (x.om : Int)) ∧ w' = w := by
  have c1 := h.c2
  clear h
  by_cases h0 : x.om = 0
  · rw [oldV_nil h0] at c1
    rw [h0]
    go_enter Try.func35, Try.ntmps35
    go_wp2
    go_ret
    exact ⟨rfl, rfl⟩
  · rw [oldV_some h0] at c1
    go_enter Try.func35, Try.ntmps35
    go_wp2
    go_ret
    exact ⟨rfl, rfl⟩

theorem below_drewN' {w : World} (n : Nat) : Below w.heap.size w (w.drewN n) := by
  induction n with
  | zero => exact Below.refl _ _
  | succ n ih => exact ih.drew

theorem zzPlaceAt (h : IxAt w b pb ob x) (i : Nat) (hi : i < x.sz) (hs : x.sz ≤ 16384) : Calls Try.prog 27 #[.pointer (some ⟨b, 0, none⟩), .int .i64 (i : Int)] w fun e w' =>
    e = .returned (.tuple #[.int .u64 ((x.P i).1 : Int), .int .u64 ((x.P i).2 : Int)]) ∧ Below w.heap.size w w' := by
  have c0 := h.c0
  have t0 := h.tab.cell0 hi
  have t1 := h.tab.cell1 hi
  clear h
  have hi' : (i : Int) < (x.sz : Int) := by omega
  go_enter Try.func27, Try.ntmps27
  go_wp2
  go_quiet (fail)
  go_wp2
  go_ret2
  exact ⟨rfl, below_drewN' _⟩

theorem zzOldPlaceAt (h : IxAt w b pb ob x) (h0 : x.om ≠ 0) (i : Nat) (hi : i < x.om) (hs : x.om ≤ 16384) : Calls Try.prog 45 #[.pointer (some ⟨b, 0, none⟩), .int .i64 (i : Int)] w fun e w' =>
    e = .returned (.tuple #[.int .u64 ((x.O i).1 : Int), .int .u64 ((x.O i).2 : Int)]) ∧ Below w.heap.size w w' := by
  have c0 := h.c2
  rw [oldV_some h0] at c0
  have t0 := (h.old h0).cell0 hi
  have t1 := (h.old h0).cell1 hi
  clear h
  have hi' : (i : Int) < (x.om : Int) := by omega
  go_enter Try.func45, Try.ntmps45
  go_wp2
  go_quiet (fail)
  go_wp2
  go_ret2
  exact ⟨rfl, below_drewN' _⟩

theorem zzFind (h : IxAt w b pb ob x) (k : Nat) (hp : Pw x.sz) (hs : x.sz ≤ 16384) (hex : ∃ q, q < x.sz ∧ (x.P q).2 = 0) : Calls Try.prog 15 #[.pointer (some ⟨b, 0, none⟩), .int .u64 (k : Int)] w fun e w' =>
    Below w.heap.size w w' ∧ ∃ r, IsProbe (stopF x.P k) x.sz (k % x.sz) r ∧ e = .returned (findV x.P r) := by
  have c0 := h.c0
  have H := find_any pb x.sz k x.P w h.tab hp hs hex
  have HH : Hid (Calls Try.prog 41 #[.slice (some ⟨pb, 0, none⟩) x.sz x.sz, .int .u64 (k : Int)] w fun e w' =>
      Below w.heap.size w w' ∧ ∃ r, IsProbe (stopF x.P k) x.sz (k % x.sz) r ∧ e = .returned (findV x.P r)) := H
  clear H h hex
  go_enter Try.func15, Try.ntmps15
  go_wp2_with fail
  refine HH.out.mono ?_
  rintro e w' ⟨hb, r, hr, rfl⟩
  by_cases h0 : (x.P r).2 = 0
  · have e1 : findV x.P r = .tuple #[.int .i64 0, .bool false] := by simp [findV, h0]
    have HE : Hid (findV x.P r = .tuple #[.int .i64 0, .bool false]) := e1
    rw [e1]; clear e1
    go_wp2
    go_ret2
    exact ⟨hb, r, hr, by rw [HE.out]; rfl⟩
  · have e1 : findV x.P r = .tuple #[.int .i64 (r : Int), .bool true] := by simp [findV, h0]
    have HE : Hid (findV x.P r = .tuple #[.int .i64 (r : Int), .bool true]) := e1
    rw [e1]; clear e1
    go_wp2
    go_ret2
    exact ⟨hb, r, hr, by rw [HE.out]; rfl⟩

theorem zzFindOld (h : IxAt w b pb ob x) (k : Nat) (h0 : x.om ≠ 0) (hp : Pw x.om) (hs : x.om ≤ 16384) (hex : ∃ q, q < x.om ∧ (x.O q).2 = 0) : Calls Try.prog 44 #[.pointer (some ⟨b, 0, none⟩), .int .u64 (k : Int)] w fun e w' =>
    Below w.heap.size w w' ∧ ∃ r, IsProbe (stopF x.O k) x.om (k % x.om) r ∧ e = .returned (findV x.O r) := by
  have c0 := h.c2
  rw [oldV_some h0] at c0
  have H := find_any ob x.om k x.O w (h.old h0) hp hs hex
  have HH : Hid (Calls Try.prog 41 #[.slice (some ⟨ob, 0, none⟩) x.om x.om, .int .u64 (k : Int)] w fun e w' =>
      Below w.heap.size w w' ∧ ∃ r, IsProbe (stopF x.O k) x.om (k % x.om) r ∧ e = .returned (findV x.O r)) := H
  clear H h hex
  go_enter Try.func44, Try.ntmps44
  go_wp2_with fail
  refine HH.out.mono ?_
  rintro e w' ⟨hb, r, hr, rfl⟩
  by_cases h0 : (x.O r).2 = 0
  · have e1 : findV x.O r = .tuple #[.int .i64 0, .bool false] := by simp [findV, h0]
    have HE : Hid (findV x.O r = .tuple #[.int .i64 0, .bool false]) := e1
    rw [e1]; clear e1
    go_wp2
    go_ret2
    exact ⟨hb, r, hr, by rw [HE.out]; rfl⟩
  · have e1 : findV x.O r = .tuple #[.int .i64 (r : Int), .bool true] := by simp [findV, h0]
    have HE : Hid (findV x.O r = .tuple #[.int .i64 (r : Int), .bool true]) := e1
    rw [e1]; clear e1
    go_wp2
    go_ret2
    exact ⟨hb, r, hr, by rw [HE.out]; rfl⟩
end

def liveN (l : Nat) : Bool := !(l == 0) && !(l == gone)

theorem live_any (l : Nat) (w : World) : Calls Try.prog 46 #[.int .u64 (l : Int)] w fun e w' => e = .returned (.bool (liveN l)) ∧ w' = w := by
  have HL : Hid (liveN l = (!(l == 0) && !(l == gone))) := rfl
  have HG : Hid (gone = 18446744073709551615) := rfl
  by_cases h0 : l = 0
  · subst h0
    go_enter Try.func46, Try.ntmps46
    go_wp2
    go_ret
    exact ⟨rfl, rfl⟩
  · have hb : ((l : Int) != 0) = true := by rw [bne_iff_ne]; omega
    by_cases h1 : l = gone
    · have hc : ((l : Int) != 18446744073709551615) = false := by rw [h1]; rfl
      have e1 : liveN l = false := by rw [HL.out, h1]; simp
      rw [e1]
      clear e1 h1
      go_enter Try.func46, Try.ntmps46
      go_wp2
      go_ret
      exact ⟨rfl, rfl⟩
    · have hc : ((l : Int) != 18446744073709551615) = true := by rw [bne_iff_ne]; rw [HG.out] at h1; omega
      have e1 : liveN l = true := by rw [HL.out]; simp [h0, h1]
      rw [e1]
      clear e1 h1
      go_enter Try.func46, Try.ntmps46
      go_wp2
      go_ret
      exact ⟨rfl, rfl⟩

end Go.Proofs.Qxb6601018a
