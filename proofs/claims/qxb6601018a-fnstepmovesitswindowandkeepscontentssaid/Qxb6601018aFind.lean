/-
  THE WALK of table.find.
-/
import Derived.Test.Qxb6601018aBase
set_option linter.unusedVariables false
namespace Go.Proofs.Qxb6601018a
open Go.RowKit

theorem beq_nat (a b : Nat) : ((a : Int) == (b : Int)) = (a == b) := by
  by_cases h : a = b
  · subst h; simp
  · rw [beq_eq_false_iff_ne.2 h, beq_eq_false_iff_ne.2 (by omega)]

theorem eqNil52 (w : World) (a : Option Addr) (n c : Nat) : (binOp .eql 52 (.slice a n c) (.slice none 0 0)).run Try.prog w = .ok (.bool a.isNone) w :=
  Lib.run_eql_slice_nil w 52 59 a n c 0 0 Try.underlying52
theorem neqNil52 (w : World) (a : Option Addr) (n c : Nat) : (binOp .neq 52 (.slice a n c) (.slice none 0 0)).run Try.prog w = .ok (.bool (!a.isNone)) w :=
  run_neq_slice_nil_any w 52 59 a n c 0 0 Try.underlying52
theorem eqNil22 (w : World) (a : Option Addr) (n c : Nat) : (binOp .eql 22 (.slice a n c) (.slice none 0 0)).run Try.prog w = .ok (.bool a.isNone) w :=
  Lib.run_eql_slice_nil w 22 33 a n c 0 0 Try.underlying22
theorem eqNil23 (w : World) (a : Option Addr) (n c : Nat) : (binOp .eql 23 (.slice a n c) (.slice none 0 0)).run Try.prog w = .ok (.bool a.isNone) w :=
  Lib.run_eql_slice_nil w 23 4 a n c 0 0 Try.underlying23

/-- what find hands back, having stopped at r -/
def findV (T : Tab) (r : Nat) : Value := if (T r).2 = 0 then .tuple #[.int .i64 0, .bool false] else .tuple #[.int .i64 (r : Int), .bool true]

set_option maxHeartbeats 1000000 in
theorem find_any (b n h : Nat) (T : Tab) (w : World) (hT : TabAt w b n T) (hp : Pw n) (hn2 : n ≤ 16384) (hex : ∃ q, q < n ∧ (T q).2 = 0) :
    Calls Try.prog 41 #[.slice (some ⟨b, 0, none⟩) n n, .int .u64 (h : Int)] w fun e w' =>
      Below w.heap.size w w' ∧ ∃ r, IsProbe (stopF T h) n (h % n) r ∧ e = .returned (findV T r) := by
  have hn1 : 1 ≤ n := hp.pos
  have hw1 : IntKind.u64.wrap (↑n - 1) = ↑n - 1 := by rw [IntKind.wrap_u64]; omega
  have hs : h % n < n := Nat.mod_lt _ hn1
  have hA := hp.u64 h
  have HP : Hid (Pw n) := hp
  have HX : Hid (∃ q, q < n ∧ stopF T h q) := by obtain ⟨q, h1, h2⟩ := hex; exact ⟨q, h1, .inl h2⟩
  have HT : Hid (TabAt w b n T) := hT
  clear hp hex
  have hb := hT.lt
  clear hT
  generalize hs0 : h % n = s at *
  clear hs0
  go_enter Try.func41, Try.ntmps41
  go_wp2
  clear hA
  go_loopw [7] (fun v wr => ∃ i : Nat, i < n ∧ v = .int .u64 i ∧ Below w.heap.size w wr ∧ Hid (∀ c, c < n → dist n s c < dist n s i → ¬ stopF T h c)) (fun v _ => n - dist n s (intOf v).toNat)
  case atStart => exact ⟨s, hs, rfl, Below.refl _ _, fun c hc hd => by have d := dist_cases n s s; omega⟩
  case round =>
    obtain ⟨i, hi, rfl, hbel, hbef⟩ := hrel
    have c0 : wr.cell? ⟨b, i * 2, none⟩ = some (.int .u64 ((T i).1 : Int)) := (hbel.cell hb).trans (HT.out.cell0 hi)
    have c1 : wr.cell? ⟨b, i * 2 + 1, none⟩ = some (.int .u64 ((T i).2 : Int)) := (hbel.cell hb).trans (HT.out.cell1 hi)
    have hA := HP.out.next hi
    have hnx := fun hns => probe_next (stop := stopF T h) hs hi HX.out hbef.out hns
    have HN : Hid (¬ stopF T h i → nxt n i < n ∧ (∀ c, c < n → dist n s c < dist n s (nxt n i) → ¬ stopF T h c) ∧ n - dist n s (nxt n i) < n - dist n s i) := hnx
    clear hnx
    have HD : Hid (stopF T h i ↔ ((T i).2 = 0 ∨ ((T i).1 = h ∧ (T i).2 ≠ gone))) := Iff.rfl
    have HB : Hid (stopF T h i → IsProbe (stopF T h) n s i) := fun hst => ⟨hi, hst, hbef.out⟩
    have HF : Hid (findV T i = if (T i).2 = 0 then .tuple #[.int .i64 0, .bool false] else .tuple #[.int .i64 (i : Int), .bool true]) := rfl
    clear hbef
    generalize (T i).1 = th at *
    generalize (T i).2 = tl at *
    have HG : Hid (gone = 18446744073709551615) := rfl
    go_wp2
    · have h1 : ((tl : Int) == 0) = true := by assumption
      have h0 : tl = 0 := by simp at h1; omega
      go_ret2
      refine ⟨hbel.alloc hbel.size _, i, ?_, ?_⟩
      · exact HB.out (HD.out.2 (.inl h0))
      · rw [HF.out, if_pos h0]; rfl
    · have h1 : ((tl : Int) == 0) = false := by assumption
      have h2 : (th : Int) = (h : Int) := by assumption
      have h3 : ((tl : Int) != 18446744073709551615) = true := by assumption
      have h0 : tl ≠ 0 := by rw [beq_eq_false_iff_ne] at h1; omega
      have hg : tl ≠ gone := by rw [HG.out]; rw [bne_iff_ne] at h3; omega
      go_ret2
      refine ⟨hbel.alloc hbel.size _, i, ?_, ?_⟩
      · exact HB.out (HD.out.2 (.inr ⟨by omega, hg⟩))
      · rw [HF.out, if_neg h0]; rfl
    · have h1 : ((tl : Int) == 0) = false := by assumption
      have h3 : ((tl : Int) != 18446744073709551615) = false := by assumption
      have h0 : tl ≠ 0 := by rw [beq_eq_false_iff_ne] at h1; omega
      have hg : tl = gone := by rw [HG.out]; simp at h3; omega
      have hN := HN.out (fun hst => by rcases HD.out.1 hst with h | h; exact h0 h; exact h.2 hg)
      go_roundw
      case rel => exact ⟨nxt n i, hN.1, rfl, hbel.alloc hbel.size _, hN.2.1⟩
      case measure => simp only [intOf, Int.toNat_natCast]; exact hN.2.2
    · have h1 : ((tl : Int) == 0) = false := by assumption
      have h2 : ¬ (th : Int) = (h : Int) := by assumption
      have h0 : tl ≠ 0 := by rw [beq_eq_false_iff_ne] at h1; omega
      have hN := HN.out (fun hst => by rcases HD.out.1 hst with h | h; exact h0 h; omega)
      go_roundw
      case rel => exact ⟨nxt n i, hN.1, rfl, hbel.alloc hbel.size _, hN.2.1⟩
      case measure => simp only [intOf, Int.toNat_natCast]; exact hN.2.2

end Go.Proofs.Qxb6601018a
