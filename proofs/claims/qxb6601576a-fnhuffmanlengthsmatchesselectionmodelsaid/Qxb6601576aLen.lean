/-
  bits.Len at small numbers.
-/
import Derived.Test.Qxb6601576aProg
import Derived.Lib.Strings
import Derived.Lib.Slices
import Derived.Lib.Small
import Derived.Lib.Walk
import Derived.Lib.BitFns
namespace Go.Proofs.Qxb6601576a

theorem bitLen_ok : ∀ x : Fin 1001, Lib.bitLen x.val ≤ 10 ∧ (0 < x.val → 2 ^ Lib.bitLen x.val ≤ 2 * x.val) := by decide +kernel

set_option maxHeartbeats 4000000 in
set_option maxRecDepth 100000 in
theorem len64_u64 (x : Int) (w : World) (h0 : 0 ≤ x) (h1 : x ≤ 1000) :
    Calls Try.prog 49 #[.int .u64 x] w fun e w' => e = .returned (.int .i64 (Lib.bitLen x.toNat)) ∧ w' = w := by
  go_enter Try.func49, Try.ntmps49
  go_wp2
  all_goals (go_ret; refine ⟨congrArg Ending.returned (congrArg (Value.int IntKind.i64) ?_), rfl⟩)
  · rw [Lib.len8_of (x / 256 % 256) (by omega) (by omega)]
    have e : (x / 256 % 256).toNat = x.toNat / 256 := by omega
    have l := Lib.bitLen_le8' (x / 256 % 256) (by omega) (by omega)
    have s := Lib.bitLen_shift8 x.toNat (by omega) (by omega)
    rw [e] at l ⊢
    omega
  · rw [Lib.len8_of (x % 256) (by omega) (by omega)]
    have e : (x % 256).toNat = x.toNat := by omega
    have l := Lib.bitLen_le8' (x % 256) (by omega) (by omega)
    rw [e] at l ⊢
    omega

set_option maxHeartbeats 4000000 in
set_option maxRecDepth 100000 in
theorem len_u64 (x : Int) (w : World) (h0 : 0 ≤ x) (h1 : x ≤ 1000) :
    Calls Try.prog 38 #[.int .u64 x] w fun e w' => e = .returned (.int .i64 (Lib.bitLen x.toNat)) ∧ w' = w := by
  go_enter Try.func38, Try.ntmps38
  go_wp2_with (go_at_call 49; refine (len64_u64 _ _ h0 h1).mono ?_; rintro e w' ⟨rfl, rfl⟩)
  go_ret
  exact ⟨rfl, rfl⟩

end Go.Proofs.Qxb6601576a
