/-
  FROM THE READING OF AN ARGUMENT (a slice of integers, of bools) to what the walks ask of it.
-/
import Derived.Test.Qxb6601018aScript
import Derived.ProofKit
import Derived.OpenShut
import Derived.Deep.Slices
import Derived.ChangeArms
set_option linter.unusedVariables false
namespace Go.Proofs.Qxb6601018a
open Go.ChangeShapes Go.WideShapes Go.ChangeAt Go.RowKit

theorem slU_of_cells {w : World} {x : Addr} {len : Nat} {zs : List Int} (hl : len ≤ zs.length) (hc : ∀ i, i < zs.length → w.cell? (x.add i) = some (.int .u64 (zs.getD i 0)))
    (hw : ∀ n ∈ zs, (Lit.int .u64 n).wf = true) : SlU w w.heap.size (some x) len (fun i => (zs.getD i 0).toNat) := by
  intro i hi
  obtain ⟨b, off, spot⟩ := x
  have h0 := hc i (by omega)
  have hspot : spot = none := by simpa [Addr.add] using World.cell?_spot (hc 0 (by omega))
  subst hspot
  rw [add_plain] at h0
  have hb := (range_u64 hw i).1
  have e : ((zs.getD i 0).toNat : Int) = zs.getD i 0 := by
    rw [Int.toNat_of_nonneg]
    simpa using hb
  exact ⟨b, off, rfl, World.block_lt_of_cell? w ⟨b, off + i, none⟩ h0, by show _ = some (Value.int .u64 (((zs.getD i 0).toNat : Nat) : Int)); rw [e]; exact h0⟩

def boolOf : Value → Bool | .bool b => b | _ => false

theorem slB_of_cells {w : World} {x : Addr} {len m : Nat} {V : Nat → Value} (hl : len ≤ m) (hc : ∀ i, i < m → w.cell? (x.add i) = some (V i))
    (hw : ∀ i, i < m → ∃ b, V i = .bool b) : SlB w w.heap.size (some x) len (fun i => boolOf (V i)) := by
  intro i hi
  obtain ⟨b, off, spot⟩ := x
  have h0 := hc i (by omega)
  have hspot : spot = none := by simpa [Addr.add] using World.cell?_spot (hc 0 (by omega))
  subst hspot
  rw [add_plain] at h0
  obtain ⟨bb, e⟩ := hw i (by omega)
  exact ⟨b, off, rfl, World.block_lt_of_cell? w ⟨b, off + i, none⟩ h0, by show _ = some (Value.bool (boolOf (V i))); rw [h0, e]; rfl⟩

end Go.Proofs.Qxb6601018a
