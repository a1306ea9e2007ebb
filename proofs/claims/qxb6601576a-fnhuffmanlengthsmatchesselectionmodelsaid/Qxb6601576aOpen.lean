/-
  FROM THE READING OF AN ARGUMENT (a slice of integers) to what the walks ask of it.
-/
import Derived.Test.Qxb6601576aClone
import Derived.ProofKit
import Derived.OpenShut
import Derived.Deep.Slices
import Derived.ChangeArms
set_option linter.unusedVariables false
namespace Go.Proofs.Qxb6601576a
open Go.ChangeShapes Go.WideShapes Go.ChangeAt Go.RowKit

theorem slI_of_cells {k : IntKind} {w : World} {x : Addr} {len : Nat} {zs : List Int} (hl : len ≤ zs.length) (hc : ∀ i, i < zs.length → w.cell? (x.add i) = some (.int k (zs.getD i 0))) :
    SlI k w (some x) len (fun i => zs.getD i 0) := by
  intro i hi
  obtain ⟨b, off, spot⟩ := x
  have h0 := hc i (by omega)
  have hspot : spot = none := by simpa [Addr.add] using World.cell?_spot (hc 0 (by omega))
  subst hspot
  rw [add_plain] at h0
  exact ⟨b, off, rfl, World.block_lt_of_cell? w ⟨b, off + i, none⟩ h0, h0⟩

end Go.Proofs.Qxb6601576a
