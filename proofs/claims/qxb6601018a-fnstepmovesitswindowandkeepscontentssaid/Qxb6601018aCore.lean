/-
  PLAIN MATHEMATICS of an index that moves from an old table to a new one. No Go, no program.
-/
import Derived.Test.Qxb6601018aPlain
set_option linter.unusedVariables false
namespace Go.Proofs.Qxb6601018a

/-- an index: sz places P, n of them taken; the old table O of om places (om = 0: there is none), of which those before nx have moved -/
structure Ix where
  sz : Nat
  n : Nat
  om : Nat
  nx : Nat
  P : Tab
  O : Tab

end Go.Proofs.Qxb6601018a
