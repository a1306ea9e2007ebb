/-
  No cell of these rows narrows 'for every input' (looked for: loops, veiled, ifaces, maps, wideKeys, modest, calm, conditions, laid).
  DERIVED. THE GIVEN ROWS OF THIS SEAT. 7 by the template 'for every input the law returns true; each argument reads behind the call as it read before'; 0 by the template 'total and deterministic' (their statements: Qxb6601576aTotals.lean).
  GIVEN WITH THE SEED: the statements are not yours to turn. If you find one false, say at which input.
  Laid BY PROGRAM, IN A SANDBOX (cutbox-rows.mjs): the forced cells as the released guide's own fill.sh prints them over the translation a88ef1f551c71088… (all of the seat's roots in one cut). By AI agents, Wed Nov 11 2026. No macro, syntax, notation, axiom, sorry.
-/
import Derived.Test.Qxb6601576aChecked
import GoSem.Claim
import GoSem.ClaimJoined
import GoSem.ClaimMapViews
import Derived.JoinedTies
import Derived.KernelRfl
namespace Go.Proofs.Qxb6601576a
/- THE CELL 'sum', in the pinned program and in every row, IS THE sha256 OF THE DUMP (.gsa) THAT Qxb6601576aProg.lean LOADS. Nothing in Lean hashes anything: it is a label: what it is worth is what the hold of that sum in a sandbox is worth. -/
noncomputable def Try.pinned : Pinned := { name := "qxb6601576a", sum := "a88ef1f551c71088bcec3d873d4a49ca2969cfa44608767f1b2f37b8183fed0a", checked := Try.checked }
namespace Rows
def none {H : Type} : Left H := { results := [], args := [] }

/-- 'zzlaws_internal_bzip2_b1.FnStartLengthsTilesByShares': WHATEVER THE INPUT: true; the input reads as it did. -/
def fnStartLengthsTilesBySharesSpec : ChangeSpec := { name := "fnStartLengthsTilesByShares", fn := fun _ => fun
  | [d1, d2, d3, d4] => { results := [.lit (.bool true)], args := [d1, d2, d3, d4] }
  | _ => none }
def fnStartLengthsTilesBySharesRow : OpenClaim := { program := "qxb6601576a", sum := "a88ef1f551c71088bcec3d873d4a49ca2969cfa44608767f1b2f37b8183fed0a", func := "deltaline.example/deltaline/zzlaws_internal_bzip2_b1.FnStartLengthsTilesByShares", spec := "fnStartLengthsTilesByShares", apart := false }
def FnStartLengthsTilesBySharesSaid : Prop := fnStartLengthsTilesBySharesRow.holds Try.pinned (OpenSpec.ofChange fnStartLengthsTilesBySharesSpec)

/-- ITS FALSE NEIGHBOUR: 'it returns false'. Refute it at one input. -/
def fnStartLengthsTilesBySharesWrong : ChangeSpec := { name := "fnStartLengthsTilesByShares", fn := fun _ => fun
  | [d1, d2, d3, d4] => { results := [.lit (.bool false)], args := [d1, d2, d3, d4] }
  | _ => none }
def FnStartLengthsTilesBySharesWrongFalsely : Prop := fnStartLengthsTilesBySharesRow.holds Try.pinned (OpenSpec.ofChange fnStartLengthsTilesBySharesWrong)

/-- 'zzlaws_internal_bzip2_b1.FnStartLengthsFreesEachUsedSymbolOnce': WHATEVER THE INPUT: true; the input reads as it did. -/
def fnStartLengthsFreesEachUsedSymbolOnceSpec : ChangeSpec := { name := "fnStartLengthsFreesEachUsedSymbolOnce", fn := fun _ => fun
  | [d1, d2, d3, d4] => { results := [.lit (.bool true)], args := [d1, d2, d3, d4] }
  | _ => none }
def fnStartLengthsFreesEachUsedSymbolOnceRow : OpenClaim := { program := "qxb6601576a", sum := "a88ef1f551c71088bcec3d873d4a49ca2969cfa44608767f1b2f37b8183fed0a", func := "deltaline.example/deltaline/zzlaws_internal_bzip2_b1.FnStartLengthsFreesEachUsedSymbolOnce", spec := "fnStartLengthsFreesEachUsedSymbolOnce", apart := false }
def FnStartLengthsFreesEachUsedSymbolOnceSaid : Prop := fnStartLengthsFreesEachUsedSymbolOnceRow.holds Try.pinned (OpenSpec.ofChange fnStartLengthsFreesEachUsedSymbolOnceSpec)

/-- ITS FALSE NEIGHBOUR: 'it returns false'. Refute it at one input. -/
def fnStartLengthsFreesEachUsedSymbolOnceWrong : ChangeSpec := { name := "fnStartLengthsFreesEachUsedSymbolOnce", fn := fun _ => fun
  | [d1, d2, d3, d4] => { results := [.lit (.bool false)], args := [d1, d2, d3, d4] }
  | _ => none }
def FnStartLengthsFreesEachUsedSymbolOnceWrongFalsely : Prop := fnStartLengthsFreesEachUsedSymbolOnceRow.holds Try.pinned (OpenSpec.ofChange fnStartLengthsFreesEachUsedSymbolOnceWrong)

/-- 'zzlaws_internal_bzip2_b1.FnChooseMatchesDirectCosts': WHATEVER THE INPUT: true; the input reads as it did. -/
def fnChooseMatchesDirectCostsSpec : ChangeSpec := { name := "fnChooseMatchesDirectCosts", fn := fun _ => fun
  | [d1, d2, d3, d4, d5, d6, d7, d8, d9, d10] => { results := [.lit (.bool true)], args := [d1, d2, d3, d4, d5, d6, d7, d8, d9, d10] }
  | _ => none }
def fnChooseMatchesDirectCostsRow : OpenClaim := { program := "qxb6601576a", sum := "a88ef1f551c71088bcec3d873d4a49ca2969cfa44608767f1b2f37b8183fed0a", func := "deltaline.example/deltaline/zzlaws_internal_bzip2_b1.FnChooseMatchesDirectCosts", spec := "fnChooseMatchesDirectCosts", apart := false }
def FnChooseMatchesDirectCostsSaid : Prop := fnChooseMatchesDirectCostsRow.holds Try.pinned (OpenSpec.ofChange fnChooseMatchesDirectCostsSpec)

/-- ITS FALSE NEIGHBOUR: 'it returns false'. Refute it at one input. -/
def fnChooseMatchesDirectCostsWrong : ChangeSpec := { name := "fnChooseMatchesDirectCosts", fn := fun _ => fun
  | [d1, d2, d3, d4, d5, d6, d7, d8, d9, d10] => { results := [.lit (.bool false)], args := [d1, d2, d3, d4, d5, d6, d7, d8, d9, d10] }
  | _ => none }
def FnChooseMatchesDirectCostsWrongFalsely : Prop := fnChooseMatchesDirectCostsRow.holds Try.pinned (OpenSpec.ofChange fnChooseMatchesDirectCostsWrong)

/-- 'zzlaws_internal_bzip2_b1.FnChooseIsIdempotent': WHATEVER THE INPUT: true; the input reads as it did. -/
def fnChooseIsIdempotentSpec : ChangeSpec := { name := "fnChooseIsIdempotent", fn := fun _ => fun
  | [d1, d2, d3, d4, d5, d6, d7, d8, d9] => { results := [.lit (.bool true)], args := [d1, d2, d3, d4, d5, d6, d7, d8, d9] }
  | _ => none }
def fnChooseIsIdempotentRow : OpenClaim := { program := "qxb6601576a", sum := "a88ef1f551c71088bcec3d873d4a49ca2969cfa44608767f1b2f37b8183fed0a", func := "deltaline.example/deltaline/zzlaws_internal_bzip2_b1.FnChooseIsIdempotent", spec := "fnChooseIsIdempotent", apart := false }
def FnChooseIsIdempotentSaid : Prop := fnChooseIsIdempotentRow.holds Try.pinned (OpenSpec.ofChange fnChooseIsIdempotentSpec)

/-- ITS FALSE NEIGHBOUR: 'it returns false'. Refute it at one input. -/
def fnChooseIsIdempotentWrong : ChangeSpec := { name := "fnChooseIsIdempotent", fn := fun _ => fun
  | [d1, d2, d3, d4, d5, d6, d7, d8, d9] => { results := [.lit (.bool false)], args := [d1, d2, d3, d4, d5, d6, d7, d8, d9] }
  | _ => none }
def FnChooseIsIdempotentWrongFalsely : Prop := fnChooseIsIdempotentRow.holds Try.pinned (OpenSpec.ofChange fnChooseIsIdempotentWrong)

/-- 'zzlaws_internal_bzip2_b1.FnHuffmanLengthsMatchesSelectionModel': WHATEVER THE INPUT: true; the input reads as it did. -/
def fnHuffmanLengthsMatchesSelectionModelSpec : ChangeSpec := { name := "fnHuffmanLengthsMatchesSelectionModel", fn := fun _ => fun
  | [d1, d2] => { results := [.lit (.bool true)], args := [d1, d2] }
  | _ => none }
def fnHuffmanLengthsMatchesSelectionModelRow : OpenClaim := { program := "qxb6601576a", sum := "a88ef1f551c71088bcec3d873d4a49ca2969cfa44608767f1b2f37b8183fed0a", func := "deltaline.example/deltaline/zzlaws_internal_bzip2_b1.FnHuffmanLengthsMatchesSelectionModel", spec := "fnHuffmanLengthsMatchesSelectionModel", unfollowed := true, recurses := true, apart := false }
def FnHuffmanLengthsMatchesSelectionModelSaid : Prop := fnHuffmanLengthsMatchesSelectionModelRow.holds Try.pinned (OpenSpec.ofChange fnHuffmanLengthsMatchesSelectionModelSpec)

/-- ITS FALSE NEIGHBOUR: 'it returns false'. Refute it at one input. -/
def fnHuffmanLengthsMatchesSelectionModelWrong : ChangeSpec := { name := "fnHuffmanLengthsMatchesSelectionModel", fn := fun _ => fun
  | [d1, d2] => { results := [.lit (.bool false)], args := [d1, d2] }
  | _ => none }
def FnHuffmanLengthsMatchesSelectionModelWrongFalsely : Prop := fnHuffmanLengthsMatchesSelectionModelRow.holds Try.pinned (OpenSpec.ofChange fnHuffmanLengthsMatchesSelectionModelWrong)

/-- 'zzlaws_internal_bzip2_b1.FnHuffmanLengthsFillTheCode': WHATEVER THE INPUT: true; the input reads as it did. -/
def fnHuffmanLengthsFillTheCodeSpec : ChangeSpec := { name := "fnHuffmanLengthsFillTheCode", fn := fun _ => fun
  | [d1, d2] => { results := [.lit (.bool true)], args := [d1, d2] }
  | _ => none }
def fnHuffmanLengthsFillTheCodeRow : OpenClaim := { program := "qxb6601576a", sum := "a88ef1f551c71088bcec3d873d4a49ca2969cfa44608767f1b2f37b8183fed0a", func := "deltaline.example/deltaline/zzlaws_internal_bzip2_b1.FnHuffmanLengthsFillTheCode", spec := "fnHuffmanLengthsFillTheCode", unfollowed := true, recurses := true, apart := false }
def FnHuffmanLengthsFillTheCodeSaid : Prop := fnHuffmanLengthsFillTheCodeRow.holds Try.pinned (OpenSpec.ofChange fnHuffmanLengthsFillTheCodeSpec)

/-- ITS FALSE NEIGHBOUR: 'it returns false'. Refute it at one input. -/
def fnHuffmanLengthsFillTheCodeWrong : ChangeSpec := { name := "fnHuffmanLengthsFillTheCode", fn := fun _ => fun
  | [d1, d2] => { results := [.lit (.bool false)], args := [d1, d2] }
  | _ => none }
def FnHuffmanLengthsFillTheCodeWrongFalsely : Prop := fnHuffmanLengthsFillTheCodeRow.holds Try.pinned (OpenSpec.ofChange fnHuffmanLengthsFillTheCodeWrong)

/-- 'zzlaws_internal_bzip2_b1.FnHuffmanLengthsHeavierNotLonger': WHATEVER THE INPUT: true; the input reads as it did. -/
def fnHuffmanLengthsHeavierNotLongerSpec : ChangeSpec := { name := "fnHuffmanLengthsHeavierNotLonger", fn := fun _ => fun
  | [d1, d2] => { results := [.lit (.bool true)], args := [d1, d2] }
  | _ => none }
def fnHuffmanLengthsHeavierNotLongerRow : OpenClaim := { program := "qxb6601576a", sum := "a88ef1f551c71088bcec3d873d4a49ca2969cfa44608767f1b2f37b8183fed0a", func := "deltaline.example/deltaline/zzlaws_internal_bzip2_b1.FnHuffmanLengthsHeavierNotLonger", spec := "fnHuffmanLengthsHeavierNotLonger", unfollowed := true, recurses := true, apart := false }
def FnHuffmanLengthsHeavierNotLongerSaid : Prop := fnHuffmanLengthsHeavierNotLongerRow.holds Try.pinned (OpenSpec.ofChange fnHuffmanLengthsHeavierNotLongerSpec)

/-- ITS FALSE NEIGHBOUR: 'it returns false'. Refute it at one input. -/
def fnHuffmanLengthsHeavierNotLongerWrong : ChangeSpec := { name := "fnHuffmanLengthsHeavierNotLonger", fn := fun _ => fun
  | [d1, d2] => { results := [.lit (.bool false)], args := [d1, d2] }
  | _ => none }
def FnHuffmanLengthsHeavierNotLongerWrongFalsely : Prop := fnHuffmanLengthsHeavierNotLongerRow.holds Try.pinned (OpenSpec.ofChange fnHuffmanLengthsHeavierNotLongerWrong)

end Rows
end Go.Proofs.Qxb6601576a
