/-
  No cell of these rows narrows 'for every input' (looked for: loops, veiled, ifaces, maps, wideKeys, modest, calm, conditions, laid).
  DERIVED. THE GIVEN ROWS OF THIS SEAT. 5 by the template 'for every input the law returns true; each argument reads behind the call as it read before'; 0 by the template 'total and deterministic' (their statements: Qxb6617947aTotals.lean).
  GIVEN WITH THE SEED: the statements are not yours to turn. If you find one false, say at which input.
  Laid BY PROGRAM, IN A SANDBOX (cutbox-rows.mjs): the forced cells as the released guide's own fill.sh prints them over the translation ea6057eb951af42a… (all of the seat's roots in one cut). By AI agents, Wed Nov 11 2026. No macro, syntax, notation, axiom, sorry.
-/
import Derived.Test.Qxb6617947aChecked
import GoSem.Claim
import GoSem.ClaimJoined
import GoSem.ClaimMapViews
import Derived.JoinedTies
import Derived.KernelRfl
namespace Go.Proofs.Qxb6617947a
/- THE CELL 'sum', in the pinned program and in every row, IS THE sha256 OF THE DUMP (.gsa) THAT Qxb6617947aProg.lean LOADS. Nothing in Lean hashes anything: it is a label: what it is worth is what the hold of that sum in a sandbox is worth. -/
noncomputable def Try.pinned : Pinned := { name := "qxb6617947a", sum := "ea6057eb951af42a42f2b72606677ad095f3cde360c3f88bbdd81b4553b933a7", checked := Try.checked }
namespace Rows
def none {H : Type} : Left H := { results := [], args := [] }

/-- 'zzlaws_internal_huffman_b1.FnTakeMadeMergesInWeightOrder': WHATEVER THE INPUT: true; the input reads as it did. -/
def fnTakeMadeMergesInWeightOrderSpec : ChangeSpec := { name := "fnTakeMadeMergesInWeightOrder", fn := fun _ => fun
  | [d1, d2, d3, d4, d5, d6] => { results := [.lit (.bool true)], args := [d1, d2, d3, d4, d5, d6] }
  | _ => none }
def fnTakeMadeMergesInWeightOrderRow : OpenClaim := { program := "qxb6617947a", sum := "ea6057eb951af42a42f2b72606677ad095f3cde360c3f88bbdd81b4553b933a7", func := "example.com/quaymark/quaymark/zzlaws_internal_huffman_b1.FnTakeMadeMergesInWeightOrder", spec := "fnTakeMadeMergesInWeightOrder", apart := false }
def FnTakeMadeMergesInWeightOrderSaid : Prop := fnTakeMadeMergesInWeightOrderRow.holds Try.pinned (OpenSpec.ofChange fnTakeMadeMergesInWeightOrderSpec)

/-- ITS FALSE NEIGHBOUR: 'it returns false'. Refute it at one input. -/
def fnTakeMadeMergesInWeightOrderWrong : ChangeSpec := { name := "fnTakeMadeMergesInWeightOrder", fn := fun _ => fun
  | [d1, d2, d3, d4, d5, d6] => { results := [.lit (.bool false)], args := [d1, d2, d3, d4, d5, d6] }
  | _ => none }
def FnTakeMadeMergesInWeightOrderWrongFalsely : Prop := fnTakeMadeMergesInWeightOrderRow.holds Try.pinned (OpenSpec.ofChange fnTakeMadeMergesInWeightOrderWrong)

/-- 'zzlaws_internal_huffman_b1.FnPackageMergeScaleInvariant': WHATEVER THE INPUT: true; the input reads as it did. -/
def fnPackageMergeScaleInvariantSpec : ChangeSpec := { name := "fnPackageMergeScaleInvariant", fn := fun _ => fun
  | [d1, d2, d3, d4, d5] => { results := [.lit (.bool true)], args := [d1, d2, d3, d4, d5] }
  | _ => none }
def fnPackageMergeScaleInvariantRow : OpenClaim := { program := "qxb6617947a", sum := "ea6057eb951af42a42f2b72606677ad095f3cde360c3f88bbdd81b4553b933a7", func := "example.com/quaymark/quaymark/zzlaws_internal_huffman_b1.FnPackageMergeScaleInvariant", spec := "fnPackageMergeScaleInvariant", apart := false }
def FnPackageMergeScaleInvariantSaid : Prop := fnPackageMergeScaleInvariantRow.holds Try.pinned (OpenSpec.ofChange fnPackageMergeScaleInvariantSpec)

/-- ITS FALSE NEIGHBOUR: 'it returns false'. Refute it at one input. -/
def fnPackageMergeScaleInvariantWrong : ChangeSpec := { name := "fnPackageMergeScaleInvariant", fn := fun _ => fun
  | [d1, d2, d3, d4, d5] => { results := [.lit (.bool false)], args := [d1, d2, d3, d4, d5] }
  | _ => none }
def FnPackageMergeScaleInvariantWrongFalsely : Prop := fnPackageMergeScaleInvariantRow.holds Try.pinned (OpenSpec.ofChange fnPackageMergeScaleInvariantWrong)

/-- 'zzlaws_internal_huffman_b1.FnLengthsOptimalLimitedCode': WHATEVER THE INPUT: true; the input reads as it did. -/
def fnLengthsOptimalLimitedCodeSpec : ChangeSpec := { name := "fnLengthsOptimalLimitedCode", fn := fun _ => fun
  | [d1, d2, d3] => { results := [.lit (.bool true)], args := [d1, d2, d3] }
  | _ => none }
def fnLengthsOptimalLimitedCodeRow : OpenClaim := { program := "qxb6617947a", sum := "ea6057eb951af42a42f2b72606677ad095f3cde360c3f88bbdd81b4553b933a7", func := "example.com/quaymark/quaymark/zzlaws_internal_huffman_b1.FnLengthsOptimalLimitedCode", spec := "fnLengthsOptimalLimitedCode", recurses := true, apart := false }
def FnLengthsOptimalLimitedCodeSaid : Prop := fnLengthsOptimalLimitedCodeRow.holds Try.pinned (OpenSpec.ofChange fnLengthsOptimalLimitedCodeSpec)

/-- ITS FALSE NEIGHBOUR: 'it returns false'. Refute it at one input. -/
def fnLengthsOptimalLimitedCodeWrong : ChangeSpec := { name := "fnLengthsOptimalLimitedCode", fn := fun _ => fun
  | [d1, d2, d3] => { results := [.lit (.bool false)], args := [d1, d2, d3] }
  | _ => none }
def FnLengthsOptimalLimitedCodeWrongFalsely : Prop := fnLengthsOptimalLimitedCodeRow.holds Try.pinned (OpenSpec.ofChange fnLengthsOptimalLimitedCodeWrong)

/-- 'zzlaws_internal_huffman_b1.FnLengthsScaleInvariant': WHATEVER THE INPUT: true; the input reads as it did. -/
def fnLengthsScaleInvariantSpec : ChangeSpec := { name := "fnLengthsScaleInvariant", fn := fun _ => fun
  | [d1, d2, d3, d4] => { results := [.lit (.bool true)], args := [d1, d2, d3, d4] }
  | _ => none }
def fnLengthsScaleInvariantRow : OpenClaim := { program := "qxb6617947a", sum := "ea6057eb951af42a42f2b72606677ad095f3cde360c3f88bbdd81b4553b933a7", func := "example.com/quaymark/quaymark/zzlaws_internal_huffman_b1.FnLengthsScaleInvariant", spec := "fnLengthsScaleInvariant", recurses := true, apart := false }
def FnLengthsScaleInvariantSaid : Prop := fnLengthsScaleInvariantRow.holds Try.pinned (OpenSpec.ofChange fnLengthsScaleInvariantSpec)

/-- ITS FALSE NEIGHBOUR: 'it returns false'. Refute it at one input. -/
def fnLengthsScaleInvariantWrong : ChangeSpec := { name := "fnLengthsScaleInvariant", fn := fun _ => fun
  | [d1, d2, d3, d4] => { results := [.lit (.bool false)], args := [d1, d2, d3, d4] }
  | _ => none }
def FnLengthsScaleInvariantWrongFalsely : Prop := fnLengthsScaleInvariantRow.holds Try.pinned (OpenSpec.ofChange fnLengthsScaleInvariantWrong)

/-- 'zzlaws_internal_huffman_b1.FnLengthsZeroSymbolInserted': WHATEVER THE INPUT: true; the input reads as it did. -/
def fnLengthsZeroSymbolInsertedSpec : ChangeSpec := { name := "fnLengthsZeroSymbolInserted", fn := fun _ => fun
  | [d1, d2, d3, d4] => { results := [.lit (.bool true)], args := [d1, d2, d3, d4] }
  | _ => none }
def fnLengthsZeroSymbolInsertedRow : OpenClaim := { program := "qxb6617947a", sum := "ea6057eb951af42a42f2b72606677ad095f3cde360c3f88bbdd81b4553b933a7", func := "example.com/quaymark/quaymark/zzlaws_internal_huffman_b1.FnLengthsZeroSymbolInserted", spec := "fnLengthsZeroSymbolInserted", recurses := true, apart := false }
def FnLengthsZeroSymbolInsertedSaid : Prop := fnLengthsZeroSymbolInsertedRow.holds Try.pinned (OpenSpec.ofChange fnLengthsZeroSymbolInsertedSpec)

/-- ITS FALSE NEIGHBOUR: 'it returns false'. Refute it at one input. -/
def fnLengthsZeroSymbolInsertedWrong : ChangeSpec := { name := "fnLengthsZeroSymbolInserted", fn := fun _ => fun
  | [d1, d2, d3, d4] => { results := [.lit (.bool false)], args := [d1, d2, d3, d4] }
  | _ => none }
def FnLengthsZeroSymbolInsertedWrongFalsely : Prop := fnLengthsZeroSymbolInsertedRow.holds Try.pinned (OpenSpec.ofChange fnLengthsZeroSymbolInsertedWrong)

end Rows
end Go.Proofs.Qxb6617947a
