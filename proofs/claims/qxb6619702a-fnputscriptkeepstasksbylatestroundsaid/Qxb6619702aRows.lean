/-
  No cell of these rows narrows 'for every input' (looked for: loops, veiled, ifaces, maps, wideKeys, modest, calm, conditions, laid).
  DERIVED. THE GIVEN ROWS OF THIS SEAT. 4 by the template 'for every input the law returns true; each argument reads behind the call as it read before'; 0 by the template 'total and deterministic' (their statements: Qxb6619702aTotals.lean).
  GIVEN WITH THE SEED: the statements are not yours to turn. If you find one false, say at which input.
  Laid BY PROGRAM, IN A SANDBOX (cutbox-rows.mjs): the forced cells as the released guide's own fill.sh prints them over the translation 781ac7cc193e0062… (all of the seat's roots in one cut). By AI agents, Wed Nov 11 2026. No macro, syntax, notation, axiom, sorry.
-/
import Derived.Test.Qxb6619702aChecked
import GoSem.Claim
import GoSem.ClaimJoined
import GoSem.ClaimMapViews
import Derived.JoinedTies
import Derived.KernelRfl
namespace Go.Proofs.Qxb6619702a
/- THE CELL 'sum', in the pinned program and in every row, IS THE sha256 OF THE DUMP (.gsa) THAT Qxb6619702aProg.lean LOADS. Nothing in Lean hashes anything: it is a label: what it is worth is what the hold of that sum in a sandbox is worth. -/
noncomputable def Try.pinned : Pinned := { name := "qxb6619702a", sum := "781ac7cc193e00623cfcd859c18ae4f35baa3eb65997d626001f0fdc38ab7833", checked := Try.checked }
namespace Rows
def none {H : Type} : Left H := { results := [], args := [] }

/-- 'zzlaws_controller_b1.FnAppendToolPairsNamesEachToolSpace': WHATEVER THE INPUT: true; the input reads as it did. -/
def fnAppendToolPairsNamesEachToolSpaceSpec : ChangeSpec := { name := "fnAppendToolPairsNamesEachToolSpace", fn := fun _ => fun
  | [d1, d2, d3, d4] => { results := [.lit (.bool true)], args := [d1, d2, d3, d4] }
  | _ => none }
def fnAppendToolPairsNamesEachToolSpaceRow : OpenClaim := { program := "qxb6619702a", sum := "781ac7cc193e00623cfcd859c18ae4f35baa3eb65997d626001f0fdc38ab7833", func := "example.com/tackful/tackful/zzlaws_controller_b1.FnAppendToolPairsNamesEachToolSpace", spec := "fnAppendToolPairsNamesEachToolSpace", inPlace := ["internal/abi.NoEscape", "internal/bytealg.MakeNoZero"], apart := false }
def FnAppendToolPairsNamesEachToolSpaceSaid : Prop := fnAppendToolPairsNamesEachToolSpaceRow.holds Try.pinned (OpenSpec.ofChange fnAppendToolPairsNamesEachToolSpaceSpec)

/-- ITS FALSE NEIGHBOUR: 'it returns false'. Refute it at one input. -/
def fnAppendToolPairsNamesEachToolSpaceWrong : ChangeSpec := { name := "fnAppendToolPairsNamesEachToolSpace", fn := fun _ => fun
  | [d1, d2, d3, d4] => { results := [.lit (.bool false)], args := [d1, d2, d3, d4] }
  | _ => none }
def FnAppendToolPairsNamesEachToolSpaceWrongFalsely : Prop := fnAppendToolPairsNamesEachToolSpaceRow.holds Try.pinned (OpenSpec.ofChange fnAppendToolPairsNamesEachToolSpaceWrong)

/-- 'zzlaws_controller_b1.FnAppendToolPairsSplitsAtAnyCut': WHATEVER THE INPUT: true; the input reads as it did. -/
def fnAppendToolPairsSplitsAtAnyCutSpec : ChangeSpec := { name := "fnAppendToolPairsSplitsAtAnyCut", fn := fun _ => fun
  | [d1, d2, d3, d4, d5] => { results := [.lit (.bool true)], args := [d1, d2, d3, d4, d5] }
  | _ => none }
def fnAppendToolPairsSplitsAtAnyCutRow : OpenClaim := { program := "qxb6619702a", sum := "781ac7cc193e00623cfcd859c18ae4f35baa3eb65997d626001f0fdc38ab7833", func := "example.com/tackful/tackful/zzlaws_controller_b1.FnAppendToolPairsSplitsAtAnyCut", spec := "fnAppendToolPairsSplitsAtAnyCut", inPlace := ["internal/abi.NoEscape", "internal/bytealg.MakeNoZero"], apart := false }
def FnAppendToolPairsSplitsAtAnyCutSaid : Prop := fnAppendToolPairsSplitsAtAnyCutRow.holds Try.pinned (OpenSpec.ofChange fnAppendToolPairsSplitsAtAnyCutSpec)

/-- ITS FALSE NEIGHBOUR: 'it returns false'. Refute it at one input. -/
def fnAppendToolPairsSplitsAtAnyCutWrong : ChangeSpec := { name := "fnAppendToolPairsSplitsAtAnyCut", fn := fun _ => fun
  | [d1, d2, d3, d4, d5] => { results := [.lit (.bool false)], args := [d1, d2, d3, d4, d5] }
  | _ => none }
def FnAppendToolPairsSplitsAtAnyCutWrongFalsely : Prop := fnAppendToolPairsSplitsAtAnyCutRow.holds Try.pinned (OpenSpec.ofChange fnAppendToolPairsSplitsAtAnyCutWrong)

/-- 'zzlaws_controller_b1.FnPutScriptKeepsTasksByLatestRound': WHATEVER THE INPUT: true; the input reads as it did. -/
def fnPutScriptKeepsTasksByLatestRoundSpec : ChangeSpec := { name := "fnPutScriptKeepsTasksByLatestRound", fn := fun _ => fun
  | [d1, d2, d3, d4, d5, d6] => { results := [.lit (.bool true)], args := [d1, d2, d3, d4, d5, d6] }
  | _ => none }
def fnPutScriptKeepsTasksByLatestRoundRow : OpenClaim := { program := "qxb6619702a", sum := "781ac7cc193e00623cfcd859c18ae4f35baa3eb65997d626001f0fdc38ab7833", func := "example.com/tackful/tackful/zzlaws_controller_b1.FnPutScriptKeepsTasksByLatestRound", spec := "fnPutScriptKeepsTasksByLatestRound", apart := false }
def FnPutScriptKeepsTasksByLatestRoundSaid : Prop := fnPutScriptKeepsTasksByLatestRoundRow.holds Try.pinned (OpenSpec.ofChange fnPutScriptKeepsTasksByLatestRoundSpec)

/-- ITS FALSE NEIGHBOUR: 'it returns false'. Refute it at one input. -/
def fnPutScriptKeepsTasksByLatestRoundWrong : ChangeSpec := { name := "fnPutScriptKeepsTasksByLatestRound", fn := fun _ => fun
  | [d1, d2, d3, d4, d5, d6] => { results := [.lit (.bool false)], args := [d1, d2, d3, d4, d5, d6] }
  | _ => none }
def FnPutScriptKeepsTasksByLatestRoundWrongFalsely : Prop := fnPutScriptKeepsTasksByLatestRoundRow.holds Try.pinned (OpenSpec.ofChange fnPutScriptKeepsTasksByLatestRoundWrong)

/-- 'zzlaws_controller_b1.FnPutKeepsTaskLatestInOrder': WHATEVER THE INPUT: true; the input reads as it did. -/
def fnPutKeepsTaskLatestInOrderSpec : ChangeSpec := { name := "fnPutKeepsTaskLatestInOrder", fn := fun _ => fun
  | [d1, d2, d3, d4, d5, d6, d7, d8, d9] => { results := [.lit (.bool true)], args := [d1, d2, d3, d4, d5, d6, d7, d8, d9] }
  | _ => none }
def fnPutKeepsTaskLatestInOrderRow : OpenClaim := { program := "qxb6619702a", sum := "781ac7cc193e00623cfcd859c18ae4f35baa3eb65997d626001f0fdc38ab7833", func := "example.com/tackful/tackful/zzlaws_controller_b1.FnPutKeepsTaskLatestInOrder", spec := "fnPutKeepsTaskLatestInOrder", apart := false }
def FnPutKeepsTaskLatestInOrderSaid : Prop := fnPutKeepsTaskLatestInOrderRow.holds Try.pinned (OpenSpec.ofChange fnPutKeepsTaskLatestInOrderSpec)

/-- ITS FALSE NEIGHBOUR: 'it returns false'. Refute it at one input. -/
def fnPutKeepsTaskLatestInOrderWrong : ChangeSpec := { name := "fnPutKeepsTaskLatestInOrder", fn := fun _ => fun
  | [d1, d2, d3, d4, d5, d6, d7, d8, d9] => { results := [.lit (.bool false)], args := [d1, d2, d3, d4, d5, d6, d7, d8, d9] }
  | _ => none }
def FnPutKeepsTaskLatestInOrderWrongFalsely : Prop := fnPutKeepsTaskLatestInOrderRow.holds Try.pinned (OpenSpec.ofChange fnPutKeepsTaskLatestInOrderWrong)

end Rows
end Go.Proofs.Qxb6619702a
