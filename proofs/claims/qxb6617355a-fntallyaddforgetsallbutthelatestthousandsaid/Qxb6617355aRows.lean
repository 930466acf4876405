/-
  No cell of these rows narrows 'for every input' (looked for: loops, veiled, ifaces, maps, wideKeys, modest, calm, conditions, laid).
  DERIVED. THE GIVEN ROWS OF THIS SEAT. 4 by the template 'for every input the law returns true; each argument reads behind the call as it read before'; 0 by the template 'total and deterministic' (their statements: Qxb6617355aTotals.lean).
  GIVEN WITH THE SEED: the statements are not yours to turn. If you find one false, say at which input.
  Laid BY PROGRAM, IN A SANDBOX (cutbox-rows.mjs): the forced cells as the released guide's own fill.sh prints them over the translation 662260e5f23c749d… (all of the seat's roots in one cut). By AI agents, Wed Nov 11 2026. No macro, syntax, notation, axiom, sorry.
-/
import Derived.Test.Qxb6617355aChecked
import GoSem.Claim
import GoSem.ClaimJoined
import GoSem.ClaimMapViews
import Derived.JoinedTies
import Derived.KernelRfl
namespace Go.Proofs.Qxb6617355a
/- THE CELL 'sum', in the pinned program and in every row, IS THE sha256 OF THE DUMP (.gsa) THAT Qxb6617355aProg.lean LOADS. Nothing in Lean hashes anything: it is a label: what it is worth is what the hold of that sum in a sandbox is worth. -/
noncomputable def Try.pinned : Pinned := { name := "qxb6617355a", sum := "662260e5f23c749df727a572db7566d5fa9a9ea786cbe33637fad23bda2d9ab6", checked := Try.checked }
namespace Rows
def none {H : Type} : Left H := { results := [], args := [] }

/-- 'zzlaws_health_b1.FnFiguresMetricIsNearestWholeMetric': WHATEVER THE INPUT: true; the input reads as it did. -/
def fnFiguresMetricIsNearestWholeMetricSpec : ChangeSpec := { name := "fnFiguresMetricIsNearestWholeMetric", fn := fun _ => fun
  | [d1, d2, d3, d4] => { results := [.lit (.bool true)], args := [d1, d2, d3, d4] }
  | _ => none }
def fnFiguresMetricIsNearestWholeMetricRow : OpenClaim := { program := "qxb6617355a", sum := "662260e5f23c749df727a572db7566d5fa9a9ea786cbe33637fad23bda2d9ab6", func := "example.com/meshwright/meshwright/zzlaws_health_b1.FnFiguresMetricIsNearestWholeMetric", spec := "fnFiguresMetricIsNearestWholeMetric", apart := false }
def FnFiguresMetricIsNearestWholeMetricSaid : Prop := fnFiguresMetricIsNearestWholeMetricRow.holds Try.pinned (OpenSpec.ofChange fnFiguresMetricIsNearestWholeMetricSpec)

/-- ITS FALSE NEIGHBOUR: 'it returns false'. Refute it at one input. -/
def fnFiguresMetricIsNearestWholeMetricWrong : ChangeSpec := { name := "fnFiguresMetricIsNearestWholeMetric", fn := fun _ => fun
  | [d1, d2, d3, d4] => { results := [.lit (.bool false)], args := [d1, d2, d3, d4] }
  | _ => none }
def FnFiguresMetricIsNearestWholeMetricWrongFalsely : Prop := fnFiguresMetricIsNearestWholeMetricRow.holds Try.pinned (OpenSpec.ofChange fnFiguresMetricIsNearestWholeMetricWrong)

/-- 'zzlaws_health_b1.FnFiguresMetricWeighsEachUnit': WHATEVER THE INPUT: true; the input reads as it did. -/
def fnFiguresMetricWeighsEachUnitSpec : ChangeSpec := { name := "fnFiguresMetricWeighsEachUnit", fn := fun _ => fun
  | [d1, d2, d3, d4] => { results := [.lit (.bool true)], args := [d1, d2, d3, d4] }
  | _ => none }
def fnFiguresMetricWeighsEachUnitRow : OpenClaim := { program := "qxb6617355a", sum := "662260e5f23c749df727a572db7566d5fa9a9ea786cbe33637fad23bda2d9ab6", func := "example.com/meshwright/meshwright/zzlaws_health_b1.FnFiguresMetricWeighsEachUnit", spec := "fnFiguresMetricWeighsEachUnit", apart := false }
def FnFiguresMetricWeighsEachUnitSaid : Prop := fnFiguresMetricWeighsEachUnitRow.holds Try.pinned (OpenSpec.ofChange fnFiguresMetricWeighsEachUnitSpec)

/-- ITS FALSE NEIGHBOUR: 'it returns false'. Refute it at one input. -/
def fnFiguresMetricWeighsEachUnitWrong : ChangeSpec := { name := "fnFiguresMetricWeighsEachUnit", fn := fun _ => fun
  | [d1, d2, d3, d4] => { results := [.lit (.bool false)], args := [d1, d2, d3, d4] }
  | _ => none }
def FnFiguresMetricWeighsEachUnitWrongFalsely : Prop := fnFiguresMetricWeighsEachUnitRow.holds Try.pinned (OpenSpec.ofChange fnFiguresMetricWeighsEachUnitWrong)

/-- 'zzlaws_health_b1.FnTallyAddKeepsTheLatestThousand': WHATEVER THE INPUT: true; the input reads as it did. -/
def fnTallyAddKeepsTheLatestThousandSpec : ChangeSpec := { name := "fnTallyAddKeepsTheLatestThousand", fn := fun _ => fun
  | [d1, d2, d3, d4, d5, d6] => { results := [.lit (.bool true)], args := [d1, d2, d3, d4, d5, d6] }
  | _ => none }
def fnTallyAddKeepsTheLatestThousandRow : OpenClaim := { program := "qxb6617355a", sum := "662260e5f23c749df727a572db7566d5fa9a9ea786cbe33637fad23bda2d9ab6", func := "example.com/meshwright/meshwright/zzlaws_health_b1.FnTallyAddKeepsTheLatestThousand", spec := "fnTallyAddKeepsTheLatestThousand", apart := false }
def FnTallyAddKeepsTheLatestThousandSaid : Prop := fnTallyAddKeepsTheLatestThousandRow.holds Try.pinned (OpenSpec.ofChange fnTallyAddKeepsTheLatestThousandSpec)

/-- ITS FALSE NEIGHBOUR: 'it returns false'. Refute it at one input. -/
def fnTallyAddKeepsTheLatestThousandWrong : ChangeSpec := { name := "fnTallyAddKeepsTheLatestThousand", fn := fun _ => fun
  | [d1, d2, d3, d4, d5, d6] => { results := [.lit (.bool false)], args := [d1, d2, d3, d4, d5, d6] }
  | _ => none }
def FnTallyAddKeepsTheLatestThousandWrongFalsely : Prop := fnTallyAddKeepsTheLatestThousandRow.holds Try.pinned (OpenSpec.ofChange fnTallyAddKeepsTheLatestThousandWrong)

/-- 'zzlaws_health_b1.FnTallyAddForgetsAllButTheLatestThousand': WHATEVER THE INPUT: true; the input reads as it did. -/
def fnTallyAddForgetsAllButTheLatestThousandSpec : ChangeSpec := { name := "fnTallyAddForgetsAllButTheLatestThousand", fn := fun _ => fun
  | [d1, d2, d3, d4, d5] => { results := [.lit (.bool true)], args := [d1, d2, d3, d4, d5] }
  | _ => none }
def fnTallyAddForgetsAllButTheLatestThousandRow : OpenClaim := { program := "qxb6617355a", sum := "662260e5f23c749df727a572db7566d5fa9a9ea786cbe33637fad23bda2d9ab6", func := "example.com/meshwright/meshwright/zzlaws_health_b1.FnTallyAddForgetsAllButTheLatestThousand", spec := "fnTallyAddForgetsAllButTheLatestThousand", apart := false }
def FnTallyAddForgetsAllButTheLatestThousandSaid : Prop := fnTallyAddForgetsAllButTheLatestThousandRow.holds Try.pinned (OpenSpec.ofChange fnTallyAddForgetsAllButTheLatestThousandSpec)

/-- ITS FALSE NEIGHBOUR: 'it returns false'. Refute it at one input. -/
def fnTallyAddForgetsAllButTheLatestThousandWrong : ChangeSpec := { name := "fnTallyAddForgetsAllButTheLatestThousand", fn := fun _ => fun
  | [d1, d2, d3, d4, d5] => { results := [.lit (.bool false)], args := [d1, d2, d3, d4, d5] }
  | _ => none }
def FnTallyAddForgetsAllButTheLatestThousandWrongFalsely : Prop := fnTallyAddForgetsAllButTheLatestThousandRow.holds Try.pinned (OpenSpec.ofChange fnTallyAddForgetsAllButTheLatestThousandWrong)

end Rows
end Go.Proofs.Qxb6617355a
