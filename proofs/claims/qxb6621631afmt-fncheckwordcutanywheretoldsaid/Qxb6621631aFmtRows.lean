/-
  No cell of these rows narrows 'for every input' (looked for: loops, veiled, ifaces, maps, wideKeys, modest, calm, conditions, laid).
  DERIVED. THE GIVEN ROWS OF THIS SEAT. 5 by the template 'for every input the law returns true; each argument reads behind the call as it read before'; 0 by the template 'total and deterministic' (their statements: Qxb6621631aFmtTotals.lean).
  GIVEN WITH THE SEED: the statements are not yours to turn. If you find one false, say at which input.
  Laid BY PROGRAM, IN A SANDBOX (cutbox-rows.mjs): the forced cells as the released guide's own fill.sh prints them over the translation 58d4f1b131629f66… (all of the seat's roots in one cut). By AI agents, Wed Nov 11 2026. No macro, syntax, notation, axiom, sorry.
-/
import Derived.Test.Qxb6621631aFmtChecked
import GoSem.Claim
import GoSem.ClaimJoined
import GoSem.ClaimMapViews
import Derived.JoinedTies
import Derived.KernelRfl
namespace Go.Proofs.Qxb6621631aFmt
/- THE CELL 'sum', in the pinned program and in every row, IS THE sha256 OF THE DUMP (.gsa) THAT Qxb6621631aFmtProg.lean LOADS. Nothing in Lean hashes anything: it is a label: what it is worth is what the hold of that sum in a sandbox is worth. -/
noncomputable def Tryf.pinned : Pinned := { name := "qxb6621631afmt", sum := "58d4f1b131629f667368259def1d8bbf49d130c76db8391d6a74475c6fcbb76b", checked := Tryf.checked }
namespace Rows
def none {H : Type} : Left H := { results := [], args := [] }

/-- 'zzlaws_internal_names_e1.FnCheckWordLeastMax': WHATEVER THE INPUT: true; the input reads as it did. -/
def fnCheckWordLeastMaxSpec : ChangeSpec := { name := "fnCheckWordLeastMax", fn := fun _ => fun
  | [d1, d2] => { results := [.lit (.bool true)], args := [d1, d2] }
  | _ => none }
def fnCheckWordLeastMaxRow : OpenClaim := { program := "qxb6621631afmt", sum := "58d4f1b131629f667368259def1d8bbf49d130c76db8391d6a74475c6fcbb76b", func := "example.com/fencepost/fencepost/zzlaws_internal_names_e1.FnCheckWordLeastMax", spec := "fnCheckWordLeastMax", stops := ["fmt.errorf"], inPlace := ["fmt.errorf"], apart := false }
/-- NO THEOREM (fmt's text is open here; it may be false): for the released tool's asking of the row's closed facts alone. THE STATEMENT IS 'FnCheckWordLeastMaxToldSaid' (Qxb6621631aFmtCards.lean). -/
def FnCheckWordLeastMaxFormAsk : Prop := fnCheckWordLeastMaxRow.holds Tryf.pinned (OpenSpec.ofChange fnCheckWordLeastMaxSpec)

/-- ITS FALSE NEIGHBOUR: 'it returns false'. Refute it at one input. -/
def fnCheckWordLeastMaxWrong : ChangeSpec := { name := "fnCheckWordLeastMax", fn := fun _ => fun
  | [d1, d2] => { results := [.lit (.bool false)], args := [d1, d2] }
  | _ => none }
def FnCheckWordLeastMaxWrongFormAsk : Prop := fnCheckWordLeastMaxRow.holds Tryf.pinned (OpenSpec.ofChange fnCheckWordLeastMaxWrong)

/-- 'zzlaws_internal_names_e1.FnCheckWordCutAnywhere': WHATEVER THE INPUT: true; the input reads as it did. -/
def fnCheckWordCutAnywhereSpec : ChangeSpec := { name := "fnCheckWordCutAnywhere", fn := fun _ => fun
  | [d1, d2, d3] => { results := [.lit (.bool true)], args := [d1, d2, d3] }
  | _ => none }
def fnCheckWordCutAnywhereRow : OpenClaim := { program := "qxb6621631afmt", sum := "58d4f1b131629f667368259def1d8bbf49d130c76db8391d6a74475c6fcbb76b", func := "example.com/fencepost/fencepost/zzlaws_internal_names_e1.FnCheckWordCutAnywhere", spec := "fnCheckWordCutAnywhere", stops := ["fmt.errorf"], inPlace := ["fmt.errorf"], apart := false }
/-- NO THEOREM (fmt's text is open here; it may be false): for the released tool's asking of the row's closed facts alone. THE STATEMENT IS 'FnCheckWordCutAnywhereToldSaid' (Qxb6621631aFmtCards.lean). -/
def FnCheckWordCutAnywhereFormAsk : Prop := fnCheckWordCutAnywhereRow.holds Tryf.pinned (OpenSpec.ofChange fnCheckWordCutAnywhereSpec)

/-- ITS FALSE NEIGHBOUR: 'it returns false'. Refute it at one input. -/
def fnCheckWordCutAnywhereWrong : ChangeSpec := { name := "fnCheckWordCutAnywhere", fn := fun _ => fun
  | [d1, d2, d3] => { results := [.lit (.bool false)], args := [d1, d2, d3] }
  | _ => none }
def FnCheckWordCutAnywhereWrongFormAsk : Prop := fnCheckWordCutAnywhereRow.holds Tryf.pinned (OpenSpec.ofChange fnCheckWordCutAnywhereWrong)

/-- 'zzlaws_internal_names_e1.FnCheckNameIsWordOfAtMost64': WHATEVER THE INPUT: true; the input reads as it did. -/
def fnCheckNameIsWordOfAtMost64Spec : ChangeSpec := { name := "fnCheckNameIsWordOfAtMost64", fn := fun _ => fun
  | [d] => { results := [.lit (.bool true)], args := [d] }
  | _ => none }
def fnCheckNameIsWordOfAtMost64Row : OpenClaim := { program := "qxb6621631afmt", sum := "58d4f1b131629f667368259def1d8bbf49d130c76db8391d6a74475c6fcbb76b", func := "example.com/fencepost/fencepost/zzlaws_internal_names_e1.FnCheckNameIsWordOfAtMost64", spec := "fnCheckNameIsWordOfAtMost64", stops := ["fmt.errorf"], inPlace := ["fmt.errorf"], apart := false }
/-- NO THEOREM (fmt's text is open here; it may be false): for the released tool's asking of the row's closed facts alone. THE STATEMENT IS 'FnCheckNameIsWordOfAtMost64ToldSaid' (Qxb6621631aFmtCards.lean). -/
def FnCheckNameIsWordOfAtMost64FormAsk : Prop := fnCheckNameIsWordOfAtMost64Row.holds Tryf.pinned (OpenSpec.ofChange fnCheckNameIsWordOfAtMost64Spec)

/-- ITS FALSE NEIGHBOUR: 'it returns false'. Refute it at one input. -/
def fnCheckNameIsWordOfAtMost64Wrong : ChangeSpec := { name := "fnCheckNameIsWordOfAtMost64", fn := fun _ => fun
  | [d] => { results := [.lit (.bool false)], args := [d] }
  | _ => none }
def FnCheckNameIsWordOfAtMost64WrongFormAsk : Prop := fnCheckNameIsWordOfAtMost64Row.holds Tryf.pinned (OpenSpec.ofChange fnCheckNameIsWordOfAtMost64Wrong)

/-- 'zzlaws_internal_names_e1.FnCheckNameCutAnywhere': WHATEVER THE INPUT: true; the input reads as it did. -/
def fnCheckNameCutAnywhereSpec : ChangeSpec := { name := "fnCheckNameCutAnywhere", fn := fun _ => fun
  | [d1, d2] => { results := [.lit (.bool true)], args := [d1, d2] }
  | _ => none }
def fnCheckNameCutAnywhereRow : OpenClaim := { program := "qxb6621631afmt", sum := "58d4f1b131629f667368259def1d8bbf49d130c76db8391d6a74475c6fcbb76b", func := "example.com/fencepost/fencepost/zzlaws_internal_names_e1.FnCheckNameCutAnywhere", spec := "fnCheckNameCutAnywhere", stops := ["fmt.errorf"], inPlace := ["fmt.errorf"], apart := false }
/-- NO THEOREM (fmt's text is open here; it may be false): for the released tool's asking of the row's closed facts alone. THE STATEMENT IS 'FnCheckNameCutAnywhereToldSaid' (Qxb6621631aFmtCards.lean). -/
def FnCheckNameCutAnywhereFormAsk : Prop := fnCheckNameCutAnywhereRow.holds Tryf.pinned (OpenSpec.ofChange fnCheckNameCutAnywhereSpec)

/-- ITS FALSE NEIGHBOUR: 'it returns false'. Refute it at one input. -/
def fnCheckNameCutAnywhereWrong : ChangeSpec := { name := "fnCheckNameCutAnywhere", fn := fun _ => fun
  | [d1, d2] => { results := [.lit (.bool false)], args := [d1, d2] }
  | _ => none }
def FnCheckNameCutAnywhereWrongFormAsk : Prop := fnCheckNameCutAnywhereRow.holds Tryf.pinned (OpenSpec.ofChange fnCheckNameCutAnywhereWrong)

/-- 'zzlaws_internal_names_e1.FnCheckLockNameIsTwoNames': WHATEVER THE INPUT: true; the input reads as it did. -/
def fnCheckLockNameIsTwoNamesSpec : ChangeSpec := { name := "fnCheckLockNameIsTwoNames", fn := fun _ => fun
  | [d1, d2] => { results := [.lit (.bool true)], args := [d1, d2] }
  | _ => none }
def fnCheckLockNameIsTwoNamesRow : OpenClaim := { program := "qxb6621631afmt", sum := "58d4f1b131629f667368259def1d8bbf49d130c76db8391d6a74475c6fcbb76b", func := "example.com/fencepost/fencepost/zzlaws_internal_names_e1.FnCheckLockNameIsTwoNames", spec := "fnCheckLockNameIsTwoNames", stops := ["fmt.errorf"], inPlace := ["fmt.errorf"], apart := false }
/-- NO THEOREM (fmt's text is open here; it may be false): for the released tool's asking of the row's closed facts alone. THE STATEMENT IS 'FnCheckLockNameIsTwoNamesToldSaid' (Qxb6621631aFmtCards.lean). -/
def FnCheckLockNameIsTwoNamesFormAsk : Prop := fnCheckLockNameIsTwoNamesRow.holds Tryf.pinned (OpenSpec.ofChange fnCheckLockNameIsTwoNamesSpec)

/-- ITS FALSE NEIGHBOUR: 'it returns false'. Refute it at one input. -/
def fnCheckLockNameIsTwoNamesWrong : ChangeSpec := { name := "fnCheckLockNameIsTwoNames", fn := fun _ => fun
  | [d1, d2] => { results := [.lit (.bool false)], args := [d1, d2] }
  | _ => none }
def FnCheckLockNameIsTwoNamesWrongFormAsk : Prop := fnCheckLockNameIsTwoNamesRow.holds Tryf.pinned (OpenSpec.ofChange fnCheckLockNameIsTwoNamesWrong)

end Rows
end Go.Proofs.Qxb6621631aFmt
