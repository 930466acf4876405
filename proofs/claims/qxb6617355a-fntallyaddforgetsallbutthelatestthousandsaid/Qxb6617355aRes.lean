import Derived.Test.Qxb6617355aStepT
import Derived.Deep.MidRow
/-! Four results, the first a row of sixteen words in a cell of the call's own. -/
namespace Go.Proofs.Qxb6617355a
open Go.RowKit
theorem results_row3 {fn : Func} {p t u v : Tmp} (h : fn.results = #[.cell p 30, .tmp t, .tmp u, .tmp v]) (tmps : Array Value) (w : World) (b : Nat) (B : Nat → Nat)
    (hp : tmps.getD p undef = .pointer (some ⟨b, 0, none⟩)) (hR : w.rangeAt b 0 (cellsB B)) :
    (results fn tmps).run Try.prog w = .ok (.tuple #[aggB B, tmps.getD t undef, tmps.getD u undef, tmps.getD v undef]) w := by
  have hp' : tmps[p]?.getD undef = .pointer (some ⟨b, 0, none⟩) := by simpa using hp
  have hl := run_loadVar_mid (P := Try.prog) w b 0 30 (cellsB B) _ hR Try.underlying30 rfl (by kernel_rfl)
  simp [results, h, hp', asAddr, hl, cellsB]
end Go.Proofs.Qxb6617355a
