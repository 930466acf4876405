import Derived.Test.Qxb6617355aPlain
import Derived.Deep.QuietTactic
import Derived.BigQuiet
import Derived.Deep.RegionHeld3
/-! A great function's text, cut at its statements. -/
namespace Go.Proofs.Qxb6617355a
open Go

def headRegion : Code → Option Nat
  | .region id _ _ => some id
  | .seq a _ => headRegion a
  | _ => none
/-- The text from the statement on that begins with region n. -/
def tailAt (n : Nat) : Code → Code
  | .seq a b => if headRegion a == some n then .seq a b else tailAt n b
  | c => c
def firstOf : Code → Code
  | .seq a _ => a
  | c => c
/-- From region n on in f's body; and the first statement there. -/
def tailF (f : Func) (n : Nat) : Code := tailAt n (f.body.getD .skip)
def stmtF (f : Func) (n : Nat) : Code := firstOf (tailF f n)
theorem tail6_0 : tailF Try.f6 0 = .seq (stmtF Try.f6 0) (tailF Try.f6 1) := by kernel_rfl
theorem tail6_1 : tailF Try.f6 1 = .seq (stmtF Try.f6 1) (tailF Try.f6 3) := by kernel_rfl
theorem tail6_3 : tailF Try.f6 3 = .seq (stmtF Try.f6 3) (tailF Try.f6 5) := by kernel_rfl
theorem tail6_5 : tailF Try.f6 5 = .seq (stmtF Try.f6 5) (tailF Try.f6 7) := by kernel_rfl
theorem tail6_7 : tailF Try.f6 7 = .seq (stmtF Try.f6 7) (tailF Try.f6 9) := by kernel_rfl
theorem tail6_9 : tailF Try.f6 9 = .seq (stmtF Try.f6 9) (tailF Try.f6 11) := by kernel_rfl
theorem tail6_11 : tailF Try.f6 11 = .seq (stmtF Try.f6 11) (tailF Try.f6 13) := by kernel_rfl
theorem tail6_13 : tailF Try.f6 13 = .seq (stmtF Try.f6 13) (tailF Try.f6 14) := by kernel_rfl
theorem tail6_14 : tailF Try.f6 14 = .seq (stmtF Try.f6 14) (tailF Try.f6 15) := by kernel_rfl
theorem tail6_15 : tailF Try.f6 15 = .seq (stmtF Try.f6 15) (tailF Try.f6 16) := by kernel_rfl
theorem tail6_16 : tailF Try.f6 16 = .seq (stmtF Try.f6 16) (tailF Try.f6 21) := by kernel_rfl
theorem tail6_21 : tailF Try.f6 21 = .seq (stmtF Try.f6 21) (tailF Try.f6 22) := by kernel_rfl
theorem tail6_22 : tailF Try.f6 22 = .seq (stmtF Try.f6 22) (tailF Try.f6 23) := by kernel_rfl
theorem tail6_23 : tailF Try.f6 23 = .seq (stmtF Try.f6 23) (tailF Try.f6 28) := by kernel_rfl
theorem tail6_28 : tailF Try.f6 28 = .seq (stmtF Try.f6 28) (tailF Try.f6 30) := by kernel_rfl
theorem tail6_30 : tailF Try.f6 30 = .seq (stmtF Try.f6 30) (tailF Try.f6 32) := by kernel_rfl
theorem tail6_32 : tailF Try.f6 32 = .seq (stmtF Try.f6 32) (tailF Try.f6 39) := by kernel_rfl
theorem body6 : Try.f6.body = some (tailF Try.f6 0) := by kernel_rfl
end Go.Proofs.Qxb6617355a
