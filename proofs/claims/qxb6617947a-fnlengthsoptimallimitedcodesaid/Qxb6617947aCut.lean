import Derived.Test.Qxb6617947aAp
import Derived.Test.Qxb6617947aPf
import Derived.Test.Qxb6617947aSm
import Derived.Deep.QuietTactic
import Derived.BigQuiet
import Derived.BigRegion
/-! A great function's text, cut at its statements. -/
namespace Go.Proofs.Qxb6617947a
open Go

def headRegion : Code → Option Nat
  | .region id _ _ => some id
  | .seq a _ => headRegion a
  | _ => none
/-- The text from the statement on that begins with region n. -/
def tailAt (n : Nat) : Code → Code
  | .seq a b => if headRegion a == some n then .seq a b else tailAt n b
  | c => c
def firstOf : Code → Code
  | .seq a _ => a
  | c => c
/-- From region n on in f's body; and the first statement there. -/
def tailF (f : Func) (n : Nat) : Code := tailAt n (f.body.getD .skip)
def stmtF (f : Func) (n : Nat) : Code := firstOf (tailF f n)
theorem tail23_0 : tailF Try.f23 0 = .seq (stmtF Try.f23 0) (tailF Try.f23 1) := by kernel_rfl
theorem tail23_1 : tailF Try.f23 1 = .seq (stmtF Try.f23 1) (tailF Try.f23 6) := by kernel_rfl
theorem tail23_6 : tailF Try.f23 6 = .seq (stmtF Try.f23 6) (tailF Try.f23 7) := by kernel_rfl
theorem tail23_7 : tailF Try.f23 7 = .seq (stmtF Try.f23 7) (tailF Try.f23 8) := by kernel_rfl
theorem tail23_8 : tailF Try.f23 8 = .seq (stmtF Try.f23 8) (tailF Try.f23 9) := by kernel_rfl
theorem tail23_9 : tailF Try.f23 9 = .seq (stmtF Try.f23 9) (tailF Try.f23 14) := by kernel_rfl
theorem tail23_14 : tailF Try.f23 14 = .seq (stmtF Try.f23 14) (tailF Try.f23 29) := by kernel_rfl
theorem tail23_29 : tailF Try.f23 29 = .seq (stmtF Try.f23 29) (tailF Try.f23 30) := by kernel_rfl
theorem body23 : Try.f23.body = some (tailF Try.f23 0) := by kernel_rfl
theorem tail15_0 : tailF Try.f15 0 = .seq (stmtF Try.f15 0) (tailF Try.f15 1) := by kernel_rfl
theorem tail15_1 : tailF Try.f15 1 = .seq (stmtF Try.f15 1) (tailF Try.f15 2) := by kernel_rfl
theorem tail15_2 : tailF Try.f15 2 = .seq (stmtF Try.f15 2) (tailF Try.f15 9) := by kernel_rfl
theorem tail15_9 : tailF Try.f15 9 = .seq (stmtF Try.f15 9) (tailF Try.f15 10) := by kernel_rfl
theorem tail15_10 : tailF Try.f15 10 = .seq (stmtF Try.f15 10) (tailF Try.f15 11) := by kernel_rfl
theorem tail15_11 : tailF Try.f15 11 = .seq (stmtF Try.f15 11) (tailF Try.f15 12) := by kernel_rfl
theorem tail15_12 : tailF Try.f15 12 = .seq (stmtF Try.f15 12) (tailF Try.f15 13) := by kernel_rfl
theorem tail15_13 : tailF Try.f15 13 = .seq (stmtF Try.f15 13) (tailF Try.f15 21) := by kernel_rfl
theorem tail15_21 : tailF Try.f15 21 = .seq (stmtF Try.f15 21) (tailF Try.f15 22) := by kernel_rfl
theorem tail15_22 : tailF Try.f15 22 = .seq (stmtF Try.f15 22) (tailF Try.f15 26) := by kernel_rfl
theorem tail15_26 : tailF Try.f15 26 = .seq (stmtF Try.f15 26) (tailF Try.f15 27) := by kernel_rfl
theorem tail15_27 : tailF Try.f15 27 = .seq (stmtF Try.f15 27) (tailF Try.f15 32) := by kernel_rfl
theorem tail15_32 : tailF Try.f15 32 = .seq (stmtF Try.f15 32) (tailF Try.f15 33) := by kernel_rfl
theorem tail15_33 : tailF Try.f15 33 = .seq (stmtF Try.f15 33) (tailF Try.f15 35) := by kernel_rfl
theorem body15 : Try.f15.body = some (tailF Try.f15 0) := by kernel_rfl
theorem tail6_0 : tailF Try.f6 0 = .seq (stmtF Try.f6 0) (tailF Try.f6 1) := by kernel_rfl
theorem tail6_1 : tailF Try.f6 1 = .seq (stmtF Try.f6 1) (tailF Try.f6 3) := by kernel_rfl
theorem tail6_3 : tailF Try.f6 3 = .seq (stmtF Try.f6 3) (tailF Try.f6 5) := by kernel_rfl
theorem tail6_5 : tailF Try.f6 5 = .seq (stmtF Try.f6 5) (tailF Try.f6 7) := by kernel_rfl
theorem tail6_7 : tailF Try.f6 7 = .seq (stmtF Try.f6 7) (tailF Try.f6 9) := by kernel_rfl
theorem tail6_9 : tailF Try.f6 9 = .seq (stmtF Try.f6 9) (tailF Try.f6 11) := by kernel_rfl
theorem tail6_11 : tailF Try.f6 11 = .seq (stmtF Try.f6 11) (tailF Try.f6 15) := by kernel_rfl
theorem tail6_15 : tailF Try.f6 15 = .seq (stmtF Try.f6 15) (tailF Try.f6 16) := by kernel_rfl
theorem tail6_16 : tailF Try.f6 16 = .seq (stmtF Try.f6 16) (tailF Try.f6 18) := by kernel_rfl
theorem tail6_18 : tailF Try.f6 18 = .seq (stmtF Try.f6 18) (tailF Try.f6 20) := by kernel_rfl
theorem tail6_20 : tailF Try.f6 20 = .seq (stmtF Try.f6 20) (tailF Try.f6 25) := by kernel_rfl
theorem tail6_25 : tailF Try.f6 25 = .seq (stmtF Try.f6 25) (tailF Try.f6 26) := by kernel_rfl
theorem tail6_26 : tailF Try.f6 26 = .seq (stmtF Try.f6 26) (tailF Try.f6 30) := by kernel_rfl
theorem tail6_30 : tailF Try.f6 30 = .seq (stmtF Try.f6 30) (tailF Try.f6 31) := by kernel_rfl
theorem tail6_31 : tailF Try.f6 31 = .seq (stmtF Try.f6 31) (tailF Try.f6 32) := by kernel_rfl
theorem tail6_32 : tailF Try.f6 32 = .seq (stmtF Try.f6 32) (tailF Try.f6 33) := by kernel_rfl
theorem tail6_33 : tailF Try.f6 33 = .seq (stmtF Try.f6 33) (tailF Try.f6 34) := by kernel_rfl
theorem tail6_34 : tailF Try.f6 34 = .seq (stmtF Try.f6 34) (tailF Try.f6 39) := by kernel_rfl
theorem body6 : Try.f6.body = some (tailF Try.f6 0) := by kernel_rfl
theorem tail7_0 : tailF Try.f7 0 = .seq (stmtF Try.f7 0) (tailF Try.f7 1) := by kernel_rfl
theorem tail7_1 : tailF Try.f7 1 = .seq (stmtF Try.f7 1) (tailF Try.f7 3) := by kernel_rfl
theorem tail7_3 : tailF Try.f7 3 = .seq (stmtF Try.f7 3) (tailF Try.f7 5) := by kernel_rfl
theorem tail7_5 : tailF Try.f7 5 = .seq (stmtF Try.f7 5) (tailF Try.f7 7) := by kernel_rfl
theorem tail7_7 : tailF Try.f7 7 = .seq (stmtF Try.f7 7) (tailF Try.f7 9) := by kernel_rfl
theorem tail7_9 : tailF Try.f7 9 = .seq (stmtF Try.f7 9) (tailF Try.f7 11) := by kernel_rfl
theorem tail7_11 : tailF Try.f7 11 = .seq (stmtF Try.f7 11) (tailF Try.f7 13) := by kernel_rfl
theorem tail7_13 : tailF Try.f7 13 = .seq (stmtF Try.f7 13) (tailF Try.f7 17) := by kernel_rfl
theorem tail7_17 : tailF Try.f7 17 = .seq (stmtF Try.f7 17) (tailF Try.f7 18) := by kernel_rfl
theorem tail7_18 : tailF Try.f7 18 = .seq (stmtF Try.f7 18) (tailF Try.f7 20) := by kernel_rfl
theorem tail7_20 : tailF Try.f7 20 = .seq (stmtF Try.f7 20) (tailF Try.f7 21) := by kernel_rfl
theorem tail7_21 : tailF Try.f7 21 = .seq (stmtF Try.f7 21) (tailF Try.f7 22) := by kernel_rfl
theorem tail7_22 : tailF Try.f7 22 = .seq (stmtF Try.f7 22) (tailF Try.f7 26) := by kernel_rfl
theorem tail7_26 : tailF Try.f7 26 = .seq (stmtF Try.f7 26) (tailF Try.f7 30) := by kernel_rfl
theorem tail7_30 : tailF Try.f7 30 = .seq (stmtF Try.f7 30) (tailF Try.f7 31) := by kernel_rfl
theorem tail7_31 : tailF Try.f7 31 = .seq (stmtF Try.f7 31) (tailF Try.f7 35) := by kernel_rfl
theorem tail7_35 : tailF Try.f7 35 = .seq (stmtF Try.f7 35) (tailF Try.f7 36) := by kernel_rfl
theorem tail7_36 : tailF Try.f7 36 = .seq (stmtF Try.f7 36) (tailF Try.f7 40) := by kernel_rfl
theorem tail7_40 : tailF Try.f7 40 = .seq (stmtF Try.f7 40) (tailF Try.f7 41) := by kernel_rfl
theorem tail7_41 : tailF Try.f7 41 = .seq (stmtF Try.f7 41) (tailF Try.f7 42) := by kernel_rfl
theorem tail7_42 : tailF Try.f7 42 = .seq (stmtF Try.f7 42) (tailF Try.f7 44) := by kernel_rfl
theorem tail7_44 : tailF Try.f7 44 = .seq (stmtF Try.f7 44) (tailF Try.f7 49) := by kernel_rfl
theorem tail7_49 : tailF Try.f7 49 = .seq (stmtF Try.f7 49) (tailF Try.f7 51) := by kernel_rfl
theorem tail7_51 : tailF Try.f7 51 = .seq (stmtF Try.f7 51) (tailF Try.f7 56) := by kernel_rfl
theorem body7 : Try.f7.body = some (tailF Try.f7 0) := by kernel_rfl
theorem tail5_0 : tailF Try.f5 0 = .seq (stmtF Try.f5 0) (tailF Try.f5 1) := by kernel_rfl
theorem tail5_1 : tailF Try.f5 1 = .seq (stmtF Try.f5 1) (tailF Try.f5 3) := by kernel_rfl
theorem tail5_3 : tailF Try.f5 3 = .seq (stmtF Try.f5 3) (tailF Try.f5 5) := by kernel_rfl
theorem tail5_5 : tailF Try.f5 5 = .seq (stmtF Try.f5 5) (tailF Try.f5 7) := by kernel_rfl
theorem tail5_7 : tailF Try.f5 7 = .seq (stmtF Try.f5 7) (tailF Try.f5 9) := by kernel_rfl
theorem tail5_9 : tailF Try.f5 9 = .seq (stmtF Try.f5 9) (tailF Try.f5 11) := by kernel_rfl
theorem tail5_11 : tailF Try.f5 11 = .seq (stmtF Try.f5 11) (tailF Try.f5 15) := by kernel_rfl
theorem tail5_15 : tailF Try.f5 15 = .seq (stmtF Try.f5 15) (tailF Try.f5 16) := by kernel_rfl
theorem tail5_16 : tailF Try.f5 16 = .seq (stmtF Try.f5 16) (tailF Try.f5 18) := by kernel_rfl
theorem tail5_18 : tailF Try.f5 18 = .seq (stmtF Try.f5 18) (tailF Try.f5 19) := by kernel_rfl
theorem tail5_19 : tailF Try.f5 19 = .seq (stmtF Try.f5 19) (tailF Try.f5 20) := by kernel_rfl
theorem tail5_20 : tailF Try.f5 20 = .seq (stmtF Try.f5 20) (tailF Try.f5 25) := by kernel_rfl
theorem tail5_25 : tailF Try.f5 25 = .seq (stmtF Try.f5 25) (tailF Try.f5 27) := by kernel_rfl
theorem tail5_27 : tailF Try.f5 27 = .seq (stmtF Try.f5 27) (tailF Try.f5 29) := by kernel_rfl
theorem tail5_29 : tailF Try.f5 29 = .seq (stmtF Try.f5 29) (tailF Try.f5 30) := by kernel_rfl
theorem tail5_30 : tailF Try.f5 30 = .seq (stmtF Try.f5 30) (tailF Try.f5 34) := by kernel_rfl
theorem body5 : Try.f5.body = some (tailF Try.f5 0) := by kernel_rfl
end Go.Proofs.Qxb6617947a
