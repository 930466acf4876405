import Derived.Test.Qxb6619702aFin
import Derived.Deep.QuietTactic
import Derived.BigQuiet
/-! A great function's text, cut at its statements. -/
namespace Go.Proofs.Qxb6619702a
open Go

def headRegion : Code → Option Nat
  | .region id _ _ => some id
  | .seq a _ => headRegion a
  | _ => none
/-- The text from the statement on that begins with region n. -/
def tailAt (n : Nat) : Code → Code
  | .seq a b => if headRegion a == some n then .seq a b else tailAt n b
  | c => c
def firstOf : Code → Code
  | .seq a _ => a
  | c => c
def secondOf : Code → Code
  | .seq _ b => b
  | c => c
/-- From region n on in f's body; and the first statement there. -/
def tailF (f : Func) (n : Nat) : Code := tailAt n (f.body.getD .skip)
def stmtF (f : Func) (n : Nat) : Code := firstOf (tailF f n)
theorem tail6_0 : tailF Try.f6 0 = .seq (stmtF Try.f6 0) (tailF Try.f6 1) := by kernel_rfl
theorem tail6_1 : tailF Try.f6 1 = .seq (stmtF Try.f6 1) (tailF Try.f6 3) := by kernel_rfl
theorem tail6_3 : tailF Try.f6 3 = .seq (stmtF Try.f6 3) (tailF Try.f6 5) := by kernel_rfl
theorem tail6_5 : tailF Try.f6 5 = .seq (stmtF Try.f6 5) (tailF Try.f6 7) := by kernel_rfl
theorem tail6_7 : tailF Try.f6 7 = .seq (stmtF Try.f6 7) (tailF Try.f6 8) := by kernel_rfl
theorem tail6_8 : tailF Try.f6 8 = .seq (stmtF Try.f6 8) (tailF Try.f6 10) := by kernel_rfl
theorem tail6_10 : tailF Try.f6 10 = .seq (stmtF Try.f6 10) (tailF Try.f6 11) := by kernel_rfl
theorem tail6_11 : tailF Try.f6 11 = .seq (stmtF Try.f6 11) (tailF Try.f6 13) := by kernel_rfl
theorem tail6_13 : tailF Try.f6 13 = .seq (stmtF Try.f6 13) (tailF Try.f6 14) := by kernel_rfl
theorem tail6_14 : tailF Try.f6 14 = .seq (stmtF Try.f6 14) (tailF Try.f6 16) := by kernel_rfl
theorem tail6_16 : tailF Try.f6 16 = .seq (stmtF Try.f6 16) (tailF Try.f6 17) := by kernel_rfl
theorem tail6_17 : tailF Try.f6 17 = .seq (stmtF Try.f6 17) (tailF Try.f6 18) := by kernel_rfl
theorem tail6_18 : tailF Try.f6 18 = .seq (stmtF Try.f6 18) (tailF Try.f6 19) := by kernel_rfl
theorem tail6_19 : tailF Try.f6 19 = .seq (stmtF Try.f6 19) (tailF Try.f6 20) := by kernel_rfl
theorem tail6_20 : tailF Try.f6 20 = .seq (stmtF Try.f6 20) (tailF Try.f6 21) := by kernel_rfl
theorem tail6_21 : tailF Try.f6 21 = .seq (stmtF Try.f6 21) (tailF Try.f6 22) := by kernel_rfl
theorem tail6_22 : tailF Try.f6 22 = .seq (stmtF Try.f6 22) (tailF Try.f6 24) := by kernel_rfl
theorem tail6_24 : tailF Try.f6 24 = .seq (stmtF Try.f6 24) (tailF Try.f6 31) := by kernel_rfl
theorem tail6_31 : tailF Try.f6 31 = .seq (stmtF Try.f6 31) (tailF Try.f6 32) := by kernel_rfl
theorem tail6_32 : tailF Try.f6 32 = .seq (stmtF Try.f6 32) (tailF Try.f6 33) := by kernel_rfl
theorem tail6_33 : tailF Try.f6 33 = .seq (stmtF Try.f6 33) (tailF Try.f6 35) := by kernel_rfl
theorem tail6_35 : tailF Try.f6 35 = .seq (stmtF Try.f6 35) (tailF Try.f6 36) := by kernel_rfl
theorem tail6_36 : tailF Try.f6 36 = .seq (stmtF Try.f6 36) (tailF Try.f6 37) := by kernel_rfl
theorem tail6_37 : tailF Try.f6 37 = .seq (stmtF Try.f6 37) (tailF Try.f6 38) := by kernel_rfl
theorem tail6_38 : tailF Try.f6 38 = .seq (stmtF Try.f6 38) (tailF Try.f6 44) := by kernel_rfl
theorem tail6_44 : tailF Try.f6 44 = .seq (stmtF Try.f6 44) (tailF Try.f6 45) := by kernel_rfl
theorem tail6_45 : tailF Try.f6 45 = .seq (stmtF Try.f6 45) (tailF Try.f6 51) := by kernel_rfl
theorem tail6_51 : tailF Try.f6 51 = .seq (stmtF Try.f6 51) (tailF Try.f6 52) := by kernel_rfl
theorem tail6_52 : tailF Try.f6 52 = .seq (stmtF Try.f6 52) (tailF Try.f6 53) := by kernel_rfl
theorem tail6_53 : tailF Try.f6 53 = .seq (stmtF Try.f6 53) (tailF Try.f6 54) := by kernel_rfl
theorem tail6_54 : tailF Try.f6 54 = .seq (stmtF Try.f6 54) (tailF Try.f6 55) := by kernel_rfl
theorem tail6_55 : tailF Try.f6 55 = .seq (stmtF Try.f6 55) (tailF Try.f6 57) := by kernel_rfl
theorem tail6_57 : tailF Try.f6 57 = .seq (stmtF Try.f6 57) (tailF Try.f6 58) := by kernel_rfl
theorem tail6_58 : tailF Try.f6 58 = .seq (stmtF Try.f6 58) (tailF Try.f6 59) := by kernel_rfl
theorem tail6_59 : tailF Try.f6 59 = .seq (stmtF Try.f6 59) (tailF Try.f6 61) := by kernel_rfl
theorem tail6_61 : tailF Try.f6 61 = .seq (stmtF Try.f6 61) (tailF Try.f6 62) := by kernel_rfl
theorem tail6_62 : tailF Try.f6 62 = .seq (stmtF Try.f6 62) (tailF Try.f6 63) := by kernel_rfl
theorem tail6_63 : tailF Try.f6 63 = .seq (stmtF Try.f6 63) (tailF Try.f6 68) := by kernel_rfl
theorem tail6_68 : tailF Try.f6 68 = .seq (stmtF Try.f6 68) (tailF Try.f6 83) := by kernel_rfl
theorem tail6_83 : tailF Try.f6 83 = .seq (stmtF Try.f6 83) (tailF Try.f6 84) := by kernel_rfl
theorem tail6_84 : tailF Try.f6 84 = .seq (stmtF Try.f6 84) (tailF Try.f6 86) := by kernel_rfl
theorem tail6_86 : tailF Try.f6 86 = .seq (stmtF Try.f6 86) (tailF Try.f6 91) := by kernel_rfl
theorem tail6_91 : tailF Try.f6 91 = .seq (stmtF Try.f6 91) (tailF Try.f6 93) := by kernel_rfl
theorem tail6_93 : tailF Try.f6 93 = .seq (stmtF Try.f6 93) (tailF Try.f6 100) := by kernel_rfl
theorem tail5_0 : tailF Try.f5 0 = .seq (stmtF Try.f5 0) (tailF Try.f5 1) := by kernel_rfl
theorem tail5_1 : tailF Try.f5 1 = .seq (stmtF Try.f5 1) (tailF Try.f5 3) := by kernel_rfl
theorem tail5_3 : tailF Try.f5 3 = .seq (stmtF Try.f5 3) (tailF Try.f5 5) := by kernel_rfl
theorem tail5_5 : tailF Try.f5 5 = .seq (stmtF Try.f5 5) (tailF Try.f5 6) := by kernel_rfl
theorem tail5_6 : tailF Try.f5 6 = .seq (stmtF Try.f5 6) (tailF Try.f5 8) := by kernel_rfl
theorem tail5_8 : tailF Try.f5 8 = .seq (stmtF Try.f5 8) (tailF Try.f5 9) := by kernel_rfl
theorem tail5_9 : tailF Try.f5 9 = .seq (stmtF Try.f5 9) (tailF Try.f5 11) := by kernel_rfl
theorem tail5_11 : tailF Try.f5 11 = .seq (stmtF Try.f5 11) (tailF Try.f5 12) := by kernel_rfl
theorem tail5_12 : tailF Try.f5 12 = .seq (stmtF Try.f5 12) (tailF Try.f5 14) := by kernel_rfl
theorem tail5_14 : tailF Try.f5 14 = .seq (stmtF Try.f5 14) (tailF Try.f5 15) := by kernel_rfl
theorem tail5_15 : tailF Try.f5 15 = .seq (stmtF Try.f5 15) (tailF Try.f5 16) := by kernel_rfl
theorem tail5_16 : tailF Try.f5 16 = .seq (stmtF Try.f5 16) (tailF Try.f5 17) := by kernel_rfl
theorem tail5_17 : tailF Try.f5 17 = .seq (stmtF Try.f5 17) (tailF Try.f5 18) := by kernel_rfl
theorem tail5_18 : tailF Try.f5 18 = .seq (stmtF Try.f5 18) (tailF Try.f5 19) := by kernel_rfl
theorem tail5_19 : tailF Try.f5 19 = .seq (stmtF Try.f5 19) (tailF Try.f5 20) := by kernel_rfl
theorem tail5_20 : tailF Try.f5 20 = .seq (stmtF Try.f5 20) (tailF Try.f5 21) := by kernel_rfl
theorem tail5_21 : tailF Try.f5 21 = .seq (stmtF Try.f5 21) (tailF Try.f5 23) := by kernel_rfl
theorem tail5_23 : tailF Try.f5 23 = .seq (stmtF Try.f5 23) (tailF Try.f5 24) := by kernel_rfl
theorem tail5_24 : tailF Try.f5 24 = .seq (stmtF Try.f5 24) (tailF Try.f5 25) := by kernel_rfl
theorem tail5_25 : tailF Try.f5 25 = .seq (stmtF Try.f5 25) (tailF Try.f5 30) := by kernel_rfl
theorem tail5_30 : tailF Try.f5 30 = .seq (stmtF Try.f5 30) (tailF Try.f5 31) := by kernel_rfl
theorem tail5_31 : tailF Try.f5 31 = .seq (stmtF Try.f5 31) (tailF Try.f5 32) := by kernel_rfl
theorem tail5_32 : tailF Try.f5 32 = .seq (stmtF Try.f5 32) (tailF Try.f5 40) := by kernel_rfl
theorem tail5_40 : tailF Try.f5 40 = .seq (stmtF Try.f5 40) (tailF Try.f5 41) := by kernel_rfl
theorem tail5_41 : tailF Try.f5 41 = .seq (stmtF Try.f5 41) (tailF Try.f5 51) := by kernel_rfl
theorem tail5_51 : tailF Try.f5 51 = .seq (stmtF Try.f5 51) (tailF Try.f5 52) := by kernel_rfl
theorem tail5_52 : tailF Try.f5 52 = .seq (stmtF Try.f5 52) (tailF Try.f5 54) := by kernel_rfl
theorem tail5_54 : tailF Try.f5 54 = .seq (stmtF Try.f5 54) (tailF Try.f5 55) := by kernel_rfl
theorem tail5_55 : tailF Try.f5 55 = .seq (stmtF Try.f5 55) (tailF Try.f5 57) := by kernel_rfl
theorem tail5_57 : tailF Try.f5 57 = .seq (stmtF Try.f5 57) (tailF Try.f5 58) := by kernel_rfl
theorem tail5_58 : tailF Try.f5 58 = .seq (stmtF Try.f5 58) (tailF Try.f5 59) := by kernel_rfl
theorem tail5_59 : tailF Try.f5 59 = .seq (stmtF Try.f5 59) (tailF Try.f5 60) := by kernel_rfl
theorem tail5_60 : tailF Try.f5 60 = .seq (stmtF Try.f5 60) (tailF Try.f5 66) := by kernel_rfl
theorem tail5_66 : tailF Try.f5 66 = .seq (stmtF Try.f5 66) (tailF Try.f5 67) := by kernel_rfl
theorem tail5_67 : tailF Try.f5 67 = .seq (stmtF Try.f5 67) (tailF Try.f5 69) := by kernel_rfl
theorem tail5_69 : tailF Try.f5 69 = .seq (stmtF Try.f5 69) (tailF Try.f5 70) := by kernel_rfl
theorem tail5_70 : tailF Try.f5 70 = .seq (stmtF Try.f5 70) (tailF Try.f5 71) := by kernel_rfl
theorem body6 : Try.f6.body = some (tailF Try.f6 0) := by kernel_rfl
theorem body5 : Try.f5.body = some (tailF Try.f5 0) := by kernel_rfl
theorem drewN_add (w : World) (a b : Nat) : (w.drewN a).drewN b = w.drewN (a + b) := by simp [World.drewN, Nat.add_assoc]
end Go.Proofs.Qxb6619702a
