import Derived.Test.Qxb6619702aCut
/-! FnPutScriptKeepsTasksByLatestRound's last statements. -/
namespace Go.Proofs.Qxb6619702a
open Go
theorem tail5_71 : tailF Try.f5 71 = .seq (stmtF Try.f5 71) (tailF Try.f5 73) := by kernel_rfl
theorem tail5_73 : tailF Try.f5 73 = .seq (stmtF Try.f5 73) (tailF Try.f5 79) := by kernel_rfl
theorem tail5_79 : tailF Try.f5 79 = .seq (stmtF Try.f5 79) (tailF Try.f5 80) := by kernel_rfl
theorem tail5_80 : tailF Try.f5 80 = .seq (stmtF Try.f5 80) (tailF Try.f5 82) := by kernel_rfl
theorem tail5_82 : tailF Try.f5 82 = .seq (stmtF Try.f5 82) (tailF Try.f5 87) := by kernel_rfl
theorem tail5_87 : tailF Try.f5 87 = .seq (stmtF Try.f5 87) (tailF Try.f5 89) := by kernel_rfl
theorem tail5_89 : tailF Try.f5 89 = .seq (stmtF Try.f5 89) (tailF Try.f5 96) := by kernel_rfl
end Go.Proofs.Qxb6619702a
