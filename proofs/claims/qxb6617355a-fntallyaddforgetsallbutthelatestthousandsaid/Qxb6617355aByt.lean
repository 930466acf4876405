import Derived.Test.Qxb6617355aL6a
/-! The bound on lengths. -/
namespace Go.Proofs.Qxb6617355a
open Go.RowKit

theorem bytes_small {B : Nat → Nat} {n x c : Int} {ao : Option Addr} {l co : Nat} {w : World} (hl : l ≤ 1048576) :
    Calls Try.prog 16 #[aggB B, .int .i64 n, .int .i64 x, .int .i64 c, .slice ao l co] w fun e w' => e = .returned (.bool true) ∧ Keeps Nob w w' := by
  go_enter Try.func16, Try.ntmps16
  go_wp2
  go_ret
  exact ⟨rfl, (Keeps.refl Nob w).alloc _⟩
theorem bytes_big {B : Nat → Nat} {n x c : Int} {ao : Option Addr} {l co : Nat} {w : World} (hl : ¬ l ≤ 1048576) :
    Calls Try.prog 16 #[aggB B, .int .i64 n, .int .i64 x, .int .i64 c, .slice ao l co] w fun e w' => e = .returned (.bool false) ∧ Keeps Nob w w' := by
  have hz : ¬ (l : Int) ≤ 1048576 := by omega
  go_enter Try.func16, Try.ntmps16
  go_wp2
  go_ret
  exact ⟨rfl, (Keeps.refl Nob w).alloc _⟩

end Go.Proofs.Qxb6617355a
