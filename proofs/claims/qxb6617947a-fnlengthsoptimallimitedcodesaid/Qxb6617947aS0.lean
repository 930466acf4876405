import Derived.Test.Qxb6617947aProg
import Derived.Sort.Walk0
import Derived.RowKit
/-! The library's sort at uint64: the kit's walk over its own program, turned to this one. -/
namespace Go.Proofs.Qxb6617947a
open Go.RowKit Go.Sort
abbrev encU : Int → Value := fun x => Value.int .u64 x
set_option maxHeartbeats 1000000 in
theorem Su.cmp_isNaN_int (x : Int) (w : World) : Calls Try.prog 43 #[.int .u64 x] w fun e w' => e = .returned (.bool false) ∧ w' = w := by
  go_enter Try.func43, Try.ntmps43
  go_wp2
  go_ret
  exact ⟨by simp, rfl⟩
set_option maxHeartbeats 1000000 in
theorem Su.cmp_Less_int (x y : Int) (w : World) : Calls Try.prog 33 #[.int .u64 x, .int .u64 y] w fun e w' => e = .returned (.bool (Sort.ltInt x y)) ∧ w' = w := by
  go_enter Try.func33, Try.ntmps33
  go_wp2_with (go_at_call 43; refine (Su.cmp_isNaN_int _ _).mono ?_; rintro e w' ⟨rfl, rfl⟩)
  go_ret
  exact ⟨rfl, rfl⟩
end Go.Proofs.Qxb6617947a
