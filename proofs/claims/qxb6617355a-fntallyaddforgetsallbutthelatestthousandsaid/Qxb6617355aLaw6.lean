import Derived.Test.Qxb6617355aL6z
/-! FnTallyAddForgetsAllButTheLatestThousand: the whole. -/
namespace Go.Proofs.Qxb6617355a
open Go.RowKit

set_option maxHeartbeats 4000000 in
set_option maxRecDepth 100000 in
theorem law6 {ao : Option Addr} {l co : Nat} {N nx cnt : Int} {B0 : Nat → Nat} {O : Nat → Bool} {w : World} (hB : ∀ i, B0 i < 18446744073709551616) (hO : SlF Value.bool w 0 w.heap.size ao l O) (hl : l ≤ maxLen) :
    Calls Try.prog 6 #[aggB B0, .int .i64 N, .int .i64 nx, .int .i64 cnt, .slice ao l co] w fun e w' => e = .returned (.bool true) ∧ Keeps Nob w w' := by
  refine calls_of_wp Try.func6 body6 ?_
  simp only [Try.ntmps6, List.size_toArray, List.length_cons, List.length_nil, Nat.reduceAdd, Nat.reduceSub, Array.replicate_succ,
    Array.replicate_zero, List.push_toArray, List.append_toArray, List.nil_append, List.cons_append]
  exact law6z rfl hB hO hl

end Go.Proofs.Qxb6617355a
