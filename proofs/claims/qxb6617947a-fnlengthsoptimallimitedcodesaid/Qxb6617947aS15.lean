import Derived.Test.Qxb6617947aS1
import Derived.Test.Qxb6617947aS6
import Derived.Test.Qxb6617947aS7
import Derived.Test.Qxb6617947aSC
import Derived.Test.Qxb6617947aSC4
import Derived.Test.Qxb6617947aS11
import Derived.Test.Qxb6617947aS13
import Derived.Test.Qxb6617947aS14
import Derived.Sort.AssemblyPlain
/-! slices.Sort at []uint64. -/
namespace Go.Proofs.Qxb6617947a
open Go.RowKit Go.Sort
theorem callees13u : Callees13 := ⟨Su.insertionSort_int, Su.breakPatterns_int, Su.choosePivot_int, Su.partialInsertionSort_int, Su.partitionEqualOrdered_int, Su.partitionOrdered_int⟩
theorem plain13u : Plain13 := ⟨swo_ltInt, insertionSort_holds, partialInsertionSort_holds, partition_holds _, partitionEqual_holds _, pdq_sorts _⟩
theorem pdqWalkU : pdqWalk_int := fun blk off cap a b limit d w hH hb hab hbd hsz hl hB =>
  Su.pdqsort_int callees13u plain13u (b - a + 1) blk off cap a b limit d w (by omega) hH hb hab hbd hsz hl hB
theorem sortU (blk off cap : Nat) (zs : List Int) (w : World) (hH : Holds (Value.int .u64) w blk off zs.toArray) (hblk : blk < w.heap.size) (hsz : zs.length < 4611686018427387904) :
    Calls Try.prog 24 #[.slice (some ⟨blk, off, none⟩) zs.length cap] w fun e w' =>
      e = .returned (.tuple #[]) ∧ ∃ n os, w' = grow (putRow (Value.int .u64) (Sort.ahead w n) blk off (zs.mergeSort fun x y => decide (x ≤ y)).toArray) os := by
  have h := Su.Sort_int pdqWalkU blk off cap zs.toArray w hH hblk (by simpa using hsz)
  rw [show Sort.sort ltInt zs.toArray = (zs.mergeSort fun x y => decide (x ≤ y)).toArray by rw [← sortInt zs]] at h
  simpa using h
end Go.Proofs.Qxb6617947a
