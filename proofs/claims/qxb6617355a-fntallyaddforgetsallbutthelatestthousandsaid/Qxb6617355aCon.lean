import Derived.Test.Qxb6617355aCut
import Derived.Deep.MidRow
/-! The callees, as the law calls them. -/
namespace Go.Proofs.Qxb6617355a
open Go.RowKit

theorem zzhBit_c {B : Nat → Nat} {z : Int} (p : Nat) {w : World} (hz : z = (p : Int)) (hp : p < 1024) (hB : ∀ i, B i < 18446744073709551616) :
    Calls Try.prog 15 #[.agg (cellsB B).toArray, .int .i64 z] w fun e w' => e = .returned (.bool (bit B p)) ∧ Keeps Nob w w' := zzhBit_int B z p w hz hp hB
theorem zzAdd_c {B : Nat → Nat} {N next : Nat} {cnt : Int} {o : Bool} {w : World} (hN : N ≤ 1000) (hn : next < 1000) (hB : ∀ i, B i < 18446744073709551616) (hc : 0 ≤ cnt ∧ cnt ≤ 2000) :
    Calls Try.prog 12 #[.agg (cellsB B).toArray, .int .i64 N, .int .i64 next, .int .i64 cnt, .bool o] w fun e w' => e = .returned (.tuple #[.agg (cellsB (setB B next o)).toArray, .int .i64 (nextN N), .int .i64 ((next + 1) % 1000 : Nat), .int .i64 (cnt - dropped B N next + gained o)]) ∧ Keeps Nob w w' := zzTallyAdd_any B N next cnt o w hN hn hB hc
theorem cellsB_len (B : Nat → Nat) : (cellsB B).length = 16 := rfl
theorem cellsB_one (B : Nat → Nat) : ∀ v ∈ cellsB B, v.oneCell' = true := by
  intro v hv
  simp only [cellsB, List.mem_cons, List.not_mem_nil, or_false] at hv
  rcases hv with rfl | rfl | rfl | rfl | rfl | rfl | rfl | rfl | rfl | rfl | rfl | rfl | rfl | rfl | rfl | rfl <;> rfl
theorem info30 (B : Nat → Nat) : (Try.prog.info? 30).map (·.size) = some (cellsB B).length := by kernel_rfl
theorem keep_range {w w' : World} (h : Keeps Nob w w') {g o : Nat} {cs : List Value} (hr : w.rangeAt g o cs) (hg : g < w.heap.size) : w'.rangeAt g o cs := fun j v hv => (h.cell (p := ⟨g, o + j, none⟩) hg (fun h => h)).trans (hr j v hv)
theorem keep_there {w w' : World} (h : Keeps Nob w w') {g o n : Nat} (hr : w.there g o n) (hg : g < w.heap.size) : w'.there g o n := fun j hj =>
  ⟨by rw [h.cell (p := ⟨g, o + j, none⟩) hg (fun h => h)]; exact (hr j hj).1, by rw [h.frozen (p := ⟨g, o + j, none⟩) hg (fun h => h)]; exact (hr j hj).2⟩

end Go.Proofs.Qxb6617355a
