import Derived.Test.Qxb6617947aSm2
/-! The laws: a copy of the bytes; the bounds. -/
namespace Go.Proofs.Qxb6617947a
open Go.RowKit
set_option linter.unusedVariables false
set_option linter.unusedSimpArgs false

theorem info5z : (Try.prog.info? 5).map (fun i => (i.zero, i.size, i.bytes)) = some (some (.int .u8 0), 1, 1) := by kernel_rfl
theorem info32z : (Try.prog.info? 32).map (fun i => (i.zero, i.size, i.bytes)) = some (some (.int .u32 0), 1, 4) := by kernel_rfl
theorem size5z : (Try.prog.info? 5).map (·.size) = some 1 := by kernel_rfl
theorem size32z : (Try.prog.info? 32).map (·.size) = some 1 := by kernel_rfl
theorem list_get (enc : Nat → Value) (F : Nat → Nat) (n j : Nat) (v : Value) (h : ((List.range n).map fun i => enc (F i))[j]? = some v) : j < n ∧ v = enc (F j) := by
  have hj : j < n := by
    by_cases hj : j < n
    · exact hj
    · rw [List.getElem?_eq_none (by simp; omega)] at h; cases h
  simp [hj] at h
  exact ⟨hj, h.symm⟩
set_option maxHeartbeats 1000000 in
theorem clone_any {b off L cap : Nat} {F : Nat → Nat} {w : World} (hc : ∀ j, j < L → w.cell? ⟨b, off + j, none⟩ = some (.int .u8 (F j : Nat))) (hL : L ≤ 1048576) :
    Calls Try.prog 11 #[.slice (some ⟨b, off, none⟩) L cap] w fun e w' => ∃ g, e = .returned (.slice (some ⟨g, 0, none⟩) L L) ∧ w.heap.size ≤ g ∧ Keeps Nob w w' ∧ Own w' g L (fun j => .int .u8 (F j : Nat)) := by
  have hnil := fun w => Lib.run_eql_slice_nil (P := Try.prog) w 31 5 (some ⟨b, off, none⟩) L cap 0 0 Try.underlying31
  go_enter Try.func11, Try.ntmps11
  go_wp2_with (at_make; refine wpList_make_blk _ rfl _ _ 31 rfl 5 (.int .u8 0) 1 rfl Try.underlying31 info5z _ _ L rfl rfl (by omega) (by unfold maxLen; omega) ?_)
  intro w2 hB hK
  go_wp2_with (refine wpList_copy_blk rfl (.tmp 9) (.tmp 10) 31 31 rfl 5 Try.underlying31 size5z w.heap.size L L ⟨b, off, none⟩ cap rfl rfl _ 5 hB (by simp) ((List.range L).map fun i => encU8 (F i)) (by simp) ?_ (by intro v hv; simp at hv; obtain ⟨i, hi, rfl⟩ := hv; rfl) ?_)
  · intro j v hv
    obtain ⟨hj, rfl⟩ := list_get encU8 F L j v hv
    rw [Addr.add_lit]
    exact (hK.cell (p := ⟨b, off + j, none⟩) (World.block_lt_of_cell? w _ (hc j hj)) (fun h => h)).trans (hc j hj)
  intro w3 hB3 hK3 hs3 ho3
  go_wp2
  go_ret
  refine ⟨w.heap.size, rfl, Nat.le_refl _, ?_, Own.ofBlk hB3 fun j hj => by simp [hj]⟩
  exact ⟨(hK3 (fun _ => True) trivial).os.trans hK.os, (hK3 (fun _ => True) trivial).tape.trans hK.tape, (hK3 (fun _ => True) trivial).output.trans hK.output, by have := hK.size; omega, fun k hk _ => (ho3 k (by omega)).trans (hK.block k hk (fun h => h))⟩

theorem bytes7 {a0 a1 : Option Addr} {n0 c0 n1 c1 : Nat} {x y : Int} {w : World} (h0 : n0 ≤ 9223372036854775807) (h1 : n1 ≤ 9223372036854775807) :
    Calls Try.prog 21 #[.slice a0 n0 c0, .slice a1 n1 c1, .int .i64 x, .int .i64 y] w fun e w' => e = .returned (.bool (decide (n0 + n1 ≤ 1048576))) ∧ w' = w := by
  by_cases hs : n0 + n1 ≤ 1048576
  · rw [decide_eq_true hs]
    go_enter Try.func21, Try.ntmps21
    go_wp2
    go_ret
    exact ⟨rfl, rfl⟩
  · rw [decide_eq_false hs]
    by_cases h2 : n0 ≤ 1048576
    · by_cases h3 : n1 ≤ 1048576
      · have hz : ¬ (n0 : Int) + (n1 : Int) ≤ 1048576 := by omega
        have hz3 : (n1 : Int) ≤ 1048576 := by omega
        have hz2 : (n0 : Int) ≤ 1048576 := by omega
        go_enter Try.func21, Try.ntmps21
        go_wp2
        go_ret
        exact ⟨rfl, rfl⟩
      · have hz3 : ¬ (n1 : Int) ≤ 1048576 := by omega
        have hz2 : (n0 : Int) ≤ 1048576 := by omega
        go_enter Try.func21, Try.ntmps21
        go_wp2
        go_ret
        exact ⟨rfl, rfl⟩
    · have hz2 : ¬ (n0 : Int) ≤ 1048576 := by omega
      go_enter Try.func21, Try.ntmps21
      go_wp2
      go_ret
      exact ⟨rfl, rfl⟩

theorem bytes5 {a0 a1 : Option Addr} {n0 c0 n1 c1 : Nat} {x : Int} {w : World} (h0 : n0 ≤ 9223372036854775807) (h1 : n1 ≤ 9223372036854775807) :
    Calls Try.prog 13 #[.slice a0 n0 c0, .slice a1 n1 c1, .int .i64 x] w fun e w' => e = .returned (.bool (decide (n0 + n1 ≤ 1048576))) ∧ w' = w := by
  by_cases hs : n0 + n1 ≤ 1048576
  · rw [decide_eq_true hs]
    go_enter Try.func13, Try.ntmps13
    go_wp2
    go_ret
    exact ⟨rfl, rfl⟩
  · rw [decide_eq_false hs]
    by_cases h2 : n0 ≤ 1048576
    · by_cases h3 : n1 ≤ 1048576
      · have hz : ¬ (n0 : Int) + (n1 : Int) ≤ 1048576 := by omega
        have hz3 : (n1 : Int) ≤ 1048576 := by omega
        have hz2 : (n0 : Int) ≤ 1048576 := by omega
        go_enter Try.func13, Try.ntmps13
        go_wp2
        go_ret
        exact ⟨rfl, rfl⟩
      · have hz3 : ¬ (n1 : Int) ≤ 1048576 := by omega
        have hz2 : (n0 : Int) ≤ 1048576 := by omega
        go_enter Try.func13, Try.ntmps13
        go_wp2
        go_ret
        exact ⟨rfl, rfl⟩
    · have hz2 : ¬ (n0 : Int) ≤ 1048576 := by omega
      go_enter Try.func13, Try.ntmps13
      go_wp2
      go_ret
      exact ⟨rfl, rfl⟩

end Go.Proofs.Qxb6617947a
