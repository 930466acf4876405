import Derived.Test.Qxb6617355aStepT
import Derived.Test.Qxb6617355aSix
import Derived.Deep.WholeRow
import Derived.Deep.MidRow
namespace Go.Proofs.Qxb6617355a
open Go.RowKit
abbrev objZ : Obj := .cells #[.int .u64 0, .int .u64 0, .int .u64 0, .int .u64 0, .int .u64 0, .int .u64 0, .int .u64 0, .int .u64 0, .int .u64 0, .int .u64 0, .int .u64 0, .int .u64 0, .int .u64 0, .int .u64 0, .int .u64 0, .int .u64 0] 30
abbrev zT : Array Value := #[.int .u64 0, .int .u64 0, .int .u64 0, .int .u64 0, .int .u64 0, .int .u64 0, .int .u64 0, .int .u64 0, .int .u64 0, .int .u64 0, .int .u64 0, .int .u64 0, .int .u64 0, .int .u64 0, .int .u64 0, .int .u64 0, .int .i64 0, .int .i64 0, .int .i64 0]
abbrev rowT (B : Nat → Nat) (N next cnt : Int) : Array Value := #[.int .u64 (B 0), .int .u64 (B 1), .int .u64 (B 2), .int .u64 (B 3), .int .u64 (B 4), .int .u64 (B 5), .int .u64 (B 6), .int .u64 (B 7), .int .u64 (B 8), .int .u64 (B 9), .int .u64 (B 10), .int .u64 (B 11), .int .u64 (B 12), .int .u64 (B 13), .int .u64 (B 14), .int .u64 (B 15), .int .i64 N, .int .i64 next, .int .i64 cnt]
theorem row_new (w : World) (B : Nat → Nat) (xs : Array Value) : (((w.alloc (objB B)).alloc objZ).alloc (.cells xs 41)).heap[w.heap.size + 1 + 1]? = some (.cells xs 41) := by
  have h := heap_alloc_new ((w.alloc (objB B)).alloc objZ) (.cells xs 41)
  have e : ((w.alloc (objB B)).alloc objZ).heap.size = w.heap.size + 1 + 1 := by simp
  rw [e] at h
  exact h
theorem box_there (w : World) (B : Nat → Nat) : ((w.alloc (objB B)).alloc objZ).heap[w.heap.size]? = some (objB B) := by
  rw [heap_alloc_old]
  · exact heap_alloc_new w (objB B)
  · simp
theorem rowT_one (B : Nat → Nat) (N next cnt : Int) : (rowT B N next cnt).all (·.oneCell') = true := by
  simp [Value.oneCell']
theorem info41 (B : Nat → Nat) (N next cnt : Int) : (Try.prog.info? 41).map (·.size) = some (rowT B N next cnt).size := by kernel_rfl
theorem tally_laid (w : World) (B : Nat → Nat) (N next cnt : Int) : Blk ((((w.alloc (objB B)).alloc objZ).alloc (.cells zT 41)).setRow (w.heap.size + 1 + 1) (rowT B N next cnt)) (w.heap.size + 1 + 1) 41 (cellsT B N next cnt) := by
  have e : ((w.alloc (objB B)).alloc objZ).heap.size = w.heap.size + 1 + 1 := by simp
  rw [← e, World.setRow_alloc_new]
  exact heap_alloc_new _ _
theorem tally_keeps (w : World) (B : Nat → Nat) (N next cnt : Int) : Keeps Nob w ((((w.alloc (objB B)).alloc objZ).alloc (.cells zT 41)).setRow (w.heap.size + 1 + 1) (rowT B N next cnt)) := by
  have e : ((w.alloc (objB B)).alloc objZ).heap.size = w.heap.size + 1 + 1 := by simp
  rw [← e, World.setRow_alloc_new]
  exact (((Keeps.refl Nob w).alloc _).alloc _).alloc _
set_option maxHeartbeats 8000000 in
set_option maxRecDepth 100000 in
theorem zzTallyAdd_any (B : Nat → Nat) (N next : Nat) (cnt : Int) (o : Bool) (w : World) (hN : N ≤ 1000) (hn : next < 1000) (hB : ∀ i, B i < 18446744073709551616) (hc : 0 ≤ cnt ∧ cnt ≤ 2000) :
    Calls Try.prog 12 #[aggB B, .int .i64 N, .int .i64 next, .int .i64 cnt, .bool o] w fun e w' => e = .returned (.tuple #[aggB (setB B next o), .int .i64 (nextN N), .int .i64 ((next + 1) % 1000 : Nat), .int .i64 (cnt - dropped B N next + gained o)]) ∧ Keeps Nob w w' := by
  have HB : Hid (∀ i, B i < 18446744073709551616) := hB
  clear hB
  go_enter Try.func12, Try.ntmps12
  go_wp2_with (first | (refine wpList_load_row rfl 30 (.tmp 5) rfl w.heap.size rfl 30 _ _ _ (box_there w B) Try.underlying30 rfl (by kernel_rfl) ?_) | (refine wpList_store_row rfl 41 (.tmp 14) (.tmp 19) rfl (w.heap.size + 1 + 1) (rowT B N next cnt) rfl rfl 41 zT (row_new w B zT) (info41 B N next cnt) rfl (rowT_one B N next cnt) ?_) | (go_at_call 18; refine (add_all (w.heap.size + 1 + 1) B N next cnt o _ (tally_laid w B N next cnt) hN hn HB.out hc).mono ?_))
  rintro e w2 ⟨rfl, hK, hT⟩
  have k16 := hT.cell 16
  have k17 := hT.cell 17
  have k18 := hT.cell 18
  have hR : w2.rangeAt (w.heap.size + 1 + 1) 0 (cellsB (setB B next o)) := fun j v hv => by
    rw [Nat.zero_add, hT.cell]
    exact (List.getElem?_append_left (by simpa using (List.getElem?_eq_some_iff.1 hv).1)).trans hv
  have k0 := hT.cell 0
  have k1 := hT.cell 1
  have k2 := hT.cell 2
  have k3 := hT.cell 3
  have k4 := hT.cell 4
  have k5 := hT.cell 5
  have k6 := hT.cell 6
  have k7 := hT.cell 7
  have k8 := hT.cell 8
  have k9 := hT.cell 9
  have k10 := hT.cell 10
  have k11 := hT.cell 11
  have k12 := hT.cell 12
  have k13 := hT.cell 13
  have k14 := hT.cell 14
  have k15 := hT.cell 15
  have hz : w2.heap[w.heap.size + 1]? = some objZ := by
    have e0 : ((w.alloc (objB B)).alloc objZ).heap.size = w.heap.size + 1 + 1 := by simp
    have e1 : ((((w.alloc (objB B)).alloc objZ).alloc (.cells zT 41)).setRow (w.heap.size + 1 + 1) (rowT B N next cnt)).heap[w.heap.size + 1]? = some objZ := by
      rw [← e0, World.setRow_alloc_new, heap_alloc_old]
      · have h := heap_alloc_new (w.alloc (objB B)) objZ
        have e2 : (w.alloc (objB B)).heap.size = w.heap.size + 1 := by simp
        rwa [e2] at h
      · rw [e0]; omega
    refine (hK.block _ ?_ (by omega)).trans e1
    rcases Nat.lt_or_ge (w.heap.size + 1) ((((w.alloc (objB B)).alloc objZ).alloc (.cells zT 41)).setRow (w.heap.size + 1 + 1) (rowT B N next cnt)).heap.size with h | h
    · exact h
    · rw [Array.getElem?_eq_none h] at e1; cases e1
  have HZ : Hid (Blk w2 (w.heap.size + 1) 30 (cellsB fun _ => 0)) := hz
  have hzc : ∀ j, j < 16 → w2.cell? ⟨w.heap.size + 1, j, none⟩ = some (.int .u64 0) := fun j hj => by
    unfold World.cell?
    simp only [hz]
    show (cellsB (fun _ => 0)).toArray[j]? = _
    have h2 := cellsB_get (B := fun _ => 0) hj
    simpa using h2
  have hzf : ∀ j, w2.frozen? ⟨w.heap.size + 1, j, none⟩ = false := fun j => by
    unfold World.frozen?
    simp only [hz]
    simp
  have z0 : w2.cell? ⟨w.heap.size + 1, 0, none⟩ = some (.int .u64 0) := hzc 0 (by decide)
  have f0 := hzf 0
  have z1 : w2.cell? ⟨w.heap.size + 1, 1, none⟩ = some (.int .u64 0) := hzc 1 (by decide)
  have f1 := hzf 1
  have z2 : w2.cell? ⟨w.heap.size + 1, 2, none⟩ = some (.int .u64 0) := hzc 2 (by decide)
  have f2 := hzf 2
  have z3 : w2.cell? ⟨w.heap.size + 1, 3, none⟩ = some (.int .u64 0) := hzc 3 (by decide)
  have f3 := hzf 3
  have z4 : w2.cell? ⟨w.heap.size + 1, 4, none⟩ = some (.int .u64 0) := hzc 4 (by decide)
  have f4 := hzf 4
  have z5 : w2.cell? ⟨w.heap.size + 1, 5, none⟩ = some (.int .u64 0) := hzc 5 (by decide)
  have f5 := hzf 5
  have z6 : w2.cell? ⟨w.heap.size + 1, 6, none⟩ = some (.int .u64 0) := hzc 6 (by decide)
  have f6 := hzf 6
  have z7 : w2.cell? ⟨w.heap.size + 1, 7, none⟩ = some (.int .u64 0) := hzc 7 (by decide)
  have f7 := hzf 7
  have z8 : w2.cell? ⟨w.heap.size + 1, 8, none⟩ = some (.int .u64 0) := hzc 8 (by decide)
  have f8 := hzf 8
  have z9 : w2.cell? ⟨w.heap.size + 1, 9, none⟩ = some (.int .u64 0) := hzc 9 (by decide)
  have f9 := hzf 9
  have z10 : w2.cell? ⟨w.heap.size + 1, 10, none⟩ = some (.int .u64 0) := hzc 10 (by decide)
  have f10 := hzf 10
  have z11 : w2.cell? ⟨w.heap.size + 1, 11, none⟩ = some (.int .u64 0) := hzc 11 (by decide)
  have f11 := hzf 11
  have z12 : w2.cell? ⟨w.heap.size + 1, 12, none⟩ = some (.int .u64 0) := hzc 12 (by decide)
  have f12 := hzf 12
  have z13 : w2.cell? ⟨w.heap.size + 1, 13, none⟩ = some (.int .u64 0) := hzc 13 (by decide)
  have f13 := hzf 13
  have z14 : w2.cell? ⟨w.heap.size + 1, 14, none⟩ = some (.int .u64 0) := hzc 14 (by decide)
  have f14 := hzf 14
  have z15 : w2.cell? ⟨w.heap.size + 1, 15, none⟩ = some (.int .u64 0) := hzc 15 (by decide)
  have f15 := hzf 15
  clear hz hzc hzf
  obtain ⟨B', hB'⟩ : ∃ B', setB B next o = B' := ⟨_, rfl⟩
  rw [hB'] at k0 k1 k2 k3 k4 k5 k6 k7 k8 k9 k10 k11 k12 k13 k14 k15 k16 k17 k18
  have HB' : Hid (setB B next o = B') := hB'
  clear hR hT hB'
  simp only [cellsT, cellsB, List.cons_append, List.nil_append, List.getElem?_cons_zero, List.getElem?_cons_succ] at k0 k1 k2 k3 k4 k5 k6 k7 k8 k9 k10 k11 k12 k13 k14 k15 k16 k17 k18
  go_wp2
  go_wp2
  go_region
  go_wp2
  (try simp only [Exit.inBlock, Exit.then])
  have hR3 := six_range w2 (w.heap.size + 1) B' HZ.out
  have hs1 := (tally_keeps w B N next cnt).size
  have hK8 : Keeps Nob w w2 := ⟨hK.os.trans (tally_keeps w B N next cnt).os, hK.tape.trans (tally_keeps w B N next cnt).tape, hK.output.trans (tally_keeps w B N next cnt).output, Nat.le_trans hs1 hK.size, fun x hx hn => (hK.block x (Nat.lt_of_lt_of_le hx hs1) (by omega)).trans ((tally_keeps w B N next cnt).block x hx hn)⟩
  have hK3 : Keeps Nob w (six w2 (w.heap.size + 1) B' 16).drew := (six_keeps w w2 (w.heap.size + 1) B' hK8 (Nat.le_succ _) 16).drew
  rw [HB'.out, ← six16]
  generalize (six w2 (w.heap.size + 1) B' 16).drew = w3 at hK3 hR3 ⊢
  exact bodyPost_ret (results_row3 rfl _ _ (w.heap.size + 1) B' rfl hR3) rfl ⟨rfl, hK3⟩
end Go.Proofs.Qxb6617355a
