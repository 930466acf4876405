import Derived.Test.Qxb6617947aAp
import Derived.Test.Qxb6617947aS15
/-! clear; the sort of a part of an own array. -/
namespace Go.Proofs.Qxb6617947a
open Go.RowKit Go.Sort

theorem zeroCells_one (z : Value) (n : Nat) : (Builtin.zeroCells #[z] n).toList = List.replicate n z := by
  unfold Builtin.zeroCells
  apply List.ext_getElem
  · simp
  · intro i h1 h2
    simp [Nat.mod_one]
theorem run_clear_u8 (w : World) (ty : TypeId) (g off n cap : Nat) (hth : w.there g off n) :
    (Builtin.clear_ #[31] ty #[.slice (some ⟨g, off, none⟩) n cap]).run Try.prog w = .ok (.tuple #[]) (w.setCells g off (List.replicate n (.int .u8 0))) := by
  have hst := run_storeCells_cells (P := Try.prog) g off (List.replicate n (.int .u8 0)) 0 w (fun j hj => by simpa using (hth j (by simpa using hj)).1) (fun j hj => by simpa using (hth j (by simpa using hj)).2) (fun v hv => by
    rw [List.eq_of_mem_replicate hv]; rfl)
  simp only [Nat.add_zero] at hst
  cases n with
  | zero => simp [Builtin.clear_, run_underlying Try.underlying31]; rfl
  | succ n =>
    simp only [Builtin.clear_, run_underlying Try.underlying31, Sem.run_bind, Sem.run_pure, Result.andThen_ok, List.getElem?_toArray, List.getElem?_cons_zero, Try.zeroValue5]
    have hz : (Builtin.zeroCells (Value.int .u8 0).cells (n + 1)).toList = List.replicate (n + 1) (.int .u8 0) := zeroCells_one _ _
    rw [hz, hst]
    rfl
theorem wpList_clear_u8 {w : World} {ops : Array Oper} {rest : List Oper} {o : Oper} {a : Act} {Q : Exit → Act → World → Prop} (hgd : o.guard = none) (x : Operand)
    (ho : o.op = .call { callee := .builtin .clear, args := #[x], argTypes := #[31] }) (hdst : o.dst = none)
    (g off n cap : Nat) (hx : a.eval x = .slice (some ⟨g, off, none⟩) n cap) (hth : w.there g off n)
    (h : wpList Try.prog ops Q rest a (w.setCells g off (List.replicate n (.int .u8 0)))) : wpList Try.prog ops Q (o :: rest) a w :=
  wpList_plain hgd fun _ hK => by
    have hr := run_clear_u8 w o.type g off n cap hth
    unfold Oper.wp execOp
    simp only [ho, resolve, invoke, builtin, Sem.run_bind, Sem.run_pure, Result.andThen_ok, List.map_toArray, List.map_cons, List.map_nil, hx, hr]
    have h2 := hK _ _ h
    rw [← show a.put o.dst (.tuple #[]) = a by rw [hdst]; rfl] at h2
    exact h2

/-- The sort of the first n cells of an own array. -/
theorem keeps_sorted {w : World} {kb N : Nat} {Kf : Nat → Nat} (h : Own w kb N (fun j => .int .u64 (Kf j))) {n : Nat} (hn : n ≤ N) (d : List Int) (hd : d.length = n) (m : Nat) (os : Array Obj) :
    Keeps (fun b => b = kb) w (grow (putRow (Value.int .u64) (Sort.ahead w m) kb 0 d.toArray) os) ∧
    Own (grow (putRow (Value.int .u64) (Sort.ahead w m) kb 0 d.toArray) os) kb N (fun j => if j < n then .int .u64 (d.getD j 0) else .int .u64 (Kf j)) := by
  have hH : Holds (Value.int .u64) (Sort.ahead w m) kb 0 ((List.range n).map fun j => (Kf j : Int)).toArray := fun j hj => by
    have hj' : j < n := by simpa using hj
    refine ⟨?_, h.free _⟩
    rw [Nat.zero_add]
    have := h.cell j (by omega)
    rw [show (Sort.ahead w m).cell? ⟨kb, j, none⟩ = w.cell? ⟨kb, j, none⟩ from rfl, this]
    simp [hj']
  have hs : d.toArray.size = ((List.range n).map fun j => (Kf j : Int)).toArray.size := by simp [hd]
  have hlt : kb < (putRow (Value.int .u64) (Sort.ahead w m) kb 0 d.toArray).heap.size := by simpa using h.lt
  constructor
  · refine ⟨rfl, rfl, rfl, by simp, fun k hk hne => ?_⟩
    have hk2 : k < (putRow (Value.int .u64) (Sort.ahead w m) kb 0 d.toArray).heap.size := by simpa using hk
    rw [heap_grow_old _ _ hk2]
    show (w.heap.modify kb _)[k]? = w.heap[k]?
    rw [Array.getElem?_modify]
    rw [if_neg (fun e => hne e.symm)]
  · constructor
    · intro j hj
      rw [cell?_grow _ _ _ hlt]
      by_cases hjn : j < n
      · have := cell?_putRow (Value.int .u64) (Sort.ahead w m) kb 0 _ d.toArray hH hs j (by simpa [hd] using hjn)
        rw [Nat.zero_add] at this
        rw [this, if_pos hjn]
        simp [hd, hjn]
      · rw [cell?_putRow_other _ _ _ _ _ _ (.inr (.inr (by simp [hd]; omega))), if_neg hjn]
        exact h.cell j hj
    · intro j
      rw [frozen?_grow _ _ _ hlt, frozen?_putRow]
      exact h.free j
    · rw [size_grow]
      omega
theorem sort_any {kb N n : Nat} {Kf : Nat → Nat} {w : World} (h : Own w kb N (fun j => .int .u64 (Kf j))) (hn : n ≤ N) (hN : N ≤ 512) :
    Calls Try.prog 24 #[.slice (some ⟨kb, 0, none⟩) n N] w fun e w' => e = .returned (.tuple #[]) ∧ Keeps (fun b => b = kb) w w' ∧
      Own w' kb N (fun j => if j < n then .int .u64 ((((List.range n).map fun j => (Kf j : Int)).mergeSort fun x y => decide (x ≤ y)).getD j 0) else .int .u64 (Kf j)) := by
  have hH : Holds (Value.int .u64) w kb 0 ((List.range n).map fun j => (Kf j : Int)).toArray := fun j hj => by
    have hj' : j < n := by simpa using hj
    refine ⟨?_, h.free _⟩
    rw [Nat.zero_add, h.cell j (by omega)]
    simp [hj']
  have := sortU kb 0 N ((List.range n).map fun j => (Kf j : Int)) w hH h.lt (by simp; omega)
  rw [show ((List.range n).map fun j => (Kf j : Int)).length = n by simp] at this
  refine this.mono ?_
  rintro e w' ⟨he, m, os, rfl⟩
  have hk := keeps_sorted h hn (((List.range n).map fun j => (Kf j : Int)).mergeSort fun x y => decide (x ≤ y)) (by simp) m os
  exact ⟨he, hk.1, hk.2⟩
end Go.Proofs.Qxb6617947a
