import Derived.Test.Qxb6617947aProg
import Derived.Test.Qxb6617947aMem
import Derived.Great.Walk
/-! Great arrays, made: their cells are never written out. -/
namespace Go.Proofs.Qxb6617947a
open Go.RowKit

/-- Are the cells n times what p says? -/
def allB (p : Value → Bool) : Nat → List Value → Bool
  | 0, [] => true
  | n + 1, v :: l => p v && allB p n l
  | _, _ => false
theorem allB_list {p : Value → Bool} {u : Value} (hp : ∀ v, p v = true → v = u) : ∀ {n : Nat} {l : List Value}, allB p n l = true → l = List.replicate n u
  | 0, [], _ => rfl
  | n + 1, v :: l, h => by
    simp only [allB, Bool.and_eq_true] at h
    rw [hp v h.1, allB_list hp h.2]
    rfl
  | 0, _ :: _, h => by simp [allB] at h
  | n + 1, [], h => by simp [allB] at h
def isU64 : Value → Bool | .int .u64 n => n == 0 | _ => false
def isU16 : Value → Bool | .int .u16 n => n == 0 | _ => false
def isU8 : Value → Bool | .int .u8 n => n == 0 | _ => false
def isNo : Value → Bool | .bool b => !b | _ => false
theorem isU64_eq (v : Value) (h : isU64 v = true) : v = .int .u64 0 := by
  unfold isU64 at h
  split at h
  · simp at h; rw [h]
  · cases h
theorem isU16_eq (v : Value) (h : isU16 v = true) : v = .int .u16 0 := by
  unfold isU16 at h
  split at h
  · simp at h; rw [h]
  · cases h
theorem isU8_eq (v : Value) (h : isU8 v = true) : v = .int .u8 0 := by
  unfold isU8 at h
  split at h
  · simp at h; rw [h]
  · cases h
theorem isNo_eq (v : Value) (h : isNo v = true) : v = .bool false := by
  unfold isNo at h
  split at h
  · simp at h; rw [h]
  · cases h
def zeroOf (t : Option TypeInfo) : Option (List Value) := (t.bind (·.zero)).map (·.cells.toList)
def zeroIs (p : Value → Bool) (n : Nat) (t : Option TypeInfo) : Bool := match zeroOf t with | some l => allB p n l | none => false
theorem zeroIs_of {p : Value → Bool} {u : Value} (hp : ∀ v, p v = true → v = u) {n : Nat} {t : Option TypeInfo} (h : zeroIs p n t = true) : ∃ i z, t = some i ∧ i.zero = some z ∧ z.cells = (List.replicate n u).toArray := by
  cases t with
  | none => simp [zeroIs, zeroOf] at h
  | some i =>
    cases hz : i.zero with
    | none => simp [zeroIs, zeroOf, hz] at h
    | some z =>
      simp only [zeroIs, zeroOf, hz, Option.bind_some, Option.map_some] at h
      exact ⟨i, z, rfl, hz, by rw [← allB_list hp h]⟩

theorem wpList_alloc_zero {P : Program} {w : World} {ops : Array Oper} {rest : List Oper} {o : Oper} {a : Act} {Q : Exit → Act → World → Prop} (hg : o.guard = none) (dst : Option Tmp) (hdst : o.dst = dst) (t : TypeId) (ho : o.op = .alloc t)
    (u : Value) (n : Nat) (hz : ∃ i z, P.info? t = some i ∧ i.zero = some z ∧ z.cells = (List.replicate n u).toArray)
    (h : ∀ w', Blk w' w.heap.size t (List.replicate n u) → Keeps Nob w w' → wpList P ops Q rest (a.put dst (.pointer (some ⟨w.heap.size, 0, none⟩))) w') : wpList P ops Q (o :: rest) a w := by
  obtain ⟨i, z, hi, hz, hc⟩ := hz
  refine Go.Great.wpList_allocTo hg dst hdst (.pointer (some ⟨w.heap.size, 0, none⟩)) (.cells (List.replicate n u).toArray t) ?_ (h _ (Blk.new w t _) ((Keeps.refl Nob w).alloc _))
  have hzv : ∀ w, (zeroValue t).run P w = .ok z w := fun w => by
    unfold zeroValue
    simp [Sem.run_bind, typeInfo, hi, hz]
  unfold execOp
  simp only [ho, Instr.alloc, newVar, newRow]
  simp [Sem.run_bind, hzv]
  rw [hc]
  simp
theorem zero26 : zeroIs isU64 512 (Try.prog.info? 26) = true := by kernel_rfl
theorem zero49 : zeroIs isU16 1024 (Try.prog.info? 49) = true := by kernel_rfl
theorem zero50 : zeroIs isU8 1024 (Try.prog.info? 50) = true := by kernel_rfl
theorem zero54 : zeroIs isU64 2048 (Try.prog.info? 54) = true := by kernel_rfl
theorem zero52 : zeroIs isNo 20480 (Try.prog.info? 52) = true := by kernel_rfl
end Go.Proofs.Qxb6617947a
