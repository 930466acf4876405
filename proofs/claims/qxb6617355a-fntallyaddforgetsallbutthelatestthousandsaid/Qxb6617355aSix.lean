import Derived.Test.Qxb6617355aRes
/-! Sixteen cells written one after the other. -/
namespace Go.Proofs.Qxb6617355a
def six (w : World) (r : Nat) (B : Nat → Nat) : Nat → World
  | 0 => w
  | n + 1 => (six w r B n).setCell ⟨r, n, none⟩ (.int .u64 (B n))
theorem six_keeps (w w2 : World) (r : Nat) (B : Nat → Nat) (hK : Keeps Nob w w2) (hr : w.heap.size ≤ r) : ∀ n, Keeps Nob w (six w2 r B n)
  | 0 => hK
  | n + 1 => (six_keeps w w2 r B hK hr n).setNew (p := ⟨r, n, none⟩) hr _
theorem six_blk (w : World) (r : Nat) (B : Nat → Nat) (h : Blk w r 30 (cellsB fun _ => 0)) : ∀ n, n ≤ 16 → Blk (six w r B n) r 30 (cellsB fun j => if j < n then B j else 0)
  | 0, _ => h
  | n + 1, hn => by
    have ih := (six_blk w r B h n (by omega)).set n (.int .u64 (B n))
    have e : (cellsB fun j => if j < n then B j else 0).set n (.int .u64 (B n)) = cellsB fun j => if j < n + 1 then B j else 0 := by
      have hc : n = 0 ∨ n = 1 ∨ n = 2 ∨ n = 3 ∨ n = 4 ∨ n = 5 ∨ n = 6 ∨ n = 7 ∨ n = 8 ∨ n = 9 ∨ n = 10 ∨ n = 11 ∨ n = 12 ∨ n = 13 ∨ n = 14 ∨ n = 15 := by omega
      rcases hc with rfl | rfl | rfl | rfl | rfl | rfl | rfl | rfl | rfl | rfl | rfl | rfl | rfl | rfl | rfl | rfl <;> rfl
    rw [e] at ih
    exact ih
theorem six16 (w : World) (r : Nat) (B : Nat → Nat) : six w r B 16 = ((((((((((((((((w.setCell ⟨r, 0, none⟩ (.int .u64 (B 0))).setCell ⟨r, 1, none⟩ (.int .u64 (B 1))).setCell ⟨r, 2, none⟩ (.int .u64 (B 2))).setCell ⟨r, 3, none⟩ (.int .u64 (B 3))).setCell ⟨r, 4, none⟩ (.int .u64 (B 4))).setCell ⟨r, 5, none⟩ (.int .u64 (B 5))).setCell ⟨r, 6, none⟩ (.int .u64 (B 6))).setCell ⟨r, 7, none⟩ (.int .u64 (B 7))).setCell ⟨r, 8, none⟩ (.int .u64 (B 8))).setCell ⟨r, 9, none⟩ (.int .u64 (B 9))).setCell ⟨r, 10, none⟩ (.int .u64 (B 10))).setCell ⟨r, 11, none⟩ (.int .u64 (B 11))).setCell ⟨r, 12, none⟩ (.int .u64 (B 12))).setCell ⟨r, 13, none⟩ (.int .u64 (B 13))).setCell ⟨r, 14, none⟩ (.int .u64 (B 14))).setCell ⟨r, 15, none⟩ (.int .u64 (B 15))) := rfl
theorem six_range (w : World) (r : Nat) (B : Nat → Nat) (h : Blk w r 30 (cellsB fun _ => 0)) : (six w r B 16).drew.rangeAt r 0 (cellsB B) := by
  have e : (cellsB fun j => if j < 16 then B j else 0) = cellsB B := by
    unfold cellsB
    simp only [Nat.reduceLT, if_true]
  have h := six_blk w r B h 16 (Nat.le_refl _)
  rw [e] at h
  generalize six w r B 16 = W at h ⊢
  generalize cellsB B = xs at h ⊢
  intro j v hv
  have := h.cell j
  rw [Nat.zero_add]
  exact this.trans hv
end Go.Proofs.Qxb6617355a
