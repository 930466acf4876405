import Derived.Test.Qxb6617947aAl
import Derived.Laws.World
/-! An array of the call's own, told as a function. -/
namespace Go.Proofs.Qxb6617947a
open Go.RowKit

structure Own (w : World) (b n : Nat) (V : Nat → Value) : Prop where
  cell : ∀ j, j < n → w.cell? ⟨b, j, none⟩ = some (V j)
  free : ∀ j, w.frozen? ⟨b, j, none⟩ = false
  lt : b < w.heap.size

def updV (V : Nat → Value) (i : Nat) (v : Value) : Nat → Value := fun j => if j = i then v else V j

theorem Own.ofBlk {w : World} {b : Nat} {T : TypeId} {xs : List Value} (h : Blk w b T xs) {n : Nat} {V : Nat → Value} (hV : ∀ j, j < n → xs[j]? = some (V j)) : Own w b n V :=
  ⟨fun j hj => (h.cell j).trans (hV j hj), fun j => h.free j, h.lt⟩
theorem Own.rep {w : World} {b : Nat} {T : TypeId} {u : Value} {n : Nat} (h : Blk w b T (List.replicate n u)) : Own w b n (fun _ => u) := Own.ofBlk h fun j hj => by simp [hj]
theorem Own.set {w : World} {b n i : Nat} {V : Nat → Value} (h : Own w b n V) (hi : i < n) (v : Value) : Own (w.setCell ⟨b, i, none⟩ v) b n (updV V i v) where
  cell j hj := by
    unfold updV
    by_cases e : j = i
    · subst e
      rw [if_pos rfl]
      exact World.cell?_setCell_same w _ _ (h.cell j hj)
    · rw [if_neg e, World.cell?_setCell_other w _ _ _ (by intro h; exact e (by cases h; rfl))]
      exact h.cell j hj
  free j := by rw [World.frozen?_setCell]; exact h.free j
  lt := by rw [show (w.setCell ⟨b, i, none⟩ v).heap.size = w.heap.size by simp [World.setCell]]; exact h.lt
theorem Own.other {w : World} {b n : Nat} {V : Nat → Value} (h : Own w b n V) {a : Addr} (ha : a.block ≠ b) (v : Value) : Own (w.setCell a v) b n V where
  cell j hj := by rw [World.cell?_setCell_other w _ _ _ (by intro h; exact ha (by rw [h]))]; exact h.cell j hj
  free j := by rw [World.frozen?_setCell]; exact h.free j
  lt := by rw [show (w.setCell a v).heap.size = w.heap.size by simp [World.setCell]]; exact h.lt
theorem Own.drewN {w : World} {b n : Nat} {V : Nat → Value} (h : Own w b n V) (k : Nat) : Own (w.drewN k) b n V := ⟨h.cell, h.free, h.lt⟩
theorem Own.drew {w : World} {b n : Nat} {V : Nat → Value} (h : Own w b n V) : Own w.drew b n V := ⟨h.cell, h.free, h.lt⟩
theorem Own.keep {w w' : World} {b n : Nat} {V : Nat → Value} {S : Nat → Prop} (h : Own w b n V) (hk : Keeps S w w') (hS : ¬ S b) : Own w' b n V where
  cell j hj := (hk.cell (p := ⟨b, j, none⟩) h.lt hS).trans (h.cell j hj)
  free j := (hk.frozen (p := ⟨b, j, none⟩) h.lt hS).trans (h.free j)
  lt := Nat.lt_of_lt_of_le h.lt hk.size
theorem Own.congr {w : World} {b n : Nat} {V V' : Nat → Value} (h : Own w b n V) (hV : ∀ j, j < n → V j = V' j) : Own w b n V' := ⟨fun j hj => by rw [← hV j hj]; exact h.cell j hj, h.free, h.lt⟩
theorem Own.less {w : World} {b n m : Nat} {V : Nat → Value} (h : Own w b n V) (hm : m ≤ n) : Own w b m V := ⟨fun j hj => h.cell j (by omega), h.free, h.lt⟩
theorem Own.slF {α : Type} {w : World} {b n : Nat} {V : Nat → Value} {enc : α → Value} {F : Nat → α} (h : Own w b n V) (hV : ∀ j, V j = enc (F j)) (lo hi : Nat) (hlo : lo ≤ b) (hhi : b < hi) : SlF enc w lo hi (some ⟨b, 0, none⟩) n F := fun _ =>
  ⟨b, 0, rfl, hlo, hhi, fun j hj => by rw [Nat.zero_add, ← hV]; exact h.cell j hj⟩
theorem keeps_set {w0 w : World} {S : Nat → Prop} (h : Keeps S w0 w) {b i : Nat} (hb : w0.heap.size ≤ b) (v : Value) : Keeps S w0 (w.setCell ⟨b, i, none⟩ v) := h.setNew (p := ⟨b, i, none⟩) hb v
theorem updV_nat {F : Nat → Nat} {k : IntKind} {i x : Nat} : updV (fun j => .int k (F j)) i (.int k (x : Nat)) = fun j => .int k ((if j = i then x else F j : Nat)) := by
  funext j
  unfold updV
  by_cases h : j = i <;> simp [h]
end Go.Proofs.Qxb6617947a
