import Derived.Test.Qxb6617355aProg
import Derived.Test.Qxb6617355aMem
import Derived.BigRegion
import Derived.WalkSmall
import Derived.Laws.Bits64b
import Derived.Laws.BitsAllLaws
/-! The bits of a tally. -/
namespace Go.Proofs.Qxb6617355a
open Go.RowKit

/-- The sixteen words. -/
def cellsB (B : Nat → Nat) : List Value := [.int .u64 (B 0), .int .u64 (B 1), .int .u64 (B 2), .int .u64 (B 3), .int .u64 (B 4), .int .u64 (B 5), .int .u64 (B 6), .int .u64 (B 7), .int .u64 (B 8), .int .u64 (B 9), .int .u64 (B 10), .int .u64 (B 11), .int .u64 (B 12), .int .u64 (B 13), .int .u64 (B 14), .int .u64 (B 15)]
abbrev aggB (B : Nat → Nat) : Value := .agg #[.int .u64 (B 0), .int .u64 (B 1), .int .u64 (B 2), .int .u64 (B 3), .int .u64 (B 4), .int .u64 (B 5), .int .u64 (B 6), .int .u64 (B 7), .int .u64 (B 8), .int .u64 (B 9), .int .u64 (B 10), .int .u64 (B 11), .int .u64 (B 12), .int .u64 (B 13), .int .u64 (B 14), .int .u64 (B 15)]
theorem cellsB_get {B : Nat → Nat} {i : Nat} (hi : i < 16) : (cellsB B)[i]? = some (.int .u64 (B i)) := by
  have h : i = 0 ∨ i = 1 ∨ i = 2 ∨ i = 3 ∨ i = 4 ∨ i = 5 ∨ i = 6 ∨ i = 7 ∨ i = 8 ∨ i = 9 ∨ i = 10 ∨ i = 11 ∨ i = 12 ∨ i = 13 ∨ i = 14 ∨ i = 15 := by omega
  rcases h with rfl | rfl | rfl | rfl | rfl | rfl | rfl | rfl | rfl | rfl | rfl | rfl | rfl | rfl | rfl | rfl <;> rfl

def bit (B : Nat → Nat) (p : Nat) : Bool := (B (p / 64)).testBit (p % 64)

abbrev objB (B : Nat → Nat) : Obj := .cells #[.int .u64 (B 0), .int .u64 (B 1), .int .u64 (B 2), .int .u64 (B 3), .int .u64 (B 4), .int .u64 (B 5), .int .u64 (B 6), .int .u64 (B 7), .int .u64 (B 8), .int .u64 (B 9), .int .u64 (B 10), .int .u64 (B 11), .int .u64 (B 12), .int .u64 (B 13), .int .u64 (B 14), .int .u64 (B 15)] 30
theorem objB_cell (B : Nat → Nat) (w : World) {i : Nat} (hi : i < 16) : (w.alloc (objB B)).cell? ⟨w.heap.size, i, none⟩ = some (.int .u64 (B i)) := by
  rw [World.cell?_alloc_new]
  have h := cellsB_get (B := B) hi
  rw [← h]
  show (cellsB B).toArray[i]? = _
  simp

theorem bit_test {x k : Nat} (hx : x < 18446744073709551616) : (bits BinOp.and IntKind.u64 ((x : Int) / 2 ^ k) 1 == 1) = x.testBit k := by
  have e : (x : Int) / 2 ^ k = ((x / 2 ^ k : Nat) : Int) := by simp
  have h2 : x / 2 ^ k ≤ x := Nat.div_le_self _ _
  rw [e, Nat.testBit_eq_decide_div_mod_eq]
  generalize x / 2 ^ k = y at h2
  rw [and_one_u64 _ (by omega) (by omega)]
  by_cases h : y % 2 = 1
  · have : (y : Int) % 2 = 1 := by omega
    simp [h, this]
  · have : ¬ (y : Int) % 2 = 1 := by omega
    simp [h, this]

theorem zzhBit_any (B : Nat → Nat) (p : Nat) (w : World) (hp : p < 1024) (hB : ∀ i, B i < 18446744073709551616) :
    Calls Try.prog 15 #[aggB B, .int .i64 p] w fun e w' => e = .returned (.bool (bit B p)) ∧ Keeps Nob w w' := by
  have hc := objB_cell B w (i := p / 64) (by omega)
  have hb := hB (p / 64)
  obtain ⟨x, hx⟩ : ∃ x, B (p / 64) = x := ⟨_, rfl⟩
  rw [hx] at hc hb
  have HX : Hid (bit B p = x.testBit (p % 64)) := by show _ = _; unfold bit; rw [hx]
  clear hx
  go_enter Try.func15, Try.ntmps15
  go_wp2
  go_ret
  refine ⟨?_, (Keeps.refl _ w).alloc _⟩
  show Ending.returned (.bool (bits BinOp.and IntKind.u64 ((x : Int) / 2 ^ (p % 64)) 1 == 1)) = _
  rw [bit_test hb, HX.out]
end Go.Proofs.Qxb6617355a
