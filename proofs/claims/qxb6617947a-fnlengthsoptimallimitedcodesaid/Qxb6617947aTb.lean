import Derived.Test.Qxb6617947aOr
import Derived.Test.Qxb6617947aCb
/-! The table of the search, as cells. -/
namespace Go.Proofs.Qxb6617947a
open Go.RowKit
set_option linter.unusedVariables false
set_option linter.unusedSimpArgs false
theorem tail18_0 : tailF Try.f18 0 = .seq (stmtF Try.f18 0) (tailF Try.f18 1) := by kernel_rfl
theorem tail18_1 : tailF Try.f18 1 = .seq (stmtF Try.f18 1) (tailF Try.f18 2) := by kernel_rfl
theorem tail18_2 : tailF Try.f18 2 = .seq (stmtF Try.f18 2) (tailF Try.f18 3) := by kernel_rfl
theorem tail18_3 : tailF Try.f18 3 = .seq (stmtF Try.f18 3) (tailF Try.f18 7) := by kernel_rfl
theorem tail18_7 : tailF Try.f18 7 = .seq (stmtF Try.f18 7) (tailF Try.f18 8) := by kernel_rfl
theorem tail18_8 : tailF Try.f18 8 = .seq (stmtF Try.f18 8) (tailF Try.f18 9) := by kernel_rfl
theorem tail18_9 : tailF Try.f18 9 = .seq (stmtF Try.f18 9) (tailF Try.f18 10) := by kernel_rfl
theorem tail18_10 : tailF Try.f18 10 = .seq (stmtF Try.f18 10) (tailF Try.f18 14) := by kernel_rfl
theorem tail18_14 : tailF Try.f18 14 = .seq (stmtF Try.f18 14) (tailF Try.f18 15) := by kernel_rfl
theorem tail18_15 : tailF Try.f18 15 = .seq (stmtF Try.f18 15) (tailF Try.f18 16) := by kernel_rfl
theorem tail18_16 : tailF Try.f18 16 = .seq (stmtF Try.f18 16) (tailF Try.f18 53) := by kernel_rfl
theorem body18 : Try.f18.body = some (tailF Try.f18 0) := by kernel_rfl

def tabV (sd : Nat) (V : Tab) : Nat → Value := fun x => .int .u64 (V (x / sd) (x % sd) : Nat)
theorem tab_idx {sd i a m0 : Nat} (ha : a < sd) (hm : i * sd = m0) : (m0 + a) / sd = i ∧ (m0 + a) % sd = a := by
  subst hm
  have h0 : 0 < sd := by omega
  rw [Nat.mul_comm]
  constructor
  · rw [Nat.mul_add_div h0, Nat.div_eq_of_lt ha, Nat.add_zero]
  · rw [Nat.mul_add_mod, Nat.mod_eq_of_lt ha]
theorem tab_cell {w : World} {b S sd i a m0 : Nat} {V : Tab} (h : Own w b S (tabV sd V)) (ha : a < sd) (hm : i * sd = m0) (hS : m0 + a < S) : w.cell? ⟨b, m0 + a, none⟩ = some (.int .u64 (V i a : Nat)) := by
  have h1 := h.cell (m0 + a) hS
  unfold tabV at h1
  rwa [(tab_idx ha hm).1, (tab_idx ha hm).2] at h1
theorem tab_set {w : World} {b S sd i a m0 : Nat} {V : Tab} (h : Own w b S (tabV sd V)) (ha : a < sd) (hm : i * sd = m0) (hS : m0 + a < S) (v : Nat) : Own (w.setCell ⟨b, m0 + a, none⟩ (.int .u64 (v : Nat))) b S (tabV sd (updT V i a v)) :=
  (h.set hS _).congr fun x _ => by
    unfold updV tabV updT
    by_cases hx : x = m0 + a
    · rw [if_pos hx, hx, (tab_idx ha hm).1, (tab_idx ha hm).2, if_pos ⟨rfl, rfl⟩]
    · rw [if_neg hx, if_neg (fun h2 => hx (by
        have := Nat.div_add_mod x sd
        rw [h2.1, h2.2, Nat.mul_comm] at this
        omega))]
theorem row_low {i n sd S : Nat} (hsd : sd = n + 1) (hS : S = sd * sd) (hi : i < n) : i * sd + sd + sd ≤ S := by
  rw [hS]
  have := Nat.mul_le_mul_right sd (show i + 2 ≤ sd by omega)
  rw [Nat.add_mul] at this
  omega

end Go.Proofs.Qxb6617947a
