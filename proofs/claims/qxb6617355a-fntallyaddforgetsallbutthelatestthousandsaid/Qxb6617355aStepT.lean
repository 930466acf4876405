import Derived.Test.Qxb6617355aAdd
/-! ZZTallyAdd: one outcome, by value. -/
namespace Go.Proofs.Qxb6617355a
open Go.RowKit

/-- A tally's numbers behind one more outcome. -/
def nextN (N : Nat) : Nat := if N = 1000 then 1000 else N + 1
def dropped (B : Nat → Nat) (N next : Nat) : Int := if N = 1000 then (if bit B next = true then 1 else 0) else 0
def gained (o : Bool) : Int := if o then 1 else 0

theorem add_all (g : Nat) (B : Nat → Nat) (N next : Nat) (cnt : Int) (o : Bool) (w : World) (hT : Blk w g 41 (cellsT B N next cnt)) (hN : N ≤ 1000) (hn : next < 1000) (hB : ∀ i, B i < 18446744073709551616) (hc : 0 ≤ cnt ∧ cnt ≤ 2000) :
    Calls Try.prog 18 #[.pointer (some ⟨g, 0, none⟩), .bool o] w fun e w' => e = .returned (.tuple #[]) ∧ Keeps (fun k => k = g) w w' ∧ Blk w' g 41 (cellsT (setB B next o) (nextN N) (((next + 1) % 1000 : Nat)) (cnt - dropped B N next + gained o)) := by
  have e2 : (((next + 1) % 1000 : Nat) : Int) = ((next : Int) + 1) % 1000 := by omega
  rw [e2]
  by_cases h : N = 1000
  · have hd : Hid ((if bit B next = true then (1 : Int) else 0) = dropped B N next) := by show _ = _; unfold dropped; rw [if_pos h]
    have hd2 : 0 ≤ dropped B N next ∧ dropped B N next ≤ 1 := by
      rw [← hd.out]; split <;> simp
    have e1 : ((nextN N : Nat) : Int) = N := by unfold nextN; rw [if_pos h, h]
    rw [e1]
    cases o
    · have := full_no g B N next cnt w hT h hn hB hc _ hd hd2
      simpa [gained] using this
    · have := full_yes g B N next cnt w hT h hn hB hc _ hd hd2
      simpa [gained] using this
  · have e1 : ((nextN N : Nat) : Int) = N + 1 := by unfold nextN; rw [if_neg h]; rfl
    have e3 : dropped B N next = 0 := if_neg h
    rw [e1, e3]
    cases o
    · have := add_no g B N next cnt w hT (by omega) hn hB
      simpa [gained] using this
    · have := add_yes g B N next cnt w hT (by omega) hn hB hc
      simpa [gained] using this
end Go.Proofs.Qxb6617355a
