import Derived.Test.Qxb6619702aPutOK
import Derived.WalkKit
import Derived.ProofKit
import Derived.OpenShut
import Derived.ShutString
import Derived.ChangeOld
import Derived.Below
import Derived.SliceStrings
/-! Slices that come in, as the walks are told of them. -/
namespace Go.Proofs.Qxb6619702a
open Go.ChangeShapes Go.WideShapes Go.ChangeAt Go.RowKit

theorem spot_none {w : World} {a : Addr} {v : Value} (h : w.cell? a = some v) : a.spot = none := by
  unfold World.cell? at h
  split at h
  · split at h
    · cases h
    · rename_i hs
      cases e : a.spot with
      | none => rfl
      | some x => rw [e] at hs; exact absurd rfl hs
  · cases h

theorem slF_of {α : Type} {enc : α → Value} {w : World} {x : Addr} {n : Nat} {F : Nat → α} (h : ∀ i, i < n → w.cell? (x.add i) = some (enc (F i))) : SlF enc w 0 w.heap.size (some x) n F := by
  intro hn
  have h0 := h 0 hn
  have hs : x.spot = none := spot_none (a := x) (by simpa [Addr.add] using h0)
  obtain ⟨b, off, sp⟩ := x
  obtain rfl : sp = none := hs
  refine ⟨b, off, rfl, Nat.zero_le _, World.block_lt_of_cell? w _ h0, fun j hj => ?_⟩
  have := h j hj
  rwa [Addr.add_lit] at this

section
variable {H : Type} {enc : TypeId × Value → H} {W : World} {a : Option Addr} {n c : Nat} {d : DataW H} {p : List MemPlace}
theorem arg_ints (h : DataW.Trod enc Try.prog W 0 (fun _ => true) true 31 (.slice a n c) d p) : ∃ F, Arg encI W a n c F := by
  obtain ⟨fuel, hf⟩ := h
  rcases open_ints Try.underlying31 Try.underlying3 (by kernel_rfl) hf with ⟨hcs, _⟩ | ⟨x, l, c, zs, hcs, _, hl, hm, hz, _, hcell, hwz⟩
  · simp [Value.cells] at hcs
    obtain ⟨rfl, rfl, rfl⟩ := hcs
    exact ⟨fun _ => 0, ⟨fun _ => ⟨rfl, rfl⟩, fun h => absurd h (by omega), by omega⟩⟩
  · simp [Value.cells] at hcs
    obtain ⟨rfl, rfl, rfl⟩ := hcs
    simp at hz
    refine ⟨fun i => zs.getD i 0, ⟨(fun h => by cases h), slF_of (fun i hi => ?_), by unfold maxLen at hm; omega⟩⟩
    exact hcell i (by omega)
theorem arg_strings (h : DataW.Trod enc Try.prog W 0 (fun _ => true) true 22 (.slice a n c) d p) : ∃ F, Arg Value.string W a n c F ∧ ∀ j, j < n → (F j).size ≤ maxLen := by
  obtain ⟨fuel, hf⟩ := h
  rcases open_strings Try.underlying22 Try.underlying9 (by kernel_rfl) hf with ⟨hcs, _⟩ | ⟨x, l, c, zs, hcs, _, hl, hm, hz, _, hcell, hwz⟩
  · simp [Value.cells] at hcs
    obtain ⟨rfl, rfl, rfl⟩ := hcs
    exact ⟨fun _ => ByteArray.empty, ⟨fun _ => ⟨rfl, rfl⟩, fun h => absurd h (by omega), by omega⟩, fun j hj => absurd hj (by omega)⟩
  · simp [Value.cells] at hcs
    obtain ⟨rfl, rfl, rfl⟩ := hcs
    simp at hz
    refine ⟨fun i => zs.getD i ByteArray.empty, ⟨(fun h => by cases h), slF_of (fun i hi => ?_), by unfold maxLen at hm; omega⟩, fun j hj => ?_⟩
    · exact hcell i (by omega)
    · have hj' : j < zs.length := by omega
      have : zs.getD j ByteArray.empty ∈ zs := by simp [hj']
      exact hwz _ this
end
end Go.Proofs.Qxb6619702a
