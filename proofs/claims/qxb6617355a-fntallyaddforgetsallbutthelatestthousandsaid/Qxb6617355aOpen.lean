import Derived.Test.Qxb6617355aCon
import Derived.ProofKit
import Derived.OpenShut
import Derived.ChangeOld
import Derived.Below
import Derived.Deep.Grids
/-! What comes in, as the walk is told of it. -/
namespace Go.Proofs.Qxb6617355a
open Go.RowKit
open Go.ChangeShapes Go.WideShapes Go.ChangeAt Go.Deep
theorem cells30 : Try.prog.cellsOf 30 = 16 := by kernel_rfl
theorem cells29 : Try.prog.cellsOf 29 = 1 := by kernel_rfl
theorem spot_none {w : World} {a : Addr} {v : Value} (h : w.cell? a = some v) : a.spot = none := by
  unfold World.cell? at h
  split at h
  · split at h
    · cases h
    · rename_i hs
      cases e : a.spot with
      | none => rfl
      | some x => rw [e] at hs; exact absurd rfl hs
  · cases h
theorem slF_of {α : Type} {enc : α → Value} {w : World} {x : Addr} {n : Nat} {F : Nat → α} (h : ∀ i, i < n → w.cell? (x.add i) = some (enc (F i))) : SlF enc w 0 w.heap.size (some x) n F := by
  intro hn
  have h0 := h 0 hn
  have hs : x.spot = none := spot_none (a := x) (by simpa [Addr.add] using h0)
  obtain ⟨b, off, sp⟩ := x
  obtain rfl : sp = none := hs
  refine ⟨b, off, rfl, Nat.zero_le _, World.block_lt_of_cell? w _ h0, fun j hj => ?_⟩
  have := h j hj
  rwa [Addr.add_lit] at this
section
variable {H : Type} {enc : TypeId × Value → H} {W : World} {d : DataW H} {p : List MemPlace}
theorem arg_bools {a : Option Addr} {n c : Nat} (h : DataW.Trod enc Try.prog W 0 (fun _ => true) true 31 (.slice a n c) d p) : ∃ F, SlF Value.bool W 0 W.heap.size a n F ∧ n ≤ maxLen := by
  obtain ⟨fuel, hf⟩ := h
  rcases open_bools Try.underlying31 Try.underlying4 (by kernel_rfl) hf with ⟨hcs, _⟩ | ⟨x, l, c, B, hcs, _, hl, hm, _, hcell⟩
  · simp [Value.cells] at hcs
    obtain ⟨rfl, rfl, rfl⟩ := hcs
    exact ⟨fun _ => false, fun h => absurd h (by omega), Nat.zero_le _⟩
  · simp [Value.cells] at hcs
    obtain ⟨rfl, rfl, rfl⟩ := hcs
    exact ⟨B, slF_of fun i hi => hcell i (by omega), by omega⟩
theorem arg_bits {v : Value} (hv : Value.okWide Try.prog W .any 0 30 v) (h : DataW.Trod enc Try.prog W 0 (fun _ => true) true 30 v d p) : ∃ B, v = aggB B ∧ ∀ i, B i < 18446744073709551616 := by
  simp only [Value.okWide, Try.underlying30] at hv
  obtain ⟨cs, rfl, hsz, -⟩ := hv
  rw [cells30] at hsz
  obtain ⟨fuel, hf⟩ := h
  obtain ⟨xs, m, -, -, -, hx, he⟩ := DataW.trod_array Try.underlying30 hf
  have hch : ∀ i, i < 16 → ∃ n : Nat, cs[i]? = some (.int .u64 n) ∧ n < 18446744073709551616 := fun i hi => by
    have h1 := he i hi
    have hxi : i < xs.length := by omega
    rw [List.getElem?_eq_getElem hxi, cells29, Nat.mul_one] at h1
    obtain ⟨n, h2, -, hw⟩ := DataW.trod_int Try.underlying29 h1
    have hci : i < cs.toList.length := by simp; omega
    have h3 : (cs.toList.drop i).take 1 = [cs.toList[i]] := by rw [List.drop_eq_getElem_cons hci]; rfl
    have h4 : (List.take 1 (List.drop i (Value.agg cs).cells.toList)) = [cs.toList[i]] := h3
    rw [h4] at h2
    have h5 : cs.toList[i] = .int .u64 n := by simpa using h2
    have hb := bounds_u64 hw
    refine ⟨n.toNat, ?_, by omega⟩
    rw [← Array.getElem?_toList, List.getElem?_eq_getElem hci, h5]
    congr 2
    omega
  obtain ⟨B, hB⟩ : ∃ B : Nat → Nat, ∀ i, i < 16 → cs[i]? = some (.int .u64 (B i)) ∧ B i < 18446744073709551616 := by
    obtain ⟨B, hB⟩ := choose_lt (α := Nat) (p := fun i n => cs[i]? = some (.int .u64 n) ∧ n < 18446744073709551616) hch
    exact ⟨B, hB⟩
  refine ⟨fun i => if i < 16 then B i else 0, ?_, fun i => ?_⟩
  · have e : cs.toList = cellsB fun i => if i < 16 then B i else 0 := by
      apply List.ext_getElem?
      intro i
      rw [Array.getElem?_toList]
      rcases Nat.lt_or_ge i 16 with hi | hi
      · rw [(hB i hi).1, cellsB_get hi, if_pos hi]
      · rw [Array.getElem?_eq_none (by omega), List.getElem?_eq_none (by rw [cellsB_len]; exact hi)]
    show Value.agg cs = .agg (cellsB fun i => if i < 16 then B i else 0).toArray
    rw [← e]
  · show (if i < 16 then B i else 0) < _
    split
    · exact (hB i ‹_›).2
    · decide
end

end Go.Proofs.Qxb6617355a
