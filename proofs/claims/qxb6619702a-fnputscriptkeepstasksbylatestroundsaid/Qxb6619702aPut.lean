import Derived.Test.Qxb6619702aGet
import Derived.BigRegion
import Derived.Test.Qxb6619702aRing2
/-! The walks of unlink, vacant, put. -/
namespace Go.Proofs.Qxb6619702a
open Go.RowKit

def setA (S : Slots) (i : Nat) (v : Int) : Slots := { S with A := upd S.A i v }
def setB (S : Slots) (i : Nat) (v : Int) : Slots := { S with B := upd S.B i v }
def setID (S : Slots) (i : Nat) (s : ByteArray) : Slots := { S with ID := upd S.ID i s }
def setT (S : Slots) (i : Nat) (r : Int) (p : ByteArray) : Slots := { S with R := upd S.R i r, P := upd S.P i p }

theorem row_setA {w : World} {base g n c : Nat} {S : Slots} (h : w.ownsRow base 65 12 (.slice (some ⟨g, 0, none⟩) n c) n (cellsS n S)) {i : Nat} (hi : i < n) (v : Int) :
    (w.setCell ⟨g, i * 12 + 11, none⟩ (.int .i64 v)).ownsRow base 65 12 (.slice (some ⟨g, 0, none⟩) n c) n (cellsS n (setA S i v)) := by
  have := (h.stored (i * 12 + 11) (.int .i64 v)).1
  rwa [cellsS_set (S' := setA S i v) hi (by decide) (fun k _ hk => by simp [slotC, setA, upd_other hk]) (by simp [slotC, setA, upd_same])] at this
theorem row_setB {w : World} {base g n c : Nat} {S : Slots} (h : w.ownsRow base 65 12 (.slice (some ⟨g, 0, none⟩) n c) n (cellsS n S)) {i : Nat} (hi : i < n) (v : Int) :
    (w.setCell ⟨g, i * 12 + 10, none⟩ (.int .i64 v)).ownsRow base 65 12 (.slice (some ⟨g, 0, none⟩) n c) n (cellsS n (setB S i v)) := by
  have := (h.stored (i * 12 + 10) (.int .i64 v)).1
  rwa [cellsS_set (S' := setB S i v) hi (by decide) (fun k _ hk => by simp [slotC, setB, upd_other hk]) (by simp [slotC, setB, upd_same])] at this
theorem row_setID {w : World} {base g n c : Nat} {S : Slots} (h : w.ownsRow base 65 12 (.slice (some ⟨g, 0, none⟩) n c) n (cellsS n S)) {i : Nat} (hi : i < n) (s : ByteArray) :
    (w.setCell ⟨g, i * 12 + 9, none⟩ (.string s)).ownsRow base 65 12 (.slice (some ⟨g, 0, none⟩) n c) n (cellsS n (setID S i s)) := by
  have := (h.stored (i * 12 + 9) (.string s)).1
  rwa [cellsS_set (S' := setID S i s) hi (by decide) (fun k _ hk => by simp [slotC, setID, upd_other hk]) (by simp [slotC, setID, upd_same])] at this

set_option maxHeartbeats 1000000 in
theorem unlink_any (tb g n c i a b : Nat) (v1 v2 : Value) (S : Slots) (w : World) (hi : i < n) (ha : a < n) (hb : b < n) (hT : Blk w tb 63 [.slice (some ⟨g, 0, none⟩) n c, v1, v2])
    (hown : w.ownsRow (tb + 1) 65 12 (.slice (some ⟨g, 0, none⟩) n c) n (cellsS n S)) (hB : S.B i = (b : Int)) (hA : S.A i = (a : Int)) :
    Calls Try.prog 34 #[.pointer (some ⟨tb, 0, none⟩), .int .i64 i] w fun e w' => e = .returned (.tuple #[]) ∧ Keeps (fun k => k = g) w w' ∧ w'.ownsRow (tb + 1) 65 12 (.slice (some ⟨g, 0, none⟩) n c) n (cellsS n (setB (setA S b a) a b)) := by
  have hc0 := hT.cell 0
  simp only [List.getElem?_cons_zero] at hc0
  have hg := (hown.lt g rfl)
  have s1 := slot_cells hown hi 10 (by decide)
  have s2 := slot_cells hown hi 11 (by decide)
  have s3 := slot_cells hown hb 11 (by decide)
  have s4 := slot_cells hown ha 10 (by decide)
  simp only [slotC, List.getElem?_cons_succ, List.getElem?_cons_zero, hB, hA] at s1 s2 s3 s4
  have f3 := hown.frozenAt (b * 12 + 11)
  have f4 := hown.frozenAt (a * 12 + 10)
  have hgt : tb ≠ g := by omega
  go_enter Try.func34, Try.ntmps34
  go_wp2
  go_region
  go_wp2
  go_end0
  have h1 := row_setA hown hb (a : Int)
  have h2 := row_setB h1 ha (b : Int)
  refine ⟨rfl, ?_, h2⟩
  exact ((((Keeps.refl (fun k => k = g) w).setCell (p := ⟨g, b * 12 + 11, none⟩) rfl (.int .i64 a)).setCell (p := ⟨g, a * 12 + 10, none⟩) rfl (.int .i64 b))).drew

theorem ret_int {k : IntKind} {a b : Int} (h : a = b) : Ending.returned (.int k a) = .returned (.int k b) := by rw [h]
def zeroAt (S : Slots) (i : Nat) : Slots := ⟨upd S.R i 0, upd S.P i ⟨#[]⟩, upd S.ID i ⟨#[]⟩, upd S.B i 0, upd S.A i 0⟩
def zeroSlot : List Value := [.int .i64 0, .string ⟨#[]⟩, .float .f64 0, .int .i64 0, .int .i64 0, .int .i64 0, .int .i64 0, .string ⟨#[]⟩, .slice none 0 0, .string ⟨#[]⟩, .int .i64 0, .int .i64 0]
theorem cells_zeroAt (n : Nat) (S : Slots) : cellsS n S ++ zeroSlot = cellsS (n + 1) (zeroAt S n) := by
  rw [cellsS_succ]
  congr 1
  · exact cellsS_congr fun j hj => by simp [slotC, zeroAt, upd_other (show j ≠ n by omega)]
  · simp [slotC, zeroAt, upd_same, zeroSlot]
theorem zeroSlot_one : ∀ u ∈ zeroSlot, u.oneCell' = true := by
  intro u hu
  simp only [zeroSlot, List.mem_cons, List.not_mem_nil, or_false] at hu
  rcases hu with h | h | h | h | h | h | h | h | h | h | h | h <;> (rw [h]; rfl)

set_option maxHeartbeats 1000000 in
/-- A free slot is taken. -/
theorem vacant_free (tb n c nf m cf : Nat) (ao af : Option Addr) (v2 : Value) (FR : Nat → Int) (w : World) (hn : 0 < n) (hT : Blk w tb 63 [.slice ao n c, .slice af nf cf, v2])
    (hm : nf = m + 1) (hF : SlF encI w 0 tb af nf FR) (hcf : nf ≤ cf) (hnf : nf ≤ 1048576) :
    Calls Try.prog 33 #[.pointer (some ⟨tb, 0, none⟩)] w fun e w' => e = .returned (.int .i64 (FR m)) ∧ w' = w.setCell ⟨tb, 1, none⟩ (.slice af m cf) := by
  subst hm
  obtain ⟨fb, fo, rfl, -, -, hc⟩ := hF (by omega)
  replace hc := hc m (by omega)
  have hc0 := hT.cell 0
  have hc1 := hT.cell 1
  have hf1 := hT.free 1
  simp only [List.getElem?_cons_zero, List.getElem?_cons_succ] at hc0 hc1
  have hn0 : ((n : Int) == 0) = false := by simp; omega
  clear hT hF
  go_enter Try.func33, Try.ntmps33
  go_wp2
  go_ret
  exact ⟨rfl, rfl⟩

set_option maxHeartbeats 1000000 in
/-- No slot is free: a new one. -/
theorem vacant_new (tb n cf : Nat) (v : Value) (af : Option Addr) (v2 : Value) (S : Slots) (w : World) (hn : 0 < n) (hn' : n ≤ 1048576) (hT : Blk w tb 63 [v, .slice af 0 cf, v2])
    (hown : w.ownsRow (tb + 1) 65 12 v n (cellsS n S)) :
    Calls Try.prog 33 #[.pointer (some ⟨tb, 0, none⟩)] w fun e w' => e = .returned (.int .i64 n) ∧ ∃ g c, w'.ownsRow (tb + 1) 65 12 (.slice (some ⟨g, 0, none⟩) (n + 1) c) (n + 1) (cellsS (n + 1) (zeroAt S n)) ∧
      Blk w' tb 63 [.slice (some ⟨g, 0, none⟩) (n + 1) c, .slice af 0 cf, v2] ∧ Keeps (fun k => k = tb ∨ v.ownBlock = some k) w w' ∧ (v.ownBlock = some g ∨ w.heap.size ≤ g) := by
  obtain ⟨g0, c0, rfl, hg0, hg1⟩ := hown.form hn
  have hc0 := hT.cell 0
  have hc1 := hT.cell 1
  have hf0 := hT.free 0
  have hlt := hT.lt
  simp only [List.getElem?_cons_zero, List.getElem?_cons_succ] at hc0 hc1
  have hn0 : ((n : Int) == 0) = false := by simp; omega
  obtain ⟨i0, hi, hz0, hz1, hz2⟩ := info_parts Try.info65
  go_enter Try.func33, Try.ntmps33
  go_wp2_with (at_builtin; refine wpList_append_lies _ rfl _ _ 61 rfl (tb + 1) 65 i0 _ 12 136 Try.underlying61 hi hz0 hz1 hz2 rfl (by decide) _ n _ rfl (hown.alloc _) ⟨w.heap.size, 0, none⟩ 1 1 zeroSlot rfl rfl (news_new _ _ _ rfl) zeroSlot_one (by decide) (by unfold maxLen; omega) (by omega) (by simp; omega) _ rfl ?_)
  intro g c w1 hown1 hgrow1 hat1 hg1
  have hK1 : Keeps (fun k => k = tb ∨ (Value.slice (some ⟨g0, 0, none⟩) n c0).ownBlock = some k) w w1 := ((Keeps.refl _ w).alloc _).grown hgrow1 (fun q hq => .inl (.inr hq))
  have hT1 : Blk w1 tb 63 [.slice (some ⟨g0, 0, none⟩) n c0, .slice af 0 cf, v2] := by
    have e := hgrow1.block tb (by simp; omega) (fun e => by simp [Value.ownBlock] at e; omega)
    unfold Blk at hT ⊢
    rw [e]; exact (Below.heap_alloc _ _ _ hlt).trans hT
  have d0 := hT1.cell 0
  have d1 := hT1.free 0
  simp only [List.getElem?_cons_zero] at d0
  rw [cells_zeroAt] at hown1
  clear hc0 hc1 hf0 hT hown hgrow1
  go_wp2
  go_ret
  refine ⟨ret_int (by omega), g, c, ownsRow_setCell_below hown1 (a := ⟨tb, 0, none⟩) (Nat.lt_succ_self _) _, hT1.set 0 _, hK1.setCell (p := ⟨tb, 0, none⟩) (.inl rfl) _, ?_⟩
  rcases hat1 with h | h
  · exact .inl h
  · exact .inr (by omega)

end Go.Proofs.Qxb6619702a
