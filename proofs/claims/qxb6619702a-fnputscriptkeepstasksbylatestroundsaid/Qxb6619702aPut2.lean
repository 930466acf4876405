import Derived.Test.Qxb6619702aPut
/-! The walk of put. -/
namespace Go.Proofs.Qxb6619702a
open Go.RowKit

theorem set_self {α : Type} {L : List α} {k : Nat} {v : α} (h : L[k]? = some v) : L.set k v = L := by
  apply List.ext_getElem?
  intro i
  rw [List.getElem?_set]
  split
  · rename_i e; subst e
    split
    · exact h.symm
    · rename_i h2; rw [List.getElem?_eq_none (by omega)]
  · rfl

theorem row_setT {w : World} {base g n c : Nat} {S : Slots} (h : w.ownsRow base 65 12 (.slice (some ⟨g, 0, none⟩) n c) n (cellsS n S)) {i : Nat} (hi : i < n) (r : Int) (p : ByteArray) :
    (((((((((w.setCell ⟨g, i * 12, none⟩ (.int .i64 r)).setCell ⟨g, i * 12 + 1, none⟩ (.string p)).setCell ⟨g, i * 12 + 2, none⟩ (.float .f64 0)).setCell ⟨g, i * 12 + 3, none⟩ (.int .i64 0)).setCell ⟨g, i * 12 + 4, none⟩ (.int .i64 0)).setCell ⟨g, i * 12 + 5, none⟩ (.int .i64 0)).setCell ⟨g, i * 12 + 6, none⟩ (.int .i64 0)).setCell ⟨g, i * 12 + 7, none⟩ (.string ⟨#[]⟩)).setCell ⟨g, i * 12 + 8, none⟩ (.slice none 0 0)).ownsRow base 65 12 (.slice (some ⟨g, 0, none⟩) n c) n (cellsS n (setT S i r p)) := by
  have h0 := (h.stored (i * 12) (.int .i64 r)).1
  have h1 := (h0.stored (i * 12 + 1) (.string p)).1
  have h2 := (h1.stored (i * 12 + 2) (.float .f64 0)).1
  have h3 := (h2.stored (i * 12 + 3) (.int .i64 0)).1
  have h4 := (h3.stored (i * 12 + 4) (.int .i64 0)).1
  have h5 := (h4.stored (i * 12 + 5) (.int .i64 0)).1
  have h6 := (h5.stored (i * 12 + 6) (.int .i64 0)).1
  have h7 := (h6.stored (i * 12 + 7) (.string ⟨#[]⟩)).1
  have h8 := (h7.stored (i * 12 + 8) (.slice none 0 0)).1
  have e0 : (cellsS n S).set (i * 12) (.int .i64 r) = cellsS n { S with R := upd S.R i r } := cellsS_set (i := 0) hi (by decide) (fun k _ hk => by simp [slotC, upd_other hk]) (by simp [slotC, upd_same])
  rw [e0] at h8
  have e1 : (cellsS n { S with R := upd S.R i r }).set (i * 12 + 1) (.string p) = cellsS n (setT S i r p) := cellsS_set hi (by decide) (fun k _ hk => by simp [slotC, setT, upd_other hk]) (by simp [slotC, setT, upd_same])
  rw [e1] at h8
  have same : ∀ (k : Nat) (v : Value), k < 12 → (slotC (setT S i r p) i)[k]? = some v → (cellsS n (setT S i r p)).set (i * 12 + k) v = cellsS n (setT S i r p) := fun k v hk hv =>
    cellsS_set hi hk (fun _ _ _ => rfl) (by
      exact (set_self hv).symm)
  rw [same 2 _ (by decide) rfl, same 3 _ (by decide) rfl, same 4 _ (by decide) rfl, same 5 _ (by decide) rfl, same 6 _ (by decide) rfl, same 7 _ (by decide) rfl, same 8 _ (by decide) rfl] at h8
  exact h8

/-- The slots behind put: slot i bears the task and is the last of the ring. -/
def putS (S : Slots) (i l : Nat) (r : Int) (p : ByteArray) : Slots := setB (setA (setA (setB (setT S i r p) i l) i 0) l i) 0 i

/-- The world behind put's stores. -/
def putW (w : World) (g i l : Nat) (r : Int) (p : ByteArray) : World :=
  (((((((((((((w.setCell ⟨g, i * 12, none⟩ (.int .i64 r)).setCell ⟨g, i * 12 + 1, none⟩ (.string p)).setCell ⟨g, i * 12 + 2, none⟩ (.float .f64 0)).setCell ⟨g, i * 12 + 3, none⟩ (.int .i64 0)).setCell ⟨g, i * 12 + 4, none⟩ (.int .i64 0)).setCell ⟨g, i * 12 + 5, none⟩ (.int .i64 0)).setCell ⟨g, i * 12 + 6, none⟩ (.int .i64 0)).setCell ⟨g, i * 12 + 7, none⟩ (.string ⟨#[]⟩)).setCell ⟨g, i * 12 + 8, none⟩ (.slice none 0 0)).setCell ⟨g, i * 12 + 10, none⟩ (.int .i64 l)).setCell ⟨g, i * 12 + 11, none⟩ (.int .i64 0)).setCell ⟨g, l * 12 + 11, none⟩ (.int .i64 i)).setCell ⟨g, 10, none⟩ (.int .i64 i))
theorem setG {g : Nat} {a w : World} (h : Keeps (fun k => k = g) a w) {o : Nat} {u : Value} : Keeps (fun k => k = g) a (w.setCell ⟨g, o, none⟩ u) := h.setCell (p := ⟨g, o, none⟩) rfl u
theorem putW_keep (w : World) (g i l : Nat) (r : Int) (p : ByteArray) : Keeps (fun k => k = g) w (putW w g i l r p) := by
  unfold putW
  exact setG (setG (setG (setG (setG (setG (setG (setG (setG (setG (setG (setG (setG (Keeps.refl _ _)))))))))))))
theorem putW_row {w : World} {base g n c : Nat} {S : Slots} (h : w.ownsRow base 65 12 (.slice (some ⟨g, 0, none⟩) n c) n (cellsS n S)) {i l : Nat} (hi : i < n) (hl : l < n) (r : Int) (p : ByteArray) :
    (putW w g i l r p).ownsRow base 65 12 (.slice (some ⟨g, 0, none⟩) n c) n (cellsS n (putS S i l r p)) := by
  have h1 := row_setT h hi r p
  have h2 := row_setB h1 hi (l : Int)
  have h3 := row_setA h2 hi 0
  have h4 := row_setA h3 hl (i : Int)
  have h5 := row_setB h4 (i := 0) (by omega) (i : Int)
  rw [Nat.zero_mul, Nat.zero_add] at h5
  unfold putW putS
  exact h5

set_option maxHeartbeats 4000000 in
theorem put_old (tb g n c i a b l : Nat) (v1 v2 : Value) (S : Slots) (id : ByteArray) (r : Int) (p : ByteArray) (w : World) (hi0 : 0 < i) (hi : i < n) (ha : a < n) (hb : b < n) (hl : l < n) (hli : l ≠ i) (hn : n ≤ 1048576) (hT : Blk w tb 63 [.slice (some ⟨g, 0, none⟩) n c, v1, v2])
    (hown : w.ownsRow (tb + 1) 65 12 (.slice (some ⟨g, 0, none⟩) n c) n (cellsS n S)) (hB : S.B i = (b : Int)) (hA : S.A i = (a : Int)) (hL : upd S.B a (b : Int) 0 = (l : Int)) :
    Calls Try.prog 28 #[.pointer (some ⟨tb, 0, none⟩), .int .i64 i, .string id, taskV r p] w fun e w' => e = .returned (.tuple #[]) ∧ Keeps (fun k => k = g) w w' ∧ w'.ownsRow (tb + 1) 65 12 (.slice (some ⟨g, 0, none⟩) n c) n (cellsS n (putS (setB (setA S b a) a b) i l r p)) := by
  have hi' : ((i : Int) == 0) = false := by simp; omega
  have hgl := (hown.lt g rfl)
  have htl := hT.lt
  have hsf := store_fl
  unfold taskV
  go_enter Try.func28, Try.ntmps28
  go_wp2_with (go_at_call 34; refine (unlink_any tb g n c i a b v1 v2 S _ hi ha hb (hT.alloc _) (hown.alloc _) hB hA).mono ?_)
  rintro e w1 ⟨rfl, hK1, hown1⟩
  have hT1 := (hT.alloc (.cells #[.int .i64 r, .string p, .float .f64 0, .int .i64 0, .int .i64 0, .int .i64 0, .int .i64 0, .string ⟨#[]⟩, .slice none 0 0] 50)).keep hK1 (by omega)
  have hX1 := (Blk.new w 50 [.int .i64 r, .string p, .float .f64 0, .int .i64 0, .int .i64 0, .int .i64 0, .int .i64 0, .string ⟨#[]⟩, .slice none 0 0]).keep hK1 (by omega)
  have hKw : Keeps (fun k => k = g) w w1 := ((Keeps.refl _ w).alloc _).trans hK1
  have hc0 := hT1.cell 0
  simp only [List.getElem?_cons_zero] at hc0
  have x0 := hX1.cell 0
  have x1 := hX1.cell 1
  have x2 := hX1.cell 2
  have x3 := hX1.cell 3
  have x4 := hX1.cell 4
  have x5 := hX1.cell 5
  have x6 := hX1.cell 6
  have x7 := hX1.cell 7
  have x8 := hX1.cell 8
  simp only [List.getElem?_cons_zero, List.getElem?_cons_succ] at x0 x1 x2 x3 x4 x5 x6 x7 x8
  generalize hS1 : setB (setA S b a) a b = S1 at hown1
  have hL1 : S1.B 0 = (l : Int) := by rw [← hS1]; exact hL
  have HS : Hid (setB (setA S b a) a b = S1) := hS1
  clear hS1 hT hown hB hA hL hX1 hK1
  have s0 := slot_cells hown1 hi 0 (by decide)
  have s1 := slot_cells hown1 hi 1 (by decide)
  have s2 := slot_cells hown1 hi 2 (by decide)
  have s3 := slot_cells hown1 hi 3 (by decide)
  have s4 := slot_cells hown1 hi 4 (by decide)
  have s5 := slot_cells hown1 hi 5 (by decide)
  have s6 := slot_cells hown1 hi 6 (by decide)
  have s7 := slot_cells hown1 hi 7 (by decide)
  have s8 := slot_cells hown1 hi 8 (by decide)
  have s10 := slot_cells hown1 hi 10 (by decide)
  have s11 := slot_cells hown1 hi 11 (by decide)
  have t10 := slot_cells hown1 (j := 0) (by omega) 10 (by decide)
  have u11 := slot_cells hown1 hl 11 (by decide)
  simp only [slotC, List.getElem?_cons_succ, List.getElem?_cons_zero, Nat.add_zero, Nat.zero_mul, Nat.zero_add, hL1] at s0 s1 s2 s3 s4 s5 s6 s7 s8 s10 s11 t10 u11
  have hfz := hown1.frozenAt
  clear hL1
  go_wp2
  go_region
  go_wp2
  go_region
  go_wp2
  go_region
  go_wp2
  go_end0
  exact ⟨rfl, (hKw.trans (putW_keep w1 g i l r p)).drew.drew.drew, by rw [HS.out]; exact (putW_row hown1 hi hl r p).drew.drew.drew⟩

theorem OwnM.ne_row {w : World} {b : Nat} {M : ByteArray → Option Int} {N K : Nat} (h : OwnM w b M N K) {base : Nat} {e : TypeId} {size n c g : Nat} {xs : List Value} (hr : w.ownsRow base e size (.slice (some ⟨g, 0, none⟩) n c) n xs) : g ≠ b := by
  rintro rfl
  obtain ⟨D, ⟨es, clock, hb, _⟩, _⟩ := h
  rcases hr.2 with ⟨h, _⟩ | ⟨g', cap, cur, hv, _, hg, _⟩
  · cases h
  · simp only [Value.slice.injEq, Option.some.injEq, Addr.mk.injEq] at hv
    rw [← hv.1.1] at hg
    rw [hb] at hg; cases hg
theorem OwnM.ne_blk {w : World} {b : Nat} {M : ByteArray → Option Int} {N K : Nat} (h : OwnM w b M N K) {T : TypeId} {g : Nat} {xs : List Value} (hr : Blk w g T xs) : g ≠ b := by
  rintro rfl
  obtain ⟨D, ⟨es, clock, hb, _⟩, _⟩ := h
  unfold Blk at hr
  rw [hb] at hr; cases hr

end Go.Proofs.Qxb6619702a
