import Derived.Test.Qxb6619702aPut2
/-! The walk of put at a new id. -/
namespace Go.Proofs.Qxb6619702a
open Go.RowKit

/-- What vacant leaves. -/
def VacOut (tb : Nat) (v v2 : Value) (af : Option Addr) (cf n' i nf' : Nat) (S' : Slots) (w : World) (e : Ending) (w' : World) : Prop :=
  e = .returned (.int .i64 i) ∧ ∃ g c, w'.ownsRow (tb + 1) 65 12 (.slice (some ⟨g, 0, none⟩) n' c) n' (cellsS n' S') ∧ Blk w' tb 63 [.slice (some ⟨g, 0, none⟩) n' c, .slice af nf' cf, v2] ∧
    Keeps (fun k => k = tb ∨ v.ownBlock = some k) w w' ∧ (v.ownBlock = some g ∨ w.heap.size ≤ g)

set_option maxHeartbeats 4000000 in
/-- put of an id that the table does not hold yet; the index lies there. -/
theorem put_new (tb n' i l nf nf' cf bm N K : Nat) (v : Value) (af : Option Addr) (xs : List Value) (n : Nat) (S' : Slots) (M : ByteArray → Option Int) (id : ByteArray) (r : Int) (p : ByteArray) (w : World)
    (hi0 : 0 < i) (hi : i < n') (hl : l < n') (hli : l ≠ i) (hn : n' ≤ 1048576) (hK : K < 1000000000) (hid : id.size ≤ maxLen) (hL : S'.B 0 = (l : Int))
    (hT : Blk w tb 63 [v, .slice af nf cf, .map (some bm)]) (hown : w.ownsRow (tb + 1) 65 12 v n xs) (hM : OwnM w bm M N K) (hnew : Hid (M id = none))
    (hvac : ∀ W, Keeps Nob w W → Calls Try.prog 33 #[.pointer (some ⟨tb, 0, none⟩)] W (VacOut tb v (.map (some bm)) af cf n' i nf' S' W)) :
    Calls Try.prog 28 #[.pointer (some ⟨tb, 0, none⟩), .int .i64 0, .string id, taskV r p] w fun e w' => e = .returned (.tuple #[]) ∧ ∃ g c, w'.ownsRow (tb + 1) 65 12 (.slice (some ⟨g, 0, none⟩) n' c) n' (cellsS n' (putS (setID S' i id) i l r p)) ∧
      Blk w' tb 63 [.slice (some ⟨g, 0, none⟩) n' c, .slice af nf' cf, .map (some bm)] ∧ OwnM w' bm (Go.Proofs.Qxb6619702a.put M id i) (N + 1) (K + 1) ∧ Keeps (fun k => k = tb ∨ v.ownBlock = some k ∨ k = bm) w w' ∧ (v.ownBlock = some g ∨ w.heap.size ≤ g) := by
  have htl := hT.lt
  have hsf := store_fl
  have hvb := hown.lt
  have hnil := fun w => run_eql_map_nil (P := Try.prog) w 35 9 3 (some bm) Try.underlying35
  unfold taskV
  have hW0 : Keeps Nob w (w.alloc (.cells #[.int .i64 r, .string p, .float .f64 0, .int .i64 0, .int .i64 0, .int .i64 0, .int .i64 0, .string ⟨#[]⟩, .slice none 0 0] 50)) := (Keeps.refl _ w).alloc _
  have hmne : ∀ k, v.ownBlock = some k → k ≠ bm := by
    intro k hk
    rcases hown.2 with ⟨h, _⟩ | ⟨g', cap, cur, hv, _⟩
    · rw [h] at hk; cases hk
    · subst hv
      have := hM.ne_row hown
      simp [Value.ownBlock] at hk; omega
  go_enter Try.func28, Try.ntmps28
  go_wp2_with (go_at_call 33; refine (hvac _ hW0).mono ?_)
  rintro e w1 ⟨rfl, g, c, hown1, hT1, hK1, hat⟩
  have hM0 := hM.keep hW0 (fun h => h)
  have hM1 := hM0.keep hK1 (fun h => by
    rcases h with h | h
    · exact hM.ne_blk hT h.symm
    · exact hmne _ h rfl)
  have hX0 := Blk.new w 50 [.int .i64 r, .string p, .float .f64 0, .int .i64 0, .int .i64 0, .int .i64 0, .int .i64 0, .string ⟨#[]⟩, .slice none 0 0]
  have hX1 := hX0.keep hK1 (by rintro (h | h); omega; have := (hvb _ h).2; omega)
  have hKw : Keeps (fun k => k = tb ∨ v.ownBlock = some k ∨ k = bm) w w1 := (hW0.mono fun _ _ h => h.elim).trans (hK1.mono fun k _ h => by rcases h with h | h; exact .inl h; exact .inr (.inl h))
  have hgb : g ≠ bm := hM1.ne_row hown1
  have hgl := hown1.lt g rfl
  have hat' : v.ownBlock = some g ∨ w.heap.size < g := by
    rcases hat with h | h
    · exact .inl h
    · simp at h; exact .inr (by omega)
  have hM2 : OwnM (w1.setCell ⟨g, i * 12 + 9, none⟩ (.string id)) bm M N K := hM1.keep ((Keeps.refl (fun k => k = g) w1).setCell (p := ⟨g, i * 12 + 9, none⟩) rfl _) (fun h => hgb h.symm)
  have hown2 := row_setID hown1 hi id
  have hc0 := hT1.cell 0
  have hc2 := hT1.cell 2
  simp only [List.getElem?_cons_zero, List.getElem?_cons_succ] at hc0 hc2
  have s9 := slot_cells hown1 hi 9 (by decide)
  simp only [slotC, List.getElem?_cons_succ, List.getElem?_cons_zero] at s9
  have f9 := hown1.frozenAt (i * 12 + 9)
  clear hM0 hX0 hW0 hK1 hat hvac hmne hvb
  go_wp2_with (at_mapUpdate; refine wpList_mstore_new rfl _ _ _ rfl rfl hM2 hK id rfl hid (i : Int) rfl (WalkArith.wf_i64 (by omega)) hnew ?_)
  intro w3 hM3 hK3
  have hT3 : Blk w3 tb 63 [.slice (some ⟨g, 0, none⟩) n' c, .slice af nf' cf, .map (some bm)] := (hT1.other (a := ⟨g, i * 12 + 9, none⟩) (by show g ≠ tb; omega) _).keep hK3 (fun h => by have := hM1.ne_blk hT1; omega)
  have hX3 := (hX1.other (a := ⟨g, i * 12 + 9, none⟩) (by rcases hat' with h | h; have := (hown.lt g h).2; show g ≠ w.heap.size; omega; show g ≠ w.heap.size; omega) (.string id)).keep hK3 (fun h => by have := hM.lt; omega)
  have hown3 := ownsRow_keep hown2 hK3 (fun k hk h => by simp [Value.ownBlock] at hk; omega)
  have hKw3 : Keeps (fun k => k = tb ∨ v.ownBlock = some k ∨ k = bm) w w3 := ⟨hK3.os.trans hKw.os, hK3.tape.trans hKw.tape, hK3.output.trans hKw.output, Nat.le_trans hKw.size (by simpa using hK3.size), fun k hk hs => by
    have hsz := hKw.size
    refine (hK3.block k (by simp; omega) (fun h => hs (.inr (.inr h)))).trans ((Below.heap_setCell _ _ _ _ (fun h => ?_)).trans (hKw.block k hk hs))
    have h : k = g := h
    rcases hat' with h' | h'
    · exact hs (.inr (.inl (by rw [h', h])))
    · omega⟩
  clear hc0 hc2 s9 f9 hT hT1 hX1 hM hM1 hM2 hown1 hown2 hK3 hKw hown
  have hc0 := hT3.cell 0
  simp only [List.getElem?_cons_zero] at hc0
  have x0 := hX3.cell 0
  have x1 := hX3.cell 1
  have x2 := hX3.cell 2
  have x3 := hX3.cell 3
  have x4 := hX3.cell 4
  have x5 := hX3.cell 5
  have x6 := hX3.cell 6
  have x7 := hX3.cell 7
  have x8 := hX3.cell 8
  simp only [List.getElem?_cons_zero, List.getElem?_cons_succ] at x0 x1 x2 x3 x4 x5 x6 x7 x8
  generalize hS1 : setID S' i id = S1 at hown3
  have hL1 : S1.B 0 = (l : Int) := by rw [← hS1]; exact hL
  have HS : Hid (setID S' i id = S1) := hS1
  clear hS1 hL hX3
  have s0 := slot_cells hown3 hi 0 (by decide)
  have s1 := slot_cells hown3 hi 1 (by decide)
  have s2 := slot_cells hown3 hi 2 (by decide)
  have s3 := slot_cells hown3 hi 3 (by decide)
  have s4 := slot_cells hown3 hi 4 (by decide)
  have s5 := slot_cells hown3 hi 5 (by decide)
  have s6 := slot_cells hown3 hi 6 (by decide)
  have s7 := slot_cells hown3 hi 7 (by decide)
  have s8 := slot_cells hown3 hi 8 (by decide)
  have s10 := slot_cells hown3 hi 10 (by decide)
  have s11 := slot_cells hown3 hi 11 (by decide)
  have t10 := slot_cells hown3 (j := 0) (by omega) 10 (by decide)
  have u11 := slot_cells hown3 hl 11 (by decide)
  simp only [slotC, List.getElem?_cons_succ, List.getElem?_cons_zero, Nat.add_zero, Nat.zero_mul, Nat.zero_add, hL1] at s0 s1 s2 s3 s4 s5 s6 s7 s8 s10 s11 t10 u11
  have hfz := hown3.frozenAt
  clear hL1
  go_wp2
  go_region
  go_wp2
  go_region
  go_wp2
  go_region
  go_wp2
  go_end0
  have hKf := putW_keep w3 g i l r p
  have hKf' : Keeps (fun k => k = tb ∨ v.ownBlock = some k ∨ k = bm) w (putW w3 g i l r p) := ⟨hKf.os.trans hKw3.os, hKf.tape.trans hKw3.tape, hKf.output.trans hKw3.output, Nat.le_trans hKw3.size hKf.size, fun k hk hs => by
    have hsz := hKw3.size
    refine (hKf.block k (by omega) (fun h => ?_)).trans (hKw3.block k hk hs)
    rcases hat' with h' | h'
    · exact hs (.inr (.inl (by rw [h', h])))
    · omega⟩
  have hKd := hKf.drew.drew.drew
  have r1 : ((putW w3 g i l r p).drew.drew.drew).ownsRow (tb + 1) 65 12 (.slice (some ⟨g, 0, none⟩) n' c) n' (cellsS n' (putS (setID S' i id) i l r p)) := by
    rw [HS.out]; exact (putW_row hown3 hi hl r p).drew.drew.drew
  have r2 := hT3.keep hKd (by omega)
  have r3 := hM3.keep hKd (fun h => hgb h.symm)
  have r4 := hKf'.drew.drew.drew
  exact ⟨rfl, g, c, r1, r2, r3, r4, hat'.elim (fun h => .inl h) (fun h => .inr (Nat.le_of_lt h))⟩
end Go.Proofs.Qxb6619702a
