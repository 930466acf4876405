import Derived.Test.Qxb6619702aPut3
/-! vacant as put takes it; put into the zero table. -/
namespace Go.Proofs.Qxb6619702a
open Go.RowKit

theorem vac_free {tb n c nf m cf x g : Nat} {af : Option Addr} {v2 : Value} {FR : Nat → Int} {S : Slots} {w : World} (hn : 0 < n) (hT : Blk w tb 63 [.slice (some ⟨g, 0, none⟩) n c, .slice af nf cf, v2])
    (hown : w.ownsRow (tb + 1) 65 12 (.slice (some ⟨g, 0, none⟩) n c) n (cellsS n S)) (hm : nf = m + 1) (hF : SlF encI w 0 tb af nf FR) (hcf : nf ≤ cf) (hnf : nf ≤ 1048576) (hx : FR m = (x : Int)) :
    Calls Try.prog 33 #[.pointer (some ⟨tb, 0, none⟩)] w (VacOut tb (.slice (some ⟨g, 0, none⟩) n c) v2 af cf n x m S w) := by
  refine (vacant_free tb n c nf m cf _ af v2 FR w hn hT hm hF hcf hnf).mono ?_
  rintro e w' ⟨rfl, rfl⟩
  rw [hx]
  exact ⟨rfl, g, c, ownsRow_setCell_below hown (a := ⟨tb, 1, none⟩) (Nat.lt_succ_self _) _, hT.set 1 _, (Keeps.refl _ w).setCell (p := ⟨tb, 1, none⟩) (.inl rfl) _, .inl rfl⟩

theorem vac_new {tb n cf : Nat} {v : Value} {af : Option Addr} {v2 : Value} {S : Slots} {w : World} (hn : 0 < n) (hn' : n ≤ 1048576) (hT : Blk w tb 63 [v, .slice af 0 cf, v2])
    (hown : w.ownsRow (tb + 1) 65 12 v n (cellsS n S)) : Calls Try.prog 33 #[.pointer (some ⟨tb, 0, none⟩)] w (VacOut tb v v2 af cf (n + 1) n 0 (zeroAt S n) w) := by
  refine (vacant_new tb n cf v af v2 S w hn hn' hT hown).mono ?_
  rintro e w' ⟨rfl, g, c, h1, h2, h3, h4⟩
  exact ⟨rfl, g, c, h1, h2, h3, h4⟩

set_option maxHeartbeats 1000000 in
theorem vac_zero {tb cf : Nat} {af : Option Addr} {v2 : Value} (S : Slots) {w : World} (hT : Blk w tb 63 [.slice none 0 0, .slice af 0 cf, v2]) :
    Calls Try.prog 33 #[.pointer (some ⟨tb, 0, none⟩)] w (VacOut tb (.slice none 0 0) v2 af cf 2 1 0 (zeroAt (zeroAt S 0) 1) w) := by
  have hc0 := hT.cell 0
  have hc1 := hT.cell 1
  have hf0 := hT.free 0
  have hlt := hT.lt
  simp only [List.getElem?_cons_zero, List.getElem?_cons_succ] at hc0 hc1
  obtain ⟨i0, hi, hz0, hz1, hz2⟩ := info_parts Try.info65
  have hnil := World.ownsRow_nil w (tb + 1) 65 12
  go_enter Try.func33, Try.ntmps33
  go_wp2_with (at_builtin; refine wpList_append_lies _ rfl (.tmp 15) (.tmp 17) 61 rfl (tb + 1) 65 i0 _ 12 136 Try.underlying61 hi hz0 hz1 hz2 rfl (by decide) _ 0 _ rfl (hnil.alloc _) ⟨w.heap.size, 0, none⟩ 1 1 zeroSlot rfl rfl (news_new _ _ _ rfl) zeroSlot_one (by decide) (by unfold maxLen; omega) (by omega) (by simp; omega) _ rfl ?_)
  intro g c w1 hown1 hgrow1 hat1 hg1
  have hK1 : Keeps Nob w w1 := ((Keeps.refl _ w).alloc _).grown hgrow1 (fun q hq => by cases hq)
  have hT1 := hT.keep hK1 (fun h => h)
  have e0 : zeroSlot = cellsS 1 (zeroAt S 0) := cells_zeroAt 0 S
  rw [e0] at hown1
  have d0 := hT1.cell 0
  have d1 := hT1.free 0
  have d2 := hT1.cell 1
  simp only [List.getElem?_cons_zero, List.getElem?_cons_succ] at d0 d2
  have hgw : w.heap.size ≤ g := by
    rcases hat1 with h | h
    · cases h
    · omega
  have hown1' := ownsRow_setCell_below hown1 (a := ⟨tb, 0, none⟩) (Nat.lt_succ_self _) (.slice (some ⟨g, 0, none⟩) 1 c)
  have hT1' := hT1.set 0 (.slice (some ⟨g, 0, none⟩) 1 c)
  have hK1' : Keeps (fun k => k = tb ∨ (Value.slice none 0 0).ownBlock = some k) w (w1.setCell ⟨tb, 0, none⟩ (.slice (some ⟨g, 0, none⟩) 1 c)) := (hK1.mono fun _ _ h => h.elim).setCell (p := ⟨tb, 0, none⟩) (.inl rfl) _
  have hs1 := hK1.size
  clear hc0 hc1 hf0 hT hnil hgrow1 hat1 hown1 hT1 hK1 e0
  go_wp2_with (at_builtin; refine wpList_append_lies _ rfl (.tmp 51) (.tmp 53) 61 rfl (tb + 1) 65 i0 _ 12 136 Try.underlying61 hi hz0 hz1 hz2 rfl (by decide) _ 1 _ rfl (hown1'.alloc _) ⟨w1.heap.size, 0, none⟩ 1 1 zeroSlot rfl rfl (news_new _ _ _ (by simp)) zeroSlot_one (by decide) (by unfold maxLen; omega) (by omega) (by simp; omega) _ rfl ?_)
  intro g2 c2 w2 hown2 hgrow2 hat2 hg2
  rw [cells_zeroAt] at hown2
  have hT2 : Blk w2 tb 63 [.slice (some ⟨g, 0, none⟩) 1 c, .slice af 0 cf, v2] := by
    have e := hgrow2.block tb (by simp; omega) (fun e => by simp [Value.ownBlock] at e; omega)
    unfold Blk at hT1' ⊢
    rw [e]; exact (Below.heap_alloc _ _ _ (by simp; omega)).trans hT1'
  have hK2 : Keeps (fun k => k = tb ∨ (Value.slice none 0 0).ownBlock = some k) w w2 := (hK1'.alloc _).grown hgrow2 (fun q hq => .inr (by simp [Value.ownBlock] at hq; omega))
  have q0 := hT2.cell 0
  have q1 := hT2.free 0
  simp only [List.getElem?_cons_zero] at q0
  have hg2w : w.heap.size ≤ g2 := by
    rcases hat2 with h | h
    · simp [Value.ownBlock] at h; omega
    · omega
  clear d0 d1 d2 hown1' hT1' hK1' hgrow2 hat2
  go_wp2
  go_ret
  exact ⟨ret_int (by omega), g2, c2, ownsRow_setCell_below hown2 (a := ⟨tb, 0, none⟩) (Nat.lt_succ_self _) _, hT2.set 0 _, hK2.setCell (p := ⟨tb, 0, none⟩) (.inl rfl) _, .inr hg2w⟩

set_option maxHeartbeats 4000000 in
/-- put into the zero table: two slots, a map. -/
theorem put_zero (tb cf : Nat) (af : Option Addr) (S : Slots) (id : ByteArray) (r : Int) (p : ByteArray) (w : World) (hid : id.size ≤ maxLen)
    (hT : Blk w tb 63 [.slice none 0 0, .slice af 0 cf, .map none]) :
    Calls Try.prog 28 #[.pointer (some ⟨tb, 0, none⟩), .int .i64 0, .string id, taskV r p] w fun e w' => e = .returned (.tuple #[]) ∧ ∃ g c bm, w'.ownsRow (tb + 1) 65 12 (.slice (some ⟨g, 0, none⟩) 2 c) 2 (cellsS 2 (putS (setID (zeroAt (zeroAt S 0) 1) 1 id) 1 0 r p)) ∧
      Blk w' tb 63 [.slice (some ⟨g, 0, none⟩) 2 c, .slice af 0 cf, .map (some bm)] ∧ OwnM w' bm (Go.Proofs.Qxb6619702a.put (fun _ => none) id ((1 : Nat) : Int)) (0 + 1) (0 + 1) ∧ Keeps (fun k => k = tb) w w' ∧ w.heap.size ≤ g ∧ w.heap.size ≤ bm := by
  have htl := hT.lt
  have hsf := store_fl
  have hmm := @run_makeMap Try.prog
  have hnil := fun w => run_eql_map_nil (P := Try.prog) w 35 9 3 none Try.underlying35
  unfold taskV
  have hW0 : Keeps Nob w (w.alloc (.cells #[.int .i64 r, .string p, .float .f64 0, .int .i64 0, .int .i64 0, .int .i64 0, .int .i64 0, .string ⟨#[]⟩, .slice none 0 0] 50)) := (Keeps.refl _ w).alloc _
  go_enter Try.func28, Try.ntmps28
  go_wp2_with (go_at_call 33; refine (vac_zero S (hT.alloc _)).mono ?_)
  rintro e w1 ⟨rfl, g, c, hown1, hT1, hK1, hat⟩
  have hX0 := Blk.new w 50 [.int .i64 r, .string p, .float .f64 0, .int .i64 0, .int .i64 0, .int .i64 0, .int .i64 0, .string ⟨#[]⟩, .slice none 0 0]
  have hX1 := hX0.keep hK1 (by rintro (h | h); omega; cases h)
  have hKw : Keeps (fun k => k = tb) w w1 := (hW0.mono fun _ _ h => h.elim).trans (hK1.mono fun k _ h => by rcases h with h | h; exact h; cases h)
  have hgl := hown1.lt g rfl
  have hgw : w.heap.size < g := by
    rcases hat with h | h
    · cases h
    · simp at h; omega
  have hown2 := row_setID hown1 (i := 1) (by decide) id
  have hc0 := hT1.cell 0
  have hc2 := hT1.cell 2
  have hf2 := hT1.free 2
  simp only [List.getElem?_cons_zero, List.getElem?_cons_succ] at hc0 hc2
  have s9 := slot_cells hown1 (j := 1) (by decide) 9 (by decide)
  simp only [slotC, List.getElem?_cons_succ, List.getElem?_cons_zero, Nat.one_mul, Nat.reduceAdd] at s9
  have f9 := hown1.frozenAt (1 * 12 + 9)
  simp only [Nat.one_mul, Nat.reduceAdd] at f9 hown2
  have hsz1 := hKw.size
  have htl1 : tb < w1.heap.size := by omega
  have hne1 : tb ≠ w1.heap.size := by omega
  have hgt1 : ¬ g = tb := by omega
  have hM3 := OwnM.made ((w1.setCell ⟨g, 21, none⟩ (.string id)).setCell ⟨tb, 2, none⟩ (.map (some w1.heap.size)))
  rw [World.size_setCell, World.size_setCell] at hM3
  have hT2 := ((hT1.other (a := ⟨g, 21, none⟩) (by show g ≠ tb; omega) (.string id)).set 2 (.map (some w1.heap.size))).alloc (.map #[] 0)
  have hX2 := ((hX1.other (a := ⟨g, 21, none⟩) (by show g ≠ w.heap.size; omega) (.string id)).other (a := ⟨tb, 2, none⟩) (by show tb ≠ w.heap.size; omega) (.map (some w1.heap.size))).alloc (.map #[] 0)
  have hown3 := (ownsRow_setCell_below hown2 (a := ⟨tb, 2, none⟩) (Nat.lt_succ_self _) (.map (some w1.heap.size))).alloc (.map #[] 0)
  have hK3 : Keeps (fun k => k = tb) w (((w1.setCell ⟨g, 21, none⟩ (.string id)).setCell ⟨tb, 2, none⟩ (.map (some w1.heap.size))).alloc (.map #[] 0)) := ((hKw.setNew (p := ⟨g, 21, none⟩) (by show w.heap.size ≤ g; omega) _).setCell (p := ⟨tb, 2, none⟩) rfl _).alloc _
  clear hX0 hW0 hK1 hat hT hown2 hX1
  go_wp2_with (at_mapUpdate; refine wpList_mstore_new rfl _ _ _ rfl rfl hM3 (by decide) id rfl hid (1 : Int) rfl (by decide) rfl ?_)
  intro w3 hM4 hK4
  have hgb : g ≠ w1.heap.size := by omega
  have hT4 := hT2.keep hK4 (by omega)
  have hX4 := hX2.keep hK4 (by omega)
  have hown4 := ownsRow_keep hown3 hK4 (fun k hk h => by simp [Value.ownBlock] at hk; omega)
  have hKw4 : Keeps (fun k => k = tb) w w3 := ⟨hK4.os.trans hK3.os, hK4.tape.trans hK3.tape, hK4.output.trans hK3.output, Nat.le_trans hK3.size hK4.size, fun k hk hs => by
    have hsz := hK3.size
    exact (hK4.block k (by omega) (by omega)).trans (hK3.block k hk hs)⟩
  clear hc0 hc2 hf2 s9 f9 hT1 hM3 hT2 hX2 hown1 hown3 hK3 hK4 hKw
  simp only [List.set_cons_succ, List.set_cons_zero] at hT4
  have hc0 := hT4.cell 0
  simp only [List.getElem?_cons_zero] at hc0
  have x0 := hX4.cell 0
  have x1 := hX4.cell 1
  have x2 := hX4.cell 2
  have x3 := hX4.cell 3
  have x4 := hX4.cell 4
  have x5 := hX4.cell 5
  have x6 := hX4.cell 6
  have x7 := hX4.cell 7
  have x8 := hX4.cell 8
  simp only [List.getElem?_cons_zero, List.getElem?_cons_succ] at x0 x1 x2 x3 x4 x5 x6 x7 x8
  generalize hS1 : setID (zeroAt (zeroAt S 0) 1) 1 id = S1 at hown4
  have hL1 : S1.B 0 = ((0 : Nat) : Int) := by rw [← hS1]; rfl
  have HS : Hid (setID (zeroAt (zeroAt S 0) 1) 1 id = S1) := hS1
  clear hS1 hX4
  have s0 := slot_cells hown4 (j := 1) (by decide) 0 (by decide)
  have s1 := slot_cells hown4 (j := 1) (by decide) 1 (by decide)
  have s2 := slot_cells hown4 (j := 1) (by decide) 2 (by decide)
  have s3 := slot_cells hown4 (j := 1) (by decide) 3 (by decide)
  have s4 := slot_cells hown4 (j := 1) (by decide) 4 (by decide)
  have s5 := slot_cells hown4 (j := 1) (by decide) 5 (by decide)
  have s6 := slot_cells hown4 (j := 1) (by decide) 6 (by decide)
  have s7 := slot_cells hown4 (j := 1) (by decide) 7 (by decide)
  have s8 := slot_cells hown4 (j := 1) (by decide) 8 (by decide)
  have s10 := slot_cells hown4 (j := 1) (by decide) 10 (by decide)
  have s11 := slot_cells hown4 (j := 1) (by decide) 11 (by decide)
  have t10 := slot_cells hown4 (j := 0) (by decide) 10 (by decide)
  have u11 := slot_cells hown4 (j := 0) (by decide) 11 (by decide)
  have e0 : ((0 : Nat) : Int) = 0 := rfl
  simp only [slotC, List.getElem?_cons_succ, List.getElem?_cons_zero, Nat.add_zero, Nat.zero_mul, Nat.zero_add, Nat.one_mul, Nat.reduceAdd, hL1, e0] at s0 s1 s2 s3 s4 s5 s6 s7 s8 s10 s11 t10 u11
  have hfz := hown4.frozenAt
  clear hL1 e0
  go_wp2
  go_region
  go_wp2
  go_region
  go_wp2
  go_region
  go_wp2
  go_end0
  have hKf := putW_keep w3 g 1 0 r p
  have hKd := hKf.drew.drew.drew
  have r1 : ((putW w3 g 1 0 r p).drew.drew.drew).ownsRow (tb + 1) 65 12 (.slice (some ⟨g, 0, none⟩) 2 c) 2 (cellsS 2 (putS (setID (zeroAt (zeroAt S 0) 1) 1 id) 1 0 r p)) := by
    rw [HS.out]; exact (putW_row hown4 (by decide) (by decide) r p).drew.drew.drew
  have r2 := hT4.keep hKd (by omega)
  have r3 := hM4.keep hKd (by omega)
  have hKf' : Keeps (fun k => k = tb) w (putW w3 g 1 0 r p) := ⟨hKf.os.trans hKw4.os, hKf.tape.trans hKw4.tape, hKf.output.trans hKw4.output, Nat.le_trans hKw4.size hKf.size, fun k hk hs => by
    have hsz := hKw4.size
    exact (hKf.block k (by omega) (by omega)).trans (hKw4.block k hk hs)⟩
  have r4 := hKf'.drew.drew.drew
  exact ⟨rfl, g, c, w1.heap.size, r1, r2, r3, r4, by omega, by omega⟩

def taskC (r : Int) (p : ByteArray) : Obj := .cells #[.int .i64 r, .string p, .float .f64 0, .int .i64 0, .int .i64 0, .int .i64 0, .int .i64 0, .string ⟨#[]⟩, .slice none 0 0] 50

theorem zzPut_any {tb : Nat} {i : Int} {id : ByteArray} {r : Int} {p : ByteArray} {w : World} {R : World → Prop}
    (h : Calls Try.prog 28 #[.pointer (some ⟨tb, 0, none⟩), .int .i64 i, .string id, taskV r p] (w.alloc (taskC r p)) fun e w' => e = .returned (.tuple #[]) ∧ R w') :
    Calls Try.prog 18 #[.pointer (some ⟨tb, 0, none⟩), .int .i64 i, .string id, taskV r p] w fun e w' => e = .returned (.tuple #[]) ∧ R w' := by
  have hsf := store_fl
  unfold taskV taskC at h
  unfold taskV
  have H : Hid (Calls Try.prog 28 #[.pointer (some ⟨tb, 0, none⟩), .int .i64 i, .string id, .agg #[.int .i64 r, .string p, .float .f64 0, .int .i64 0, .int .i64 0, .int .i64 0, .int .i64 0, .string ⟨#[]⟩, .slice none 0 0]] (w.alloc (.cells #[.int .i64 r, .string p, .float .f64 0, .int .i64 0, .int .i64 0, .int .i64 0, .int .i64 0, .string ⟨#[]⟩, .slice none 0 0] 50)) fun e w' => e = .returned (.tuple #[]) ∧ R w') := h
  clear h
  go_enter Try.func18, Try.ntmps18
  go_wp2_with (go_at_call 28; refine H.out.mono ?_; rintro e w' ⟨rfl, hR⟩)
  go_end0
  exact ⟨rfl, by assumption⟩
end Go.Proofs.Qxb6619702a
