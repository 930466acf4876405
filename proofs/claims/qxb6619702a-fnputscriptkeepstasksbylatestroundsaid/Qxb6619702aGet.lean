import Derived.Test.Qxb6619702aTab
import Derived.Test.Qxb6619702aMap
/-! The walks of the small readers of a table. -/
namespace Go.Proofs.Qxb6619702a
open Go.RowKit

def taskV (r : Int) (p : ByteArray) : Value := .agg #[.int .i64 r, .string p, .float .f64 0, .int .i64 0, .int .i64 0, .int .i64 0, .int .i64 0, .string ⟨#[]⟩, .slice none 0 0]

theorem zzLen_any (tb : Nat) (v1 v2 : Value) (ao : Option Addr) (n c : Nat) (w : World) (hT : Blk w tb 63 [.slice ao n c, v1, v2]) :
    Calls Try.prog 20 #[.pointer (some ⟨tb, 0, none⟩)] w fun e w' => e = .returned (.int .i64 n) ∧ w' = w := by
  have hc0 := hT.cell 0
  simp only [List.getElem?_cons_zero] at hc0
  clear hT
  go_enter Try.func20, Try.ntmps20
  go_wp2
  go_ret
  exact ⟨rfl, rfl⟩

theorem zzFree_any (tb : Nat) (v0 v2 : Value) (ao : Option Addr) (n c : Nat) (w : World) (hT : Blk w tb 63 [v0, .slice ao n c, v2]) :
    Calls Try.prog 23 #[.pointer (some ⟨tb, 0, none⟩)] w fun e w' => e = .returned (.slice ao n c) ∧ w' = w := by
  have hc0 := hT.cell 1
  simp only [List.getElem?_cons_succ, List.getElem?_cons_zero] at hc0
  clear hT
  go_enter Try.func23, Try.ntmps23
  go_wp2
  go_ret
  exact ⟨rfl, rfl⟩

theorem zzIndexLen_any (tb : Nat) (v0 v1 : Value) (bm : Nat) (M : ByteArray → Option Int) (N K : Nat) (w : World) (hT : Blk w tb 63 [v0, v1, .map (some bm)]) (hM : OwnM w bm M N K) :
    Calls Try.prog 24 #[.pointer (some ⟨tb, 0, none⟩)] w fun e w' => e = .returned (.int .i64 N) ∧ w' = w := by
  have hc0 := hT.cell 2
  simp only [List.getElem?_cons_succ, List.getElem?_cons_zero] at hc0
  clear hT
  go_enter Try.func24, Try.ntmps24
  go_wp2_with (at_len; refine wpList_mlen rfl _ rfl rfl hM ?_)
  go_ret
  exact ⟨rfl, rfl⟩

theorem zzIndex_any (tb : Nat) (v0 v1 : Value) (bm : Nat) (M : ByteArray → Option Int) (N K : Nat) (s : ByteArray) (w : World) (hT : Blk w tb 63 [v0, v1, .map (some bm)]) (hM : OwnM w bm M N K) (hs : s.size ≤ maxLen) :
    Calls Try.prog 17 #[.pointer (some ⟨tb, 0, none⟩), .string s] w fun e w' => e = .returned (.tuple #[.int .i64 ((M s).getD 0), .bool (M s).isSome]) ∧ w' = w := by
  have hc0 := hT.cell 2
  simp only [List.getElem?_cons_succ, List.getElem?_cons_zero] at hc0
  clear hT
  obtain ⟨x, hx⟩ : ∃ x, (M s).getD 0 = x := ⟨_, rfl⟩
  obtain ⟨b, hb⟩ : ∃ b, (M s).isSome = b := ⟨_, rfl⟩
  rw [hx, hb]
  have HX : Hid ((M s).getD 0 = x ∧ (M s).isSome = b) := ⟨hx, hb⟩
  clear hx hb
  go_enter Try.func17, Try.ntmps17
  go_wp2_with (at_lookup; refine wpList_mlook_ok rfl _ _ rfl rfl hM s rfl hs ?_; rw [HX.out.1, HX.out.2])
  go_ret2
  exact ⟨rfl, rfl⟩

theorem store_fl (w : World) (a : Addr) (m : Mode) : (store a (.float .f64 0) m).run Try.prog w = stored Try.prog w a (.float .f64 0) m := run_store Try.prog w a _ m rfl

/-- The cells of one slot, as the walk reads them. -/
theorem slot_cells {w : World} {base g n c : Nat} {S : Slots} (hown : w.ownsRow base 65 12 (.slice (some ⟨g, 0, none⟩) n c) n (cellsS n S)) {j : Nat} (hj : j < n) (i : Nat) (hi : i < 12) :
    w.cell? ⟨g, j * 12 + i, none⟩ = (slotC S j)[i]? := by
  rw [hown.cellAt (j * 12 + i) (by omega), cellsS_get S hj hi]

theorem results_tmp5 {fn : Func} {t u v x y : Tmp} (h : fn.results = #[.tmp t, .tmp u, .tmp v, .tmp x, .tmp y]) (tmps : Array Value) (P : Program) (w : World) :
    (results fn tmps).run P w = .ok (.tuple #[tmps.getD t undef, tmps.getD u undef, tmps.getD v undef, tmps.getD x undef, tmps.getD y undef]) w := by
  simp [results, h]

theorem zzTask_any (r : Int) (p : ByteArray) (w : World) :
    Calls Try.prog 19 #[.int .i64 r, .string p] w fun e w' => e = .returned (taskV r p) ∧ Keeps Nob w w' := by
  have hsf := store_fl
  go_enter Try.func19, Try.ntmps19
  go_wp2
  exact bodyPost_ret (v := taskV r p) (by simp [results, Try.results19, go_sem, taskV]) rfl ⟨rfl, (Keeps.refl _ _).alloc _⟩

set_option maxHeartbeats 1000000 in
theorem zzSlot_any (tb g n c j : Nat) (v1 v2 : Value) (S : Slots) (w : World) (hj : j < n) (hT : Blk w tb 63 [.slice (some ⟨g, 0, none⟩) n c, v1, v2]) (hown : w.ownsRow (tb + 1) 65 12 (.slice (some ⟨g, 0, none⟩) n c) n (cellsS n S)) :
    Calls Try.prog 29 #[.pointer (some ⟨tb, 0, none⟩), .int .i64 j] w fun e w' => e = .returned (.tuple #[.string (S.ID j), .int .i64 (S.B j), .int .i64 (S.A j), .int .i64 (S.R j), .string (S.P j)]) ∧ Keeps Nob w w' := by
  have hc0 := hT.cell 0
  simp only [List.getElem?_cons_zero] at hc0
  have s0 := slot_cells hown hj 0 (by decide)
  have s1 := slot_cells hown hj 1 (by decide)
  have s2 := slot_cells hown hj 2 (by decide)
  have s3 := slot_cells hown hj 3 (by decide)
  have s4 := slot_cells hown hj 4 (by decide)
  have s5 := slot_cells hown hj 5 (by decide)
  have s6 := slot_cells hown hj 6 (by decide)
  have s7 := slot_cells hown hj 7 (by decide)
  have s8 := slot_cells hown hj 8 (by decide)
  have s9 := slot_cells hown hj 9 (by decide)
  have s10 := slot_cells hown hj 10 (by decide)
  have s11 := slot_cells hown hj 11 (by decide)
  simp only [slotC, List.getElem?_cons_succ, List.getElem?_cons_zero, Nat.add_zero] at s0 s1 s2 s3 s4 s5 s6 s7 s8 s9 s10 s11
  have hsf := store_fl
  clear hT hown
  go_enter Try.func29, Try.ntmps29
  go_wp2
  go_region
  go_wp2
  refine bodyPost_ret (results_tmp5 rfl _ _ _) rfl ?_
  exact ⟨rfl, ((Keeps.refl _ _).alloc _).drew⟩

/-- A row of n cells of which the first k are filled. -/
def fillC {α : Type} (enc : α → Value) (z : Value) (n k : Nat) (F : Nat → α) : List Value := (List.range n).map fun j => if j < k then enc (F j) else z
theorem fillC_zero {α : Type} (enc : α → Value) (z : Value) (n : Nat) (F : Nat → α) : List.replicate n z = fillC enc z n 0 F := by
  apply List.ext_getElem
  · simp [fillC]
  · intro i h1 h2; simp [fillC]
theorem fillC_set {α : Type} (enc : α → Value) (z : Value) (n k : Nat) (F : Nat → α) : (fillC enc z n k F).set k (enc (F k)) = fillC enc z n (k + 1) F := by
  apply List.ext_getElem
  · simp [fillC]
  · intro i h1 h2
    simp only [fillC, List.getElem_set, List.getElem_map, List.getElem_range]
    by_cases h : k = i
    · subst h; simp
    · by_cases h' : i < k
      · simp [h, h', show i < k + 1 by omega]
      · simp [h, h', show ¬ i < k + 1 by omega]
theorem fillC_get {α : Type} {enc : α → Value} {z : Value} {n k : Nat} {F : Nat → α} (hk : k < n) : (fillC enc z n k F)[k]? = some z := by simp [fillC, hk]
theorem fillC_full {α : Type} {enc : α → Value} {z : Value} {n : Nat} {F : Nat → α} {w : World} {g : Nat} {T : TypeId} (h : Blk w g T (fillC enc z n n F)) {lo hi : Nat} (h1 : lo ≤ g) (h2 : g < hi) : SlF enc w lo hi (some ⟨g, 0, none⟩) n F := by
  intro _
  refine ⟨g, 0, rfl, h1, h2, fun j hj => ?_⟩
  rw [h.cell]; simp [fillC, hj]

set_option maxHeartbeats 4000000 in
theorem readSlots_any (tb m : Nat) (v v1 v2 : Value) (S : Slots) (w : World) (hm : m ≤ 1048576) (hT : Blk w tb 63 [v, v1, v2]) (hv : 0 < m → ∃ g c, v = .slice (some ⟨g, 0, none⟩) m c ∧ w.ownsRow (tb + 1) 65 12 (.slice (some ⟨g, 0, none⟩) m c) m (cellsS m S)) :
    Calls Try.prog 21 #[.pointer (some ⟨tb, 0, none⟩), .int .i64 m] w fun e w' => Keeps Nob w w' ∧ ∃ a1 a2 a3 a4 a5, e = .returned (.tuple #[.slice a1 m m, .slice a2 m m, .slice a3 m m, .slice a4 m m, .slice a5 m m]) ∧
      SlF Value.string w' w.heap.size w'.heap.size a1 m S.ID ∧ SlF encI w' w.heap.size w'.heap.size a2 m S.B ∧ SlF encI w' w.heap.size w'.heap.size a3 m S.A ∧ SlF encI w' w.heap.size w'.heap.size a4 m S.R ∧ SlF Value.string w' w.heap.size w'.heap.size a5 m S.P := by
  go_enter Try.func21, Try.ntmps21
  go_wp2_with (at_make; refine wpList_make_blk _ rfl _ _ 22 rfl 9 (.string ⟨#[]⟩) 16 rfl Try.underlying22 Try.info9 _ _ m rfl rfl (by omega) (by unfold maxLen; omega) ?_)
  intro w1 hB1 hK1
  go_wp2_with (at_make; refine wpList_make_blk _ rfl _ _ 31 rfl 3 (.int .i64 0) 8 rfl Try.underlying31 Try.info3 _ _ m rfl rfl (by omega) (by unfold maxLen; omega) ?_)
  intro w2 hB2 hK2
  go_wp2_with (at_make; refine wpList_make_blk _ rfl _ _ 31 rfl 3 (.int .i64 0) 8 rfl Try.underlying31 Try.info3 _ _ m rfl rfl (by omega) (by unfold maxLen; omega) ?_)
  intro w3 hB3 hK3
  go_wp2_with (at_make; refine wpList_make_blk _ rfl _ _ 31 rfl 3 (.int .i64 0) 8 rfl Try.underlying31 Try.info3 _ _ m rfl rfl (by omega) (by unfold maxLen; omega) ?_)
  intro w4 hB4 hK4
  go_wp2_with (at_make; refine wpList_make_blk _ rfl _ _ 22 rfl 9 (.string ⟨#[]⟩) 16 rfl Try.underlying22 Try.info9 _ _ m rfl rfl (by omega) (by unfold maxLen; omega) ?_)
  intro w5 hB5 hK5
  have k23 : Keeps Nob w2 w5 := (hK3.trans (hK4.mono fun _ _ h => h)).trans (hK5.mono fun _ _ h => h)
  have l1 := hB1.lt
  have l2 := hB2.lt
  have l3 := hB3.lt
  have l4 := hB4.lt
  have l5 := hB5.lt
  have hA1 := (hB1.keep hK2 (fun h => h)).keep k23 (fun h => h)
  have hA2 := hB2.keep k23 (fun h => h)
  have hA3 := (hB3.keep hK4 (fun h => h)).keep hK5 (fun h => h)
  have hA4 := hB4.keep hK5 (fun h => h)
  have hK : Keeps Nob w w5 := (hK1.trans (hK2.mono fun _ _ h => h)).trans k23
  rw [fillC_zero Value.string _ m S.ID] at hA1
  rw [fillC_zero encI _ m S.B] at hA2
  rw [fillC_zero encI _ m S.A] at hA3
  rw [fillC_zero encI _ m S.R] at hA4
  rw [fillC_zero Value.string _ m S.P] at hB5
  have kt := hT.lt
  clear hB1 hB2 hB3 hB4 hK1 hK2 hK3 hK4 hK5 k23
  have hd1 : w.heap.size < w1.heap.size := l1
  have hd2 : w1.heap.size < w2.heap.size := l2
  have hd3 : w2.heap.size < w3.heap.size := l3
  have hd4 : w3.heap.size < w4.heap.size := l4
  clear l1 l2 l3 l4
  generalize hD1 : w1.heap.size = d1 at hA2 hd1 hd2
  generalize hD2 : w2.heap.size = d2 at hA3 hd2 hd3
  generalize hD3 : w3.heap.size = d3 at hA4 hd3 hd4
  generalize hD4 : w4.heap.size = d4 at hB5 hd4 l5
  clear hD1 hD2 hD3 hD4 w1 w2 w3 w4
  go_wp2
  go_loopw [14] (fun i wr => ∃ k : Nat, k ≤ m ∧ i = .int .i64 k ∧ Blk wr w.heap.size 9 (fillC Value.string (.string ⟨#[]⟩) m k S.ID) ∧ Blk wr d1 3 (fillC encI (.int .i64 0) m k S.B) ∧ Blk wr d2 3 (fillC encI (.int .i64 0) m k S.A) ∧ Blk wr d3 3 (fillC encI (.int .i64 0) m k S.R) ∧ Blk wr d4 9 (fillC Value.string (.string ⟨#[]⟩) m k S.P) ∧ Keeps Nob w wr) (fun i _ => m - (intOf i).toNat)
  case atStart => exact ⟨0, Nat.zero_le _, rfl, hA1, hA2, hA3, hA4, hB5, hK⟩
  case round =>
    clear hA1 hA2 hA3 hA4 hB5 hK l5 w5
    obtain ⟨k, hk, rfl, hA1, hA2, hA3, hA4, hA5, hK⟩ := hrel
    by_cases hlt : k < m
    · obtain ⟨g, c, rfl, hown⟩ := hv (by omega)
      have hTr := hT.keep hK (fun h => h)
      have hor := ownsRow_keep hown hK (fun _ _ h => h)
      go_wp2_with (go_at_call 29; refine (zzSlot_any tb g m c k v1 v2 S _ hlt hTr hor).mono ?_)
      rintro e w6 ⟨rfl, hK6⟩
      have a1 := hA1.keep hK6 (fun h => h)
      have a2 := hA2.keep hK6 (fun h => h)
      have a3 := hA3.keep hK6 (fun h => h)
      have a4 := hA4.keep hK6 (fun h => h)
      have a5 := hA5.keep hK6 (fun h => h)
      have hKr : Keeps Nob w w6 := hK.trans (hK6.mono fun _ _ h => h)
      clear hA1 hA2 hA3 hA4 hA5 hTr hor hK hK6
      have c1 : w6.cell? ⟨w.heap.size, k, none⟩ = some (.string ⟨#[]⟩) := by rw [a1.cell, fillC_get hlt]
      have c2 : w6.cell? ⟨d1, k, none⟩ = some (.int .i64 0) := by rw [a2.cell, fillC_get hlt]
      have c3 : w6.cell? ⟨d2, k, none⟩ = some (.int .i64 0) := by rw [a3.cell, fillC_get hlt]
      have c4 : w6.cell? ⟨d3, k, none⟩ = some (.int .i64 0) := by rw [a4.cell, fillC_get hlt]
      have c5 : w6.cell? ⟨d4, k, none⟩ = some (.string ⟨#[]⟩) := by rw [a5.cell, fillC_get hlt]
      have f1 := a1.free k
      have f2 := a2.free k
      have f3 := a3.free k
      have f4 := a4.free k
      have f5 := a5.free k
      go_wp2
      refine ⟨?rel, ?measure⟩
      case rel =>
        refine ⟨k + 1, hlt, by go_num, ?_, ?_, ?_, ?_, ?_, ((((hKr.setNew (p := ⟨w.heap.size, k, none⟩) (Nat.le_refl _) _).setNew (p := ⟨d1, k, none⟩) (by show _ ≤ d1; omega) _).setNew (p := ⟨d2, k, none⟩) (by show _ ≤ d2; omega) _).setNew (p := ⟨d3, k, none⟩) (by show _ ≤ d3; omega) _).setNew (p := ⟨d4, k, none⟩) (by show _ ≤ d4; omega) _⟩
        · have := a1.set k (.string (S.ID k))
          rw [fillC_set] at this
          exact (((this.other (a := ⟨d1, k, none⟩) (by show d1 ≠ _; omega) _).other (a := ⟨d2, k, none⟩) (by show d2 ≠ _; omega) _).other (a := ⟨d3, k, none⟩) (by show d3 ≠ _; omega) _).other (a := ⟨d4, k, none⟩) (by show d4 ≠ _; omega) _
        · have := (a2.other (a := ⟨w.heap.size, k, none⟩) (by show w.heap.size ≠ _; omega) (.string (S.ID k))).set k (encI (S.B k))
          rw [fillC_set] at this
          exact ((this.other (a := ⟨d2, k, none⟩) (by show d2 ≠ _; omega) _).other (a := ⟨d3, k, none⟩) (by show d3 ≠ _; omega) _).other (a := ⟨d4, k, none⟩) (by show d4 ≠ _; omega) _
        · have := ((a3.other (a := ⟨w.heap.size, k, none⟩) (by show w.heap.size ≠ _; omega) (.string (S.ID k))).other (a := ⟨d1, k, none⟩) (by show d1 ≠ _; omega) (encI (S.B k))).set k (encI (S.A k))
          rw [fillC_set] at this
          exact (this.other (a := ⟨d3, k, none⟩) (by show d3 ≠ _; omega) _).other (a := ⟨d4, k, none⟩) (by show d4 ≠ _; omega) _
        · have := (((a4.other (a := ⟨w.heap.size, k, none⟩) (by show w.heap.size ≠ _; omega) (.string (S.ID k))).other (a := ⟨d1, k, none⟩) (by show d1 ≠ _; omega) (encI (S.B k))).other (a := ⟨d2, k, none⟩) (by show d2 ≠ _; omega) (encI (S.A k))).set k (encI (S.R k))
          rw [fillC_set] at this
          exact this.other (a := ⟨d4, k, none⟩) (by show d4 ≠ _; omega) _
        · have := ((((a5.other (a := ⟨w.heap.size, k, none⟩) (by show w.heap.size ≠ _; omega) (.string (S.ID k))).other (a := ⟨d1, k, none⟩) (by show d1 ≠ _; omega) (encI (S.B k))).other (a := ⟨d2, k, none⟩) (by show d2 ≠ _; omega) (encI (S.A k))).other (a := ⟨d3, k, none⟩) (by show d3 ≠ _; omega) (encI (S.R k))).set k (.string (S.P k))
          rw [fillC_set] at this
          exact this
      case measure => simp [intOf]; omega
    · have hkm : k = m := by omega
      subst hkm
      have hsz := hA5.lt
      go_wp2
      refine bodyPost_ret (results_tmp5 rfl _ _ _) rfl ?_
      exact ⟨hK, _, _, _, _, _, rfl, fillC_full hA1 (Nat.le_refl _) (by omega), fillC_full hA2 (by omega) (by omega), fillC_full hA3 (by omega) (by omega), fillC_full hA4 (by omega) (by omega), fillC_full hA5 (by omega) hsz⟩
end Go.Proofs.Qxb6619702a
