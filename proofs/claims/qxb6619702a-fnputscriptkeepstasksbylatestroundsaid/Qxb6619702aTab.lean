import Derived.Test.Qxb6619702aLeaf
import Derived.Deep.AppendLies
import Derived.Test.Qxb6619702aHeld
import Derived.RegionTactic
import Derived.NoCompiler
/-! The table: its slots' cells; the walk of ZZNewTable. -/
namespace Go.Proofs.Qxb6619702a
open Go.RowKit

structure Slots where
  R : Nat → Int
  P : Nat → ByteArray
  ID : Nat → ByteArray
  B : Nat → Int
  A : Nat → Int

def slotC (S : Slots) (j : Nat) : List Value :=
  [.int .i64 (S.R j), .string (S.P j), .float .f64 0, .int .i64 0, .int .i64 0, .int .i64 0, .int .i64 0, .string ⟨#[]⟩, .slice none 0 0, .string (S.ID j), .int .i64 (S.B j), .int .i64 (S.A j)]
theorem slotC_length (S : Slots) (j : Nat) : (slotC S j).length = 12 := rfl
theorem slotC_one (S : Slots) (j : Nat) : ∀ u ∈ slotC S j, u.oneCell' = true := by
  intro u hu
  simp only [slotC, List.mem_cons, List.not_mem_nil, or_false] at hu
  rcases hu with h | h | h | h | h | h | h | h | h | h | h | h <;> (rw [h]; rfl)
def cellsS (n : Nat) (S : Slots) : List Value := (List.range n).flatMap (slotC S)
theorem cellsS_succ (n : Nat) (S : Slots) : cellsS (n + 1) S = cellsS n S ++ slotC S n := by simp [cellsS, List.range_succ, List.flatMap_append]
theorem cellsS_length (n : Nat) (S : Slots) : (cellsS n S).length = n * 12 := by
  induction n with
  | zero => rfl
  | succ n ih => rw [cellsS_succ, List.length_append, ih, slotC_length]; omega
theorem cellsS_get {n : Nat} (S : Slots) {j i : Nat} (hj : j < n) (hi : i < 12) : (cellsS n S)[j * 12 + i]? = (slotC S j)[i]? := by
  induction n with
  | zero => omega
  | succ n ih =>
    rw [cellsS_succ]
    by_cases h : j < n
    · rw [List.getElem?_append_left (by rw [cellsS_length]; omega)]
      exact ih h
    · have : j = n := by omega
      subst this
      rw [List.getElem?_append_right (by rw [cellsS_length]; omega), cellsS_length]
      congr 1; omega
theorem cellsS_congr {n : Nat} {S S' : Slots} (h : ∀ j, j < n → slotC S j = slotC S' j) : cellsS n S = cellsS n S' := by
  induction n with
  | zero => rfl
  | succ n ih => rw [cellsS_succ, cellsS_succ, ih (fun j hj => h j (by omega)), h n (by omega)]
/-- One cell of one slot is turned. -/
theorem cellsS_set {n : Nat} {S S' : Slots} {j i : Nat} {v : Value} (hj : j < n) (hi : i < 12) (h1 : ∀ k, k < n → k ≠ j → slotC S' k = slotC S k) (h2 : slotC S' j = (slotC S j).set i v) :
    (cellsS n S).set (j * 12 + i) v = cellsS n S' := by
  induction n with
  | zero => omega
  | succ n ih =>
    rw [cellsS_succ, cellsS_succ]
    by_cases h : j < n
    · rw [List.set_append_left _ _ (by rw [cellsS_length]; omega), ih h (fun k hk hn => h1 k (by omega) hn), h1 n (by omega) (by omega)]
    · have : j = n := by omega
      subst this
      rw [List.set_append_right _ _ (by rw [cellsS_length]; omega), cellsS_length, h2]
      have e : j * 12 + i - j * 12 = i := by omega
      rw [e, cellsS_congr (fun k hk => (h1 k (by omega) (by omega)).symm)]

theorem Try.info65 : (Try.prog.info? 65).map (fun i => (i.zero, i.size, i.bytes)) = some (some (.agg #[.int .i64 0, .string ⟨#[]⟩, .float .f64 0, .int .i64 0, .int .i64 0, .int .i64 0, .int .i64 0, .string ⟨#[]⟩, .slice none 0 0, .string ⟨#[]⟩, .int .i64 0, .int .i64 0]), 12, 136) := by kernel_rfl

set_option maxHeartbeats 4000000 in
theorem newTable_any (a0 a1 a2 a3 af : Option Addr) (n c c1 c2 c3 nf cf hi0 hi1 hi2 hi3 : Nat) (ix : Option Nat) (ID : Nat → ByteArray) (B A R : Nat → Int) (w : World) (hn : n ≤ 1048576)
    (h0 : SlF Value.string w 0 hi0 a0 n ID) (h1 : SlF encI w 0 hi1 a1 n B) (h2 : SlF encI w 0 hi2 a2 n A) (h3 : SlF encI w 0 hi3 a3 n R)
    (k0 : hi0 ≤ w.heap.size) (k1 : hi1 ≤ w.heap.size) (k2 : hi2 ≤ w.heap.size) (k3 : hi3 ≤ w.heap.size) :
    Calls Try.prog 16 #[.slice a0 n c, .slice a1 n c1, .slice a2 n c2, .slice a3 n c3, .slice af nf cf, .map ix] w fun e w' =>
      e = .returned (.pointer (some ⟨w.heap.size, 0, none⟩)) ∧ Keeps Nob w w' ∧ ∃ v, Blk w' w.heap.size 63 [v, .slice af nf cf, .map ix] ∧ w'.ownsRow (w.heap.size + 1) 65 12 v n (cellsS n ⟨R, fun _ => ⟨#[]⟩, ID, B, A⟩) ∧ (n = 0 → v = .slice none 0 0) := by
  go_enter Try.func16, Try.ntmps16
  go_wp2
  have hT0 := Blk.new w 63 [.slice none 0 0, .slice af nf cf, .map ix]
  have hK0 := (Keeps.refl Nob w).alloc (.cells #[.slice none 0 0, .slice af nf cf, .map ix] 63)
  generalize hw1 : w.alloc (.cells #[.slice none 0 0, .slice af nf cf, .map ix] 63) = w1 at hK0
  have hT1 : Blk w1 w.heap.size 63 [.slice none 0 0, .slice af nf cf, .map ix] := by rw [← hw1]; exact hT0
  clear hT0 hw1
  obtain ⟨i0, hi, hz0, hz1, hz2⟩ := info_parts Try.info65
  go_loopw [21] (fun i wr => ∃ (k : Nat) (v : Value), k ≤ n ∧ i = .int .i64 k ∧ Blk wr w.heap.size 63 [v, .slice af nf cf, .map ix] ∧ wr.ownsRow (w.heap.size + 1) 65 12 v k (cellsS k ⟨R, fun _ => ⟨#[]⟩, ID, B, A⟩) ∧ Keeps Nob w wr ∧ w.heap.size < wr.heap.size ∧ (k = 0 → v = .slice none 0 0)) (fun i _ => n - (intOf i).toNat)
  case atStart => exact ⟨0, _, Nat.zero_le _, rfl, hT1, World.ownsRow_nil _ _ _ _, hK0, hT1.lt, fun _ => rfl⟩
  case round =>
    clear hT1 hK0
    obtain ⟨k, v, hk, rfl, hT, hown, hK, hs, hv0⟩ := hrel
    have hv0 : Hid (k = 0 → v = .slice none 0 0) := hv0
    by_cases hlt : k < n
    · obtain ⟨b0, o0, rfl, -, hb0, hI⟩ := h0 (by omega)
      obtain ⟨b1, o1, rfl, -, hb1, hB⟩ := h1 (by omega)
      obtain ⟨b2, o2, rfl, -, hb2, hA⟩ := h2 (by omega)
      obtain ⟨b3, o3, rfl, -, hb3, hR⟩ := h3 (by omega)
      have hIk := (hK.cell (p := ⟨b0, o0 + k, none⟩) (by show b0 < _; omega) (fun h => h)).trans (hI k hlt)
      have hBk := (hK.cell (p := ⟨b1, o1 + k, none⟩) (by show b1 < _; omega) (fun h => h)).trans (hB k hlt)
      have hAk := (hK.cell (p := ⟨b2, o2 + k, none⟩) (by show b2 < _; omega) (fun h => h)).trans (hA k hlt)
      have hRk := (hK.cell (p := ⟨b3, o3 + k, none⟩) (by show b3 < _; omega) (fun h => h)).trans (hR k hlt)
      have hc0 : wr.cell? ⟨w.heap.size, 0, none⟩ = some v := by rw [hT.cell]; rfl
      have hf0 := hT.free 0
      clear h0 h1 h2 h3 hI hB hA hR
      go_wp2
      have hv := hown.lt
      have hF : ∀ w2 : World, (∀ q, q ≠ v.ownBlock → ∀ b, some b = q → b < wr.heap.size → w2.heap[b]? = wr.heap[b]?) → Hid (w2.cell? ⟨b0, o0 + k, none⟩ = some (Value.string (ID k)) ∧ w2.cell? ⟨b1, o1 + k, none⟩ = some (encI (B k)) ∧ w2.cell? ⟨b2, o2 + k, none⟩ = some (encI (A k)) ∧ w2.cell? ⟨b3, o3 + k, none⟩ = some (encI (R k)) ∧ w2.cell? ⟨w.heap.size, 0, none⟩ = some v ∧ w2.frozen? ⟨w.heap.size, 0, none⟩ = false) := by
        intro w2 hw
        have go : ∀ b, b ≤ w.heap.size → w2.heap[b]? = wr.heap[b]? := fun b hb => hw (some b) (fun e => by have := (hv b e.symm).1; omega) b rfl (by omega)
        exact ⟨(World.cell?_of_block (a := ⟨b0, o0 + k, none⟩) (go b0 (by omega))).trans hIk, (World.cell?_of_block (a := ⟨b1, o1 + k, none⟩) (go b1 (by omega))).trans hBk, (World.cell?_of_block (a := ⟨b2, o2 + k, none⟩) (go b2 (by omega))).trans hAk, (World.cell?_of_block (a := ⟨b3, o3 + k, none⟩) (go b3 (by omega))).trans hRk,
          (World.cell?_of_block (a := ⟨w.heap.size, 0, none⟩) (go _ (Nat.le_refl _))).trans hc0, (World.frozen?_of_block (a := ⟨w.heap.size, 0, none⟩) (go _ (Nat.le_refl _))).trans hf0⟩
      clear hIk hBk hAk hRk
      have hS0 : (fun w' : World => w'.cell? ⟨b0, o0 + k, none⟩ = some (Value.string (ID k)) ∧ w'.cell? ⟨b1, o1 + k, none⟩ = some (encI (B k)) ∧ w'.cell? ⟨b2, o2 + k, none⟩ = some (encI (A k)) ∧ w'.cell? ⟨b3, o3 + k, none⟩ = some (encI (R k)) ∧ w'.cell? ⟨w.heap.size, 0, none⟩ = some v) wr.drew := by
        obtain ⟨f1, f2, f3, f4, f5, _⟩ := (hF wr.drew (fun _ _ _ _ _ => rfl)).out
        exact ⟨f1, f2, f3, f4, f5⟩
      refine wp_region_T (by kernel_rfl) (fun w' : World => w'.cell? ⟨b0, o0 + k, none⟩ = some (Value.string (ID k)) ∧ w'.cell? ⟨b1, o1 + k, none⟩ = some (encI (B k)) ∧ w'.cell? ⟨b2, o2 + k, none⟩ = some (encI (A k)) ∧ w'.cell? ⟨b3, o3 + k, none⟩ = some (encI (R k)) ∧ w'.cell? ⟨w.heap.size, 0, none⟩ = some v) 27 ?_
      change wpAnyT _ _ _ _ _ _ _ _ _ wr.drew
      clear hc0
      refine wpAnyT_take (i := 0) 0 (v := ?_) rfl (by kernel_rfl) (by kernel_rfl) (by kernel_rfl) (by kernel_rfl) (fun _ _ _ h => h) hS0 (Or.inl ⟨by rfl, ?_⟩) ?_
      rotate_left
      · rintro w' ⟨s1, s2, s3, s4, s5⟩
        go_simp
        with_reducible rfl
      refine wpAnyT_take (i := 1) 1 (v := ?_) rfl (by kernel_rfl) (by kernel_rfl) (by kernel_rfl) (by kernel_rfl) (fun _ _ _ h => h) hS0 (Or.inl ⟨by rfl, ?_⟩) ?_
      rotate_left
      · rintro w' ⟨s1, s2, s3, s4, s5⟩
        go_simp
        with_reducible rfl
      refine wpAnyT_take (i := 2) 2 (v := ?_) rfl (by kernel_rfl) (by kernel_rfl) (by kernel_rfl) (by kernel_rfl) (fun _ _ _ h => h) hS0 (Or.inl ⟨by rfl, ?_⟩) ?_
      rotate_left
      · rintro w' ⟨s1, s2, s3, s4, s5⟩
        go_simp
        with_reducible rfl
      refine wpAnyT_take (i := 3) 3 (v := ?_) rfl (by kernel_rfl) (by kernel_rfl) (by kernel_rfl) (by kernel_rfl) (fun _ _ _ h => h) hS0 (Or.inl ⟨by rfl, ?_⟩) ?_
      rotate_left
      · rintro w' ⟨s1, s2, s3, s4, s5⟩
        go_simp
        with_reducible rfl
      refine wpAnyT_take (i := 4) 4 (v := ?_) rfl (by kernel_rfl) (by kernel_rfl) (by kernel_rfl) (by kernel_rfl) (fun _ _ _ h => h) hS0 (Or.inl ⟨by rfl, ?_⟩) ?_
      rotate_left
      · rintro w' ⟨s1, s2, s3, s4, s5⟩
        go_simp
        with_reducible rfl
      refine wpAnyT_take (i := 5) 5 (v := ?_) rfl (by kernel_rfl) (by kernel_rfl) (by kernel_rfl) (by kernel_rfl) (fun _ _ _ h => h) hS0 (Or.inl ⟨by rfl, ?_⟩) ?_
      rotate_left
      · rintro w' ⟨s1, s2, s3, s4, s5⟩
        go_simp
        with_reducible rfl
      refine wpAnyT_take (i := 6) 6 (v := ?_) rfl (by kernel_rfl) (by kernel_rfl) (by kernel_rfl) (by kernel_rfl) (fun _ _ _ h => h) hS0 (Or.inl ⟨by rfl, ?_⟩) ?_
      rotate_left
      · rintro w' ⟨s1, s2, s3, s4, s5⟩
        go_simp
        with_reducible rfl
      refine wpAnyT_take (i := 7) 7 (v := ?_) rfl (by kernel_rfl) (by kernel_rfl) (by kernel_rfl) (by kernel_rfl) (fun _ _ _ h => h) hS0 (Or.inl ⟨by rfl, ?_⟩) ?_
      rotate_left
      · rintro w' ⟨s1, s2, s3, s4, s5⟩
        go_simp
        with_reducible rfl
      refine wpAnyT_take (i := 8) 8 (v := ?_) rfl (by kernel_rfl) (by kernel_rfl) (by kernel_rfl) (by kernel_rfl) (fun _ _ _ h => h) hS0 (Or.inl ⟨by rfl, ?_⟩) ?_
      rotate_left
      · rintro w' ⟨s1, s2, s3, s4, s5⟩
        go_simp
        with_reducible rfl
      refine wpAnyT_take (i := 9) 9 (v := ?_) rfl (by kernel_rfl) (by kernel_rfl) (by kernel_rfl) (by kernel_rfl) (fun _ _ _ h => h) hS0 (Or.inl ⟨by rfl, ?_⟩) ?_
      rotate_left
      · rintro w' ⟨s1, s2, s3, s4, s5⟩
        go_simp
        with_reducible rfl
      refine wpAnyT_take (i := 10) 10 (v := ?_) rfl (by kernel_rfl) (by kernel_rfl) (by kernel_rfl) (by kernel_rfl) (fun _ _ _ h => h) hS0 (Or.inl ⟨by rfl, ?_⟩) ?_
      rotate_left
      · rintro w' ⟨s1, s2, s3, s4, s5⟩
        go_simp
        with_reducible rfl
      refine wpAnyT_take (i := 11) 11 (v := ?_) rfl (by kernel_rfl) (by kernel_rfl) (by kernel_rfl) (by kernel_rfl) (fun _ _ _ h => h) hS0 (Or.inl ⟨by rfl, ?_⟩) ?_
      rotate_left
      · rintro w' ⟨s1, s2, s3, s4, s5⟩
        go_simp
        with_reducible rfl
      refine wpAnyT_take (i := 12) 12 (v := ?_) rfl (by kernel_rfl) (by kernel_rfl) (by kernel_rfl) (by kernel_rfl) (fun _ _ _ h => h) hS0 (Or.inl ⟨by rfl, ?_⟩) ?_
      rotate_left
      · rintro w' ⟨s1, s2, s3, s4, s5⟩
        go_simp
        with_reducible rfl
      refine wpAnyT_take (i := 13) 13 (v := ?_) rfl (by kernel_rfl) (by kernel_rfl) (by kernel_rfl) (by kernel_rfl) (fun _ _ _ h => h) hS0 (Or.inl ⟨by rfl, ?_⟩) ?_
      rotate_left
      · rintro w' ⟨s1, s2, s3, s4, s5⟩
        go_simp
        with_reducible rfl
      refine wpAnyT_take (i := 14) 14 (v := ?_) rfl (by kernel_rfl) (by kernel_rfl) (by kernel_rfl) (by kernel_rfl) (fun _ _ _ h => h) hS0 (Or.inl ⟨by rfl, ?_⟩) ?_
      rotate_left
      · rintro w' ⟨s1, s2, s3, s4, s5⟩
        go_simp
        with_reducible rfl
      refine wpAnyT_take (i := 15) 15 (v := ?_) rfl (by kernel_rfl) (by kernel_rfl) (by kernel_rfl) (by kernel_rfl) (fun _ _ _ h => h) hS0 (Or.inl ⟨by rfl, ?_⟩) ?_
      rotate_left
      · rintro w' ⟨s1, s2, s3, s4, s5⟩
        go_simp
        with_reducible rfl
      refine wpAnyT_take (i := 16) 16 (v := ?_) rfl (by kernel_rfl) (by kernel_rfl) (by kernel_rfl) (by kernel_rfl) (fun _ _ _ h => h) hS0 (Or.inl ⟨by rfl, ?_⟩) ?_
      rotate_left
      · rintro w' ⟨s1, s2, s3, s4, s5⟩
        go_simp
        with_reducible rfl
      refine wpAnyT_take (i := 17) 17 (v := ?_) rfl (by kernel_rfl) (by kernel_rfl) (by kernel_rfl) (by kernel_rfl) (fun _ _ _ h => h) hS0 (Or.inl ⟨by rfl, ?_⟩) ?_
      rotate_left
      · rintro w' ⟨s1, s2, s3, s4, s5⟩
        go_simp
        with_reducible rfl
      refine wpAnyT_take (i := 18) 18 (v := ?_) rfl (by kernel_rfl) (by kernel_rfl) (by kernel_rfl) (by kernel_rfl) (fun _ _ _ h => h) hS0 (Or.inl ⟨by rfl, ?_⟩) ?_
      rotate_left
      · rintro w' ⟨s1, s2, s3, s4, s5⟩
        go_simp
        with_reducible rfl
      refine wpAnyT_take (i := 19) 19 (v := ?_) rfl (by kernel_rfl) (by kernel_rfl) (by kernel_rfl) (by kernel_rfl) (fun _ _ _ h => h) hS0 (Or.inl ⟨by rfl, ?_⟩) ?_
      rotate_left
      · rintro w' ⟨s1, s2, s3, s4, s5⟩
        go_simp
        with_reducible rfl
      refine wpAnyT_take (i := 20) 20 (v := ?_) rfl (by kernel_rfl) (by kernel_rfl) (by kernel_rfl) (by kernel_rfl) (fun _ _ _ h => h) hS0 (Or.inl ⟨by rfl, ?_⟩) ?_
      rotate_left
      · rintro w' ⟨s1, s2, s3, s4, s5⟩
        go_simp
        with_reducible rfl
      refine wpAnyT_take (i := 21) 21 (v := ?_) rfl (by kernel_rfl) (by kernel_rfl) (by kernel_rfl) (by kernel_rfl) (fun _ _ _ h => h) hS0 (Or.inl ⟨by rfl, ?_⟩) ?_
      rotate_left
      · rintro w' ⟨s1, s2, s3, s4, s5⟩
        go_simp
        with_reducible rfl
      refine wpAnyT_take (i := 22) 22 (v := ?_) rfl (by kernel_rfl) (by kernel_rfl) (by kernel_rfl) (by kernel_rfl) (fun _ _ _ h => h) hS0 (Or.inl ⟨by rfl, ?_⟩) ?_
      rotate_left
      · rintro w' ⟨s1, s2, s3, s4, s5⟩
        go_simp
        with_reducible rfl
      refine wpAnyT_one (i := 23) (by kernel_rfl) (wpOp_step rfl (fun K hK => ?_))
      go_simp
      refine hK _ _ ⟨fun _ => ?_, ?_⟩
      · obtain ⟨f1, f2, f3, f4, f5, _⟩ := (hF (wr.drew.alloc (.cells (slotC ⟨R, fun _ => ⟨#[]⟩, ID, B, A⟩ k).toArray 65)) (fun _ _ _ _ hb => Below.heap_alloc _ _ _ hb)).out
        exact ⟨f1, f2, f3, f4, f5⟩
      clear hK K
      refine wpAnyT_one (i := 24) (by kernel_rfl) (wpOp_step rfl (fun K hK' => ?_))
      refine step_append_lies _ rfl (.tmp 28) (.tmp 47) 61 rfl (w.heap.size + 1) 65 i0 _ 12 136 Try.underlying61 hi hz0 hz1 hz2 rfl (by decide) v k _ (by simp [Act.eval]) (hown.drew.alloc _) ⟨wr.heap.size, 0, none⟩ 1 1 (slotC ⟨R, fun _ => ⟨#[]⟩, ID, B, A⟩ k) (by simp [Act.eval]) rfl (news_new _ _ _ (by simp)) (slotC_one _ _) (by decide) (by unfold maxLen; omega) (by omega) (by simp; omega) _ rfl ?_
      intro g cap w2 hown2 hgrow2 hat2 hg2
      have hF2 := hF w2 (fun q hq b hb hbl => (hgrow2.block b (by simp; omega) (hb ▸ hq)).trans (Below.heap_alloc _ _ _ (by simpa using hbl)))
      have hT2 : Blk w2 w.heap.size 63 [v, .slice af nf cf, .map ix] := by
        have e := hgrow2.block w.heap.size (by simp; omega) (fun e => by have := (hv _ e.symm).1; omega)
        unfold Blk at hT ⊢
        rw [e]; exact (Below.heap_alloc _ _ _ (by simpa using hs)).trans hT
      have hK2 : Keeps Nob w w2 := (hK.alloc (.cells (slotC ⟨R, fun _ => ⟨#[]⟩, ID, B, A⟩ k).toArray 65)).drew.grown hgrow2 (fun q hq => .inr (by have := (hv q hq).1; omega))
      have hs2 := hgrow2.size
      simp only [World.size_alloc, World.size_drew] at hs2
      obtain ⟨f1, f2, f3, f4, f5, f6⟩ := hF2
      refine hK' _ _ ⟨fun _ => ⟨f1, f2, f3, f4, f5⟩, ?_⟩
      clear hK' K hF hown hT hK hgrow2 hat2
      refine wpAnyT_one (i := 25) (by kernel_rfl) (wpOp_step rfl (fun K hK' => ?_))
      go_simp
      refine hK' _ _ ⟨fun _ => ⟨f1, f2, f3, f4, f5⟩, ?_⟩
      clear hK' K
      refine wpAnyT_one (i := 26) (by kernel_rfl) (wpOp_step rfl (fun K hK' => ?_))
      go_simp
      refine hK' _ _ ⟨fun _ => ⟨f1, f2, f3, f4, f5⟩, ?_⟩
      clear hK' K
      refine wpAnyT_one (i := 27) (by kernel_rfl) (wpOp_step rfl (fun K hK' => ?_))
      go_simp
      refine hK' _ _ ⟨fun h => absurd rfl h, ?_⟩
      clear hK' K
      refine wpAnyT_done (by kernel_rfl) ?_ _
      have hT3 := hT2.set 0 (.slice (some ⟨g, 0, none⟩) (k + 1) cap)
      have hK3 := hK2.setNew (p := ⟨w.heap.size, 0, none⟩) (Nat.le_refl _) (.slice (some ⟨g, 0, none⟩) (k + 1) cap)
      have hown3 := ownsRow_setCell_below hown2 (a := ⟨w.heap.size, 0, none⟩) (Nat.lt_succ_self _) (.slice (some ⟨g, 0, none⟩) (k + 1) cap)
      clear f1 f2 f3 f4 f5 f6 hT2 hK2 hown2
      go_wp2
      refine ⟨?rel, ?measure⟩
      case rel => exact ⟨k + 1, _, hlt, by go_num, hT3, by rw [cellsS_succ]; exact hown3, hK3, by simp; omega, fun h => absurd h (by omega)⟩
      case measure => simp [intOf]; omega
    · have hkn : k = n := by omega
      subst hkn
      go_wp2
      go_ret
      exact ⟨rfl, hK, v, hT, hown, hv0.out⟩
end Go.Proofs.Qxb6619702a
