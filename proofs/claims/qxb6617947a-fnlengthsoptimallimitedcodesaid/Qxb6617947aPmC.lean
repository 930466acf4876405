import Derived.Test.Qxb6617947aPmD
import Derived.Deep.RegionHeld3
/-! packageMerge: the first list. -/
namespace Go.Proofs.Qxb6617947a
open Go.RowKit
set_option linter.unusedVariables false
set_option linter.unusedSimpArgs false

def newsOf (Wt : Nat → Nat) (n : Nat) : List Value := (List.range n).map fun j => .int .u64 (Wt j : Nat)
theorem newsOf_len (Wt : Nat → Nat) (n : Nat) : (newsOf Wt n).length = n := by simp [newsOf]
theorem newsOf_one (Wt : Nat → Nat) (n : Nat) : ∀ u ∈ newsOf Wt n, u.oneCell' = true := fun u hu => by
  obtain ⟨j, _, rfl⟩ := List.mem_map.1 hu; rfl
theorem newsOf_cells {w : World} {wb n m : Nat} {Wt : Nat → Nat} (h : Own w wb m (fun j => .int .u64 (Wt j))) (hn : n ≤ m) : ∀ j u, (newsOf Wt n)[j]? = some u → w.cell? ((⟨wb, 0, none⟩ : Addr).add j) = some u := fun j u hj => by
  rw [Addr.add_lit, Nat.zero_add]
  have hjn : j < n := by
    rcases Nat.lt_or_ge j n with h | h
    · exact h
    · rw [List.getElem?_eq_none (by rw [newsOf_len]; exact h)] at hj; cases hj
  rw [h.cell j (by omega), ← hj]
  simp [newsOf, hjn]
theorem lists_first {w : World} {lb n : Nat} {Wt : Nat → Nat} (h : Own w lb 2048 (fun _ => .int .u64 0)) (hn : n ≤ 512) : Own (w.setCells lb (0 + 0) (newsOf Wt n)) lb 2048 (fun j => .int .u64 ((if j < n then Wt j else 0 : Nat))) := by
  refine (h.setCells (newsOf Wt n) (0 + 0) (by rw [newsOf_len]; omega)).congr fun j _ => ?_
  rw [newsOf_len]
  by_cases hj : j < n
  · rw [if_pos (by omega), if_pos hj]
    simp [newsOf, hj]
  · rw [if_neg (by omega), if_neg hj]
    rfl
set_option maxHeartbeats 4000000 in
set_option maxRecDepth 100000 in
theorem pmC {w0 : World} {kb ob wb ib lb n L K cap : Nat} {Kf O sym wt Wt : Nat → Nat} {x4 x5 x6 x7 x9 x10 x13 x14 x15 x16 x17 x18 x19 x20 x21 x22 x23 x24 x25 x26 x27 x28 x29 x30 x31 x32 x33 x34 x35 x36 x37 x38 x39 x40 x41 x42 x43 x44 x45 x46 x47 x48 x49 x50 x51 x52 x53 x54 x55 x56 x57 x58 x59 x60 x61 x62 x63 x64 x65 x66 x67 x68 x69 x70 x71 x72 x73 x74 x75 x76 x77 x78 x79 x80 x81 x82 x83 x84 x85 x86 x87 x88 x89 x90 x91 x92 x93 x94 x95 x96 x97 x98 x99 x100 x101 x102 x103 x104 x105 x106 x107 x108 x109 x110 x111 x112 x113 x114 x115 x116 x117 x118 x119 x120 x121 x122 x123 x124 x125 x126 x127 x128 x129 x130 x131 x132 x133 x134 x135 x136 x137 x138 x139 x140 x141 x142 x143 x144 x145 x146 x147 x148 x149 x150 x151 x152 x153 x154 x155 x156 x157 x158 x159 x160 x161 x162 x163 x164 x165 x166 : Value} {w : World}
    (hKw : Keeps (fun b => b = ob) w0 w) (hk : Own w kb 512 (fun j => .int .u64 (Kf j))) (hw : Own w wb 512 (fun j => .int .u64 (Wt j))) (hi : Own w ib 20480 (fun _ => .bool false)) (hl : Own w lb 2048 (fun _ => .int .u64 0)) (ho : Own w ob L (fun j => .int .u8 (O j)))
    (d1 : kb ≠ ob) (d2 : ib ≠ ob) (d3 : kb ≠ lb ∧ kb ≠ ib ∧ ob ≠ lb ∧ wb ≠ lb ∧ wb ≠ ib) (hne : lb ≠ ib) (hlb : w0.heap.size ≤ lb) (hib : w0.heap.size ≤ ib) (hn : 2 ≤ n) (hn2 : n ≤ 512) (hK : 1 ≤ K) (hK2 : K ≤ 20) (hnK : Hid (n ≤ 2 ^ K)) (hL : L ≤ 1048576)
    (hWt : Hid (∀ j, j < n → Wt j = wt j)) (hwb : Hid (∀ i, i < n → wt i ≤ 4294967296))
    (hsym : Hid (∀ i, i < n → sym i = Kf i % 65536 ∧ sym i < L ∧ O (sym i) = 0)) (hinj : Hid (∀ i j, i < n → j < n → sym i = sym j → i = j)) :
    Code.wp Try.prog (tailF Try.f23 8) (bodyPost Try.prog Try.f23 fun e w' => e = .returned (.tuple #[]) ∧ Keeps (fun b => b = ob) w0 w' ∧ Own w' ob L (fun j => .int .u8 (outF O sym n (lenOf (sk wt n K) K) j : Nat))) ⟨#[.pointer (some ⟨kb, 0, none⟩), .int .i64 (n : Nat), .slice (some ⟨ob, 0, none⟩) L cap, .int .i64 (K : Nat), x4, x5, x6, x7, .pointer (some ⟨wb, 0, none⟩), x9, x10, .pointer (some ⟨ib, 0, none⟩), .pointer (some ⟨lb, 0, none⟩), x13, x14, x15, x16, x17, x18, x19, x20, x21, x22, x23, x24, x25, x26, x27, x28, x29, x30, x31, x32, x33, x34, x35, x36, x37, x38, x39, x40, x41, x42, x43, x44, x45, x46, x47, x48, x49, x50, x51, x52, x53, x54, x55, x56, x57, x58, x59, x60, x61, x62, x63, x64, x65, x66, x67, x68, x69, x70, x71, x72, x73, x74, x75, x76, x77, x78, x79, x80, x81, x82, x83, x84, x85, x86, x87, x88, x89, x90, x91, x92, x93, x94, x95, x96, x97, x98, x99, x100, x101, x102, x103, x104, x105, x106, x107, x108, x109, x110, x111, x112, x113, x114, x115, x116, x117, x118, x119, x120, x121, x122, x123, x124, x125, x126, x127, x128, x129, x130, x131, x132, x133, x134, x135, x136, x137, x138, x139, x140, x141, x142, x143, x144, x145, x146, x147, x148, x149, x150, x151, x152, x153, x154, x155, x156, x157, x158, x159, x160, x161, x162, x163, x164, x165, x166], []⟩ w := by
  rw [tail23_8]
  go_wp2
  conv => arg 2; whnf
  go_wp2
  have hA0 : (0 : Int) ≤ (n : Int) := by omega
  have hA1 : (n : Int) ≤ 512 := by omega
  refine wp_region_held_drew (S := (fun _ => True)) (by kernel_rfl) ?_ (fun hHeld => ?_)
  · exact trivial
  refine wpAnyH_take (i := 0) (oi := _) (v := ?_) rfl (by kernel_rfl) (by kernel_rfl) (by kernel_rfl) (fun _ _ _ h => h) (Or.inl ⟨by rfl, ?_⟩) hHeld ?_
  rotate_left 1
  · intro w hSw; (try dsimp only at hSw); go_simp; (try with_reducible rfl)
  conv => arg 8; whnf
  (try simp only [Act.put, List.setIfInBounds_toArray, List.set_cons_zero, List.set_cons_succ, List.toList_toArray])
  refine wpAnyH_take (i := 1) (oi := _) (v := ?_) rfl (by kernel_rfl) (by kernel_rfl) (by kernel_rfl) (fun _ _ _ h => h) (Or.inl ⟨by rfl, ?_⟩) hHeld ?_
  rotate_left 1
  · intro w hSw; (try dsimp only at hSw); go_simp; (try with_reducible rfl)
  conv => arg 8; whnf
  (try simp only [Act.put, List.setIfInBounds_toArray, List.set_cons_zero, List.set_cons_succ, List.toList_toArray])
  refine wpAnyH_take (i := 2) (oi := _) (v := ?_) rfl (by kernel_rfl) (by kernel_rfl) (by kernel_rfl) (fun _ _ _ h => h) (Or.inl ⟨by rfl, ?_⟩) hHeld ?_
  rotate_left 1
  · intro w hSw; (try dsimp only at hSw); go_simp; (try with_reducible rfl)
  conv => arg 8; whnf
  (try simp only [Act.put, List.setIfInBounds_toArray, List.set_cons_zero, List.set_cons_succ, List.toList_toArray])
  refine wpAnyH_take (i := 3) (oi := _) (v := ?_) rfl (by kernel_rfl) (by kernel_rfl) (by kernel_rfl) (fun _ _ _ h => h) (Or.inl ⟨by rfl, ?_⟩) hHeld ?_
  rotate_left 1
  · intro w hSw; (try dsimp only at hSw); go_simp; (try with_reducible rfl)
  conv => arg 8; whnf
  (try simp only [Act.put, List.setIfInBounds_toArray, List.set_cons_zero, List.set_cons_succ, List.toList_toArray])
  refine wpAnyH_ready (rs := [4]) (by kernel_rfl) (by simp) ?_
  refine AllReadyH.cons (o := _) rfl (fun K hK => ?_) ?_
  rotate_left 1
  · exact AllReadyH.nil
  rw [if_pos (by rfl)]
  refine wp_append_mid (.tmp 44) (.tmp 46) 44 rfl 24 Try.underlying44 info24 lb 0 0 1024 rfl ⟨wb, 0, none⟩ n 512 rfl (newsOf Wt n) (newsOf_len Wt n) (newsOf_cells hw.drew hn2) (newsOf_one Wt n) (by omega) (hl.drew.there (by omega)) ?_
  refine hK.out _ _ trivial (fun hHeld => ?_)
  clear hK K
  conv => arg 8; whnf
  (try simp only [Act.put, List.setIfInBounds_toArray, List.set_cons_zero, List.set_cons_succ, List.toList_toArray])
  refine wpAnyH_take (i := 5) (oi := _) (v := ?_) rfl (by kernel_rfl) (by kernel_rfl) (by kernel_rfl) (fun _ _ _ h => h) (Or.inl ⟨by rfl, ?_⟩) hHeld ?_
  rotate_left 1
  · intro w hSw; (try dsimp only at hSw); go_simp; (try with_reducible rfl)
  conv => arg 8; whnf
  (try simp only [Act.put, List.setIfInBounds_toArray, List.set_cons_zero, List.set_cons_succ, List.toList_toArray])
  refine wpAnyH_done (by kernel_rfl) ?_ _
  have hl2 := lists_first (Wt := Wt) hl.drew hn2
  have hK1 := setCells_keeps (S := fun b => b = ob) hKw.drew hlb (newsOf Wt n) (0 + 0)
  have hk2 := hk.drew.setCells_other (Ne.symm d3.1) (newsOf Wt n) (0 + 0)
  have hw2 := hw.drew.setCells_other (Ne.symm d3.2.2.2.1) (newsOf Wt n) (0 + 0)
  have hi2 := hi.drew.setCells_other hne (newsOf Wt n) (0 + 0)
  have ho2 := ho.drew.setCells_other (Ne.symm d3.2.2.1) (newsOf Wt n) (0 + 0)
  clear hl hKw hk hw hi ho hHeld
  try simp only [Nat.zero_add] at hl2 hK1 hk2 hw2 hi2 ho2
  try simp only [Nat.zero_add]
  generalize w.drew.setCells lb 0 (newsOf Wt n) = w1 at hl2 hK1 hk2 hw2 hi2 ho2 ⊢
  go_wp2
  rw [tail23_9]
  go_wp2
  conv => arg 2; whnf
  go_wp2
  go_loopw [49] (fun v49 wr => ∃ i : Nat, i ≤ n ∧ v49 = .int .i64 i ∧ Keeps (fun b => b = ib) w1 wr ∧ Own wr ib 20480 (fun x => .bool (decide (x < i)))) (fun v49 _ => n - (intOf v49).toNat)
  case atStart => exact ⟨0, Nat.zero_le _, rfl, Keeps.refl _ _, hi2.congr fun j _ => by simp⟩
  case round =>
    obtain ⟨i, hi3, rfl, hK5, hO5⟩ := hrel
    by_cases hlt : i < n
    · have hc := hO5.cell i (by omega)
      have hf := hO5.free i
      have hi0 : (0 : Int) ≤ (i : Int) := by omega
      have hi1 : (i : Int) < 1024 := by omega
      go_wp2
      refine ⟨⟨i + 1, by omega, by go_num, hK5.setCell (p := ⟨ib, _, none⟩) rfl _, ?_⟩, by simp [intOf]; omega⟩
      refine (hO5.set (i := i) (by omega) (.bool true)).congr fun x _ => ?_
      unfold updV
      by_cases hx : x = i
      · rw [if_pos hx]; congr 1; simp [hx]
      · rw [if_neg hx]
        show Value.bool (decide (x < i)) = Value.bool (decide (x < i + 1))
        congr 1
        exact decide_eq_decide.2 ⟨fun h => by omega, fun h => by omega⟩
    · obtain rfl : i = n := by omega
      have hk6 := hk2.keep hK5 d3.2.1
      have hw6 := hw2.keep hK5 d3.2.2.2.2
      have hl6 := hl2.keep hK5 hne
      have ho6 := ho2.keep hK5 (Ne.symm d2)
      have hK6 := keeps_new hK1 hK5 (fun b hb => by subst hb; exact hib)
      clear hk2 hw2 hl2 ho2 hK1 hi2
      go_wp2
      exact pmD hK6 hk6 hw6 hO5 hl6 ho6 d1 d2 d3 hne hlb hib hn hn2 hK hK2 hnK hL (fun j hj => by simp [hj]) (fun j hj => by show (if j < _ then _ else _) = _; rw [if_pos hj]; exact hWt.out j hj) hWt hwb hsym hinj

end Go.Proofs.Qxb6617947a
