import Derived.Test.Qxb6617947aLzA
import Derived.Laws.Bits64b
/-! Lengths: the whole. -/
namespace Go.Proofs.Qxb6617947a
open Go.RowKit
set_option linter.unusedVariables false
set_option linter.unusedSimpArgs false

theorem own_new1 (w : World) (v : Value) (T : TypeId) : Own (w.alloc (.cells #[v] T)) w.heap.size 1 (fun _ => v) := Own.rep (n := 1) (Blk.new w T [v])
theorem getD_snoc (l : List Nat) (x t : Nat) : (l ++ [x]).getD t 0 = if t = l.length then x else l.getD t 0 := by
  simp only [List.getD_eq_getElem?_getD]
  by_cases h : t = l.length
  · subst h; simp
  · rw [if_neg h]
    rcases Nat.lt_or_ge t l.length with h1 | h1
    · rw [List.getElem?_append_left h1]
    · rw [List.getElem?_eq_none (by simp; omega), List.getElem?_eq_none (by omega)]
theorem key_bits {f s : Nat} (hf : f < 4294967296) (hs : s < 65536) : bits BinOp.or IntKind.u64 (IntKind.u64.wrap ((f : Int) * 65536)) (s : Int) = ((f * 65536 + s : Nat) : Int) := by
  rw [IntKind.wrap_u64, show ((f : Int) * 65536 % 18446744073709551616) = ((f * 65536 : Nat) : Int) by omega, bits_or_u64_nat _ _ (by omega) (by omega)]
  congr 1
  have := Nat.shiftLeft_add_eq_or_of_lt (b := s) (i := 16) (by omega) f
  rw [Nat.shiftLeft_eq] at this
  exact this.symm
theorem key_bits' {f s : Nat} (hf : f < 4294967296) (hs : s < 65536) : bits BinOp.or IntKind.u64 ((f : Int) * 65536) (s : Int) = ((f * 65536 + s : Nat) : Int) := by
  have h := key_bits hf hs
  rwa [IntKind.wrap_u64, show ((f : Int) * 65536 % 18446744073709551616) = (f : Int) * 65536 by omega] at h
theorem sorted_cells (F : Nat → Nat) (m j : Nat) (hj : j < occN F m) :
    Value.int .u64 ((((List.range (occN F m)).map fun t => (((klist F m).getD t 0 : Nat) : Int)).mergeSort fun x y => decide (x ≤ y)).getD j 0) = .int .u64 (Kf F m j : Nat) := by
  have e : ((List.range (occN F m)).map fun t => (((klist F m).getD t 0 : Nat) : Int)) = (klist F m).map fun k : Nat => (k : Int) := by
    apply List.ext_getElem
    · simp [klist_len]
    · intro i h1 h2
      have h3 : i < (klist F m).length := by simpa using h2
      simp [h3]
  rw [e, Kf_int]
  unfold Kf
  have h4 : j < (srt F m).length := by rw [srt_len]; exact hj
  simp [h4]
theorem tail_cells (F : Nat → Nat) (m j : Nat) (hj : occN F m ≤ j) : Value.int .u64 (((klist F m).getD j 0 : Nat) : Int) = .int .u64 (Kf F m j : Nat) := by
  unfold Kf
  have h3 : (klist F m).length ≤ j := by rw [klist_len]; exact hj
  have h4 : (srt F m).length ≤ j := by rw [srt_len]; exact hj
  simp [h3, h4]
theorem wt_sum {F : Nat → Nat} {m : Nat} (hm : m ≤ 512) (hF : ∀ i, i < m → F i < 4294967296) : psum (wtF F m) (occN F m) < 2 ^ 50 := by
  have h1 := psum_le (f := wtF F m) (a := 0) (b := occN F m) (k := 4294967296) (Nat.zero_le _) (fun i _ hi => by
    obtain ⟨a, b, c, d⟩ := Kf_sym (F := F) (m := m) (by omega) hi
    have := hF _ a
    omega)
  have h2 := occN_le F m
  have h3 : (occN F m - 0) * 4294967296 ≤ 512 * 4294967296 := Nat.mul_le_mul_right _ (by omega)
  simp only [psum] at h1
  have : (2 : Nat) ^ 50 = 1125899906842624 := by decide
  omega
set_option maxHeartbeats 4000000 in
set_option maxRecDepth 100000 in
theorem lz0 {fa : Option Addr} {ob m fc L K cap : Nat} {F O : Nat → Nat} {x3 x4 x5 x6 x7 x8 x9 x10 x11 x12 x13 x14 x15 x16 x17 x18 x19 x20 x21 x22 x23 x24 x25 x26 x27 x28 x29 x30 x31 x32 x33 x34 x35 x36 x37 x38 x39 x40 x41 x42 x43 x44 x45 x46 x47 x48 x49 x50 x51 x52 x53 x54 x55 x56 x57 x58 x59 x60 x61 x62 x63 x64 x65 x66 x67 x68 x69 x70 x71 x72 x73 x74 x75 x76 x77 x78 x79 x80 x81 x82 x83 x84 x85 x86 x87 x88 x89 x90 x91 x92 x93 x94 x95 x96 x97 x98 x99 x100 x101 x102 x103 x104 x105 x106 x107 x108 x109 x110 x111 x112 x113 x114 x115 x116 x117 x118 x119 x120 x121 x122 x123 x124 x125 x126 x127 x128 x129 x130 x131 x132 x133 x134 x135 x136 : Value} {w : World}
    (hF : SlF encU32 w 0 w.heap.size fa m F) (ho : Own w ob L (fun j => .int .u8 (O j : Nat))) (hn : Hid (2 ≤ occN F m)) (hm : m ≤ 512) (hmL : m ≤ L) (hcap : L ≤ cap) (hcap2 : cap ≤ 9223372036854775807) (hK : 1 ≤ K) (hK2 : K ≤ 20) (hnK : Hid (occN F m ≤ 2 ^ K)) (hL : L ≤ 1048576) (hFb : Hid (∀ i, i < m → F i < 4294967296)) :
    Code.wp Try.prog (tailF Try.f15 0) (bodyPost Try.prog Try.f15 fun e w' => e = .returned (.tuple #[]) ∧ Keeps (fun b => b = ob) w w' ∧ Own w' ob L (fun j => .int .u8 (outF (clr O m) (symF F m) (occN F m) (lv (wtF F m) (occN F m) K) j : Nat))) ⟨#[.slice fa m fc, .slice (some ⟨ob, 0, none⟩) L cap, .int .i64 (K : Nat), x3, x4, x5, x6, x7, x8, x9, x10, x11, x12, x13, x14, x15, x16, x17, x18, x19, x20, x21, x22, x23, x24, x25, x26, x27, x28, x29, x30, x31, x32, x33, x34, x35, x36, x37, x38, x39, x40, x41, x42, x43, x44, x45, x46, x47, x48, x49, x50, x51, x52, x53, x54, x55, x56, x57, x58, x59, x60, x61, x62, x63, x64, x65, x66, x67, x68, x69, x70, x71, x72, x73, x74, x75, x76, x77, x78, x79, x80, x81, x82, x83, x84, x85, x86, x87, x88, x89, x90, x91, x92, x93, x94, x95, x96, x97, x98, x99, x100, x101, x102, x103, x104, x105, x106, x107, x108, x109, x110, x111, x112, x113, x114, x115, x116, x117, x118, x119, x120, x121, x122, x123, x124, x125, x126, x127, x128, x129, x130, x131, x132, x133, x134, x135, x136], []⟩ w := by
  rw [tail15_0]
  go_wp2
  conv => arg 2; whnf
  go_wp2_with (refine wpList_alloc_zero rfl (some 6) rfl 26 rfl (.int .u64 0) 512 (zeroIs_of isU64_eq zero26) ?_)
  intro w1 hB1 hK1
  have hko := Own.rep hB1
  have ho1 := ho.keep hK1 (fun h => h)
  have hF1 := (hF.keep hK1 (Nat.le_refl _) (fun _ _ _ h => h))
  have hol := ho.lt
  have hKo1 : Keeps (fun b => b = ob) w w1 := hK1.mono fun _ _ h => h.elim
  obtain ⟨kb, hkbe⟩ : ∃ kb, w.heap.size = kb := ⟨_, rfl⟩
  rw [hkbe] at hko hF1 hol ⊢
  have HKB : Hid (w.heap.size = kb) := hkbe
  clear hB1 hK1 ho hkbe hF
  go_wp2
  rw [tail15_1]
  go_wp2
  conv => arg 2; whnf
  go_wp2
  rw [tail15_2]
  go_wp2
  conv => arg 2; whnf
  go_wp2
  go_loopw [7, 27] (fun v7 v27 wr => ∃ s : Nat, s ≤ m ∧ v27 = .int .i64 s ∧ v7 = .int .i64 (occN F s : Nat) ∧ Keeps (fun b => b = kb) w1 wr ∧ Own wr kb 512 (fun t => .int .u64 ((klist F s).getD t 0 : Nat))) (fun _ v27 _ => m - (intOf v27).toNat)
  case atStart => exact ⟨0, Nat.zero_le _, rfl, rfl, Keeps.refl _ _, hko⟩
  case round =>
    obtain ⟨s, hs, rfl, rfl, hKs, hOs⟩ := hrel
    have hoc := occN_le F s
    by_cases hlt : s < m
    · obtain ⟨bf, off, rfl, -, hbf, hc⟩ := hF1 (by omega)
      have hcf := (hKs.cell (p := ⟨bf, off + s, none⟩) (World.block_lt_of_cell? w1 _ (hc s hlt)) (fun h => by have h2 : bf = kb := h; omega)).trans (hc s hlt)
      have hcb := hFb.out s hlt
      have hon : occN F (s + 1) = occN F s + (if 0 < F s then 1 else 0) := rfl
      have hkl : klist F (s + 1) = klist F s ++ (if 0 < F s then [keyOf F s] else []) := rfl
      have hll := klist_len F s
      have hky : keyOf F s = F s * 65536 + s := rfl
      obtain ⟨x, hx⟩ : ∃ x, F s = x := ⟨_, rfl⟩
      have hcf' : wr.cell? ⟨bf, off + s, none⟩ = some (.int .u32 (x : Nat)) := by rw [← hx]; exact hcf
      rw [hx] at hcb hon hkl hky
      obtain ⟨q, hq⟩ : ∃ q, occN F s = q := ⟨_, rfl⟩
      rw [hq] at hon hoc hll
      rw [hq]
      have HON : Hid (occN F (s + 1) = q + (if 0 < x then 1 else 0)) := hon
      have HKL : Hid (klist F (s + 1) = klist F s ++ (if 0 < x then [keyOf F s] else [])) := hkl
      have HLL : Hid ((klist F s).length = q) := hll
      have HKY : Hid (keyOf F s = x * 65536 + s) := hky
      clear hcf hc hx hq hon hkl hll hky
      by_cases hx0 : 0 < x
      · have hx' : (x : Int) > 0 := by omega
        have hcq := hOs.cell q (by omega)
        have hfq := hOs.free q
        have hq0 : (0 : Int) ≤ (q : Int) := by omega
        have hq1 : (q : Int) < 512 := by omega
        go_wp2
        refine ⟨⟨s + 1, by omega, by go_num, by rw [HON.out, if_pos hx0]; go_num, hKs.setCell (p := ⟨kb, q, none⟩) rfl _, ?_⟩, by simp [intOf]; omega⟩
        refine (hOs.set (i := q) (by omega) _).congr fun t _ => ?_
        rw [HKL.out, if_pos hx0, getD_snoc, HLL.out, HKY.out]
        unfold updV
        by_cases ht : t = q
        · rw [if_pos ht, if_pos ht]
          first | rw [key_bits hcb (by omega)] | rw [key_bits' hcb (by omega)]
        · rw [if_neg ht, if_neg ht]
      · have hx' : ¬ (x : Int) > 0 := by omega
        go_wp2
        refine ⟨⟨s + 1, by omega, by go_num, by rw [HON.out, if_neg hx0]; go_num, hKs, ?_⟩, by simp [intOf]; omega⟩
        rw [HKL.out, if_neg hx0, List.append_nil]
        exact hOs
    · obtain rfl : s = m := by omega
      have ho2 := ho1.keep hKs (fun h => by omega)
      have hK2o := keeps_new hKo1 hKs (fun b hb => by have := HKB.out; omega)
      obtain ⟨n, hne⟩ : ∃ n, occN F s = n := ⟨_, rfl⟩
      have HNE : Hid (occN F s = n) := hne
      have hn2 : n ≤ 512 := by omega
      rw [hne]
      have hA0 : (0 : Int) ≤ (n : Int) := by omega
      have hA1 : (n : Int) ≤ 512 := by omega
      have c24 := sort_any (n := n) hOs hn2 (Nat.le_refl _)
      clear hoc hne
      go_wp2
      rw [tail15_9]
      go_wp2
      conv => arg 2; whnf
      go_wp2_with (first | (go_at_call 24; refine c24.mono ?_; rintro e w2 ⟨rfl, hK24, hO24⟩))
      have hk3 : Own w2 kb 512 (fun j => .int .u64 (Kf F s j : Nat)) := hO24.congr fun j _ => by
        have e := HNE.out
        by_cases hj : j < n
        · rw [if_pos hj]
          have h5 := sorted_cells F s j (by omega)
          rw [e] at h5
          exact h5
        · rw [if_neg hj]; exact tail_cells F s j (by omega)
      have ho3 := ho2.keep hK24 (fun h => by omega)
      have hK3 := keeps_new hK2o hK24 (fun b hb => by have := HKB.out; omega)
      clear c24 hO24 hK24 ho2 hK2o hOs hKs ho1 hKo1 hko
      rw [tail15_10]
      go_wp2
      conv => arg 2; whnf
      go_wp2_with (refine wpList_alloc_zero rfl (some 10) rfl 26 rfl (.int .u64 0) 512 (zeroIs_of isU64_eq zero26) ?_)
      intro w4 hB4 hK4
      have hwo := Own.rep hB4
      have hk4 := hk3.keep hK4 (fun h => h)
      have ho4 := ho3.keep hK4 (fun h => h)
      have hkl4 := hk3.lt
      have hol4 := ho3.lt
      have hK4o : Keeps (fun b => b = ob) w w4 := hK3.trans (hK4.mono fun _ _ h => h.elim)
      have hsz4 := hK3.size
      obtain ⟨wb, hwbe⟩ : ∃ wb, w2.heap.size = wb := ⟨_, rfl⟩
      rw [hwbe] at hwo hkl4 hol4 hsz4 ⊢
      clear hB4 hK4 hk3 ho3 hK3 hwbe
      go_wp2
      rw [tail15_11]
      go_wp2
      conv => arg 2; whnf
      go_wp2_with (refine wpList_alloc_zero rfl (some 11) rfl 49 rfl (.int .u16 0) 1024 (zeroIs_of isU16_eq zero49) ?_)
      intro w5 hB5 hK5
      have hpo := Own.rep hB5
      have hk5 := hk4.keep hK5 (fun h => h)
      have ho5 := ho4.keep hK5 (fun h => h)
      have hw5 := hwo.keep hK5 (fun h => h)
      have hwl5 := hwo.lt
      have hK5o : Keeps (fun b => b = ob) w w5 := hK4o.trans (hK5.mono fun _ _ h => h.elim)
      have hsz5 := hK4o.size
      obtain ⟨pb, hpbe⟩ : ∃ pb, w4.heap.size = pb := ⟨_, rfl⟩
      rw [hpbe] at hpo hwl5 hsz5 ⊢
      clear hB5 hK5 hk4 ho4 hwo hK4o hpbe
      go_wp2
      rw [tail15_12]
      go_wp2
      conv => arg 2; whnf
      go_wp2
      have hsn : Own ((w5.alloc (.cells #[.int .i64 0] 3)).alloc (.cells #[.int .i64 0] 3)) w5.heap.size 1 (fun _ => .int .i64 0) := (own_new1 w5 (.int .i64 0) 3).alloc _
      have hqn : Own ((w5.alloc (.cells #[.int .i64 0] 3)).alloc (.cells #[.int .i64 0] 3)) (w5.heap.size + 1) 1 (fun _ => .int .i64 0) := by
        have h5 := own_new1 (w5.alloc (.cells #[.int .i64 0] 3)) (.int .i64 0) 3
        rwa [World.size_alloc] at h5
      have hk6 := (hk5.alloc (.cells #[.int .i64 0] 3)).alloc (.cells #[.int .i64 0] 3)
      have ho6 := (ho5.alloc (.cells #[.int .i64 0] 3)).alloc (.cells #[.int .i64 0] 3)
      have hw6 := (hw5.alloc (.cells #[.int .i64 0] 3)).alloc (.cells #[.int .i64 0] 3)
      have hp6 := (hpo.alloc (.cells #[.int .i64 0] 3)).alloc (.cells #[.int .i64 0] 3)
      have hK6 := (hK5o.alloc (.cells #[.int .i64 0] 3)).alloc (.cells #[.int .i64 0] 3)
      have hpl := hpo.lt
      have hKBe := HKB.out
      have e := HNE.out
      subst e
      have hAsc : Hid (Asc (wtOf (Kf F s)) (occN F s)) := wt_asc
      have hsum : Hid (psum (wtOf (Kf F s)) (occN F s) < 2 ^ 50) := wt_sum hm hFb.out
      have h100 : Hid (ht (wtOf (Kf F s)) (occN F s) 100 = 0) := ht_end hn.out hAsc.out (wt_pos (by omega)) hsum.out
      have hKb : Hid (∀ i, i < occN F s → Kf F s i < 281474976710656) := fun i hi => by
        obtain ⟨a, b, c, d⟩ := Kf_sym (F := F) (m := s) (by omega) hi
        have h8 := hFb.out _ a
        rw [d]
        unfold keyOf
        omega
      have hsym : Hid (∀ i, i < occN F s → symF F s i = Kf F s i % 65536 ∧ symF F s i < s) := fun i hi => ⟨rfl, (Kf_sym (F := F) (m := s) (by omega) hi).1⟩
      exact lzA hK6 hk6 hw6 hp6 hsn hqn ho6 ⟨by omega, by omega, by omega, by omega, by omega⟩ ⟨by omega, by omega, by omega, by omega⟩ ⟨by omega, by omega, by omega⟩ ⟨by omega, by omega, by omega⟩ ⟨by omega, by omega, by omega, by omega⟩
        hn.out hn2 hm hmL hcap hcap2 hK hK2 hnK hL hKb hAsc hsum h100 hsym (sym_inj (by omega))

set_option maxHeartbeats 4000000 in
set_option maxRecDepth 100000 in
/-- Lengths sets the lengths. -/
theorem lengths_any {fa : Option Addr} {ob m fc L K cap : Nat} {F O : Nat → Nat} {w : World} (hF : SlF encU32 w 0 w.heap.size fa m F) (ho : Own w ob L (fun j => .int .u8 (O j : Nat))) (hn : Hid (2 ≤ occN F m)) (hm : m ≤ 512) (hmL : m ≤ L) (hcap : L ≤ cap) (hcap2 : cap ≤ 9223372036854775807) (hK : 1 ≤ K) (hK2 : K ≤ 20) (hnK : Hid (occN F m ≤ 2 ^ K)) (hL : L ≤ 1048576) (hFb : Hid (∀ i, i < m → F i < 4294967296)) :
    Calls Try.prog 15 #[.slice fa m fc, .slice (some ⟨ob, 0, none⟩) L cap, .int .i64 (K : Nat)] w fun e w' => e = .returned (.tuple #[]) ∧ Keeps (fun b => b = ob) w w' ∧ Own w' ob L (fun j => .int .u8 (outF (clr O m) (symF F m) (occN F m) (lv (wtF F m) (occN F m) K) j : Nat)) := by
  refine calls_of_wp Try.func15 body15 ?_
  simp only [Try.ntmps15, List.size_toArray, List.length_cons, List.length_nil, Nat.reduceAdd, Nat.reduceSub, Array.replicate_succ,
    Array.replicate_zero, List.push_toArray, List.append_toArray, List.nil_append, List.cons_append]
  exact lz0 hF ho hn hm hmL hcap hcap2 hK hK2 hnK hL hFb

end Go.Proofs.Qxb6617947a
