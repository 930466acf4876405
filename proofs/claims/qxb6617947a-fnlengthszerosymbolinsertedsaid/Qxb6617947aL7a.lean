import Derived.Test.Qxb6617947aL7b
/-! FnLengthsZeroSymbolInserted: the bytes with one more. -/
namespace Go.Proofs.Qxb6617947a
open Go.RowKit
set_option linter.unusedVariables false
set_option linter.unusedSimpArgs false
set_option maxHeartbeats 4000000 in
set_option maxRecDepth 100000 in
theorem l7a4 {w0 : World} {fb gb ab bb lb lo m L cap K p : Nat} {F O : Nat → Nat} {x4 x5 x6 x7 x8 x9 x10 x13 x14 x16 x17 x18 x19 x20 x21 x22 x23 x24 x25 x26 x27 x28 x29 x30 x31 x32 x33 x34 x35 x36 x37 x38 x39 x40 x41 x42 x43 x44 x45 x46 x47 x48 x49 x50 x51 x52 x53 x54 x55 x56 x57 x58 x59 x60 x61 x62 x63 x64 x65 x66 x67 x68 x69 x70 x71 x72 x73 x74 x75 x76 x77 x78 x79 x80 x81 x82 x83 x84 x85 x86 x87 x88 x89 x90 x91 x92 x93 x94 x95 x96 x97 x98 x99 x100 x101 x102 x103 x104 x105 x106 x107 x108 x109 x110 x111 x112 x113 x114 x115 x116 x117 x118 x119 x120 x121 x122 x123 x124 x125 x126 x127 x128 x129 x130 x131 x132 x133 x134 x135 x136 x137 x138 x139 x140 x141 x142 x143 x144 x145 x146 x147 x148 x149 x150 x151 x152 x153 x154 x155 x156 x157 x158 x159 x160 x161 x162 x163 x164 x165 x166 x167 x168 x169 x170 x171 x172 x173 x174 x175 x176 x177 x178 x179 x180 x181 x182 x183 x184 x185 x186 : Value} {w : World}
    (hKw : Keeps Nob w0 w) (hf : Own w fb m (fun j => .int .u32 (F j : Nat))) (hg : Own w gb (m + 1) (fun j => .int .u32 (insF F p j : Nat))) (ha : Own w ab L (fun j => .int .u8 (O j : Nat)))
    (hb : Own w bb (L + 1) (fun j => .int .u8 (if j < p then O j else 0 : Nat))) (d : fb ≠ ab ∧ fb ≠ bb ∧ gb ≠ ab ∧ gb ≠ bb ∧ ab ≠ bb ∧ lb ≠ bb) (dn : w0.heap.size ≤ ab ∧ w0.heap.size ≤ bb) (hcap : L ≤ cap) (hcap2 : cap ≤ 9223372036854775807) (hlc : ∀ j, j < L → w.cell? ⟨lb, lo + j, none⟩ = some (.int .u8 (O j : Nat))) (hm : m ≤ 511) (hmL : m ≤ L) (hK : 1 ≤ K) (hK2 : K ≤ 20) (hL : L ≤ 65536) (hpm : p ≤ m) (hn : Hid (2 ≤ occN F m)) (hnK : Hid (occN F m ≤ 2 ^ K)) (hFb : Hid (∀ i, i < m → F i < 4294967296)) :
    Code.wp Try.prog (tailF Try.f7 35) (bodyPost Try.prog Try.f7 fun e w' => e = .returned (.bool true) ∧ Keeps Nob w0 w') ⟨#[.slice (some ⟨fb, 0, none⟩) m m, .slice (some ⟨lb, lo, none⟩) L cap, .int .i64 (K : Nat), .int .i64 (p : Nat), x4, x5, x6, x7, x8, x9, x10, .slice (some ⟨ab, 0, none⟩) L L, .slice (some ⟨gb, 0, none⟩) (m + 1) (m + 1), x13, x14, .slice (some ⟨bb, 0, none⟩) (L + 1) (L + 1), x16, x17, x18, x19, x20, x21, x22, x23, x24, x25, x26, x27, x28, x29, x30, x31, x32, x33, x34, x35, x36, x37, x38, x39, x40, x41, x42, x43, x44, x45, x46, x47, x48, x49, x50, x51, x52, x53, x54, x55, x56, x57, x58, x59, x60, x61, x62, x63, x64, x65, x66, x67, x68, x69, x70, x71, x72, x73, x74, x75, x76, x77, x78, x79, x80, x81, x82, x83, x84, x85, x86, x87, x88, x89, x90, x91, x92, x93, x94, x95, x96, x97, x98, x99, x100, x101, x102, x103, x104, x105, x106, x107, x108, x109, x110, x111, x112, x113, x114, x115, x116, x117, x118, x119, x120, x121, x122, x123, x124, x125, x126, x127, x128, x129, x130, x131, x132, x133, x134, x135, x136, x137, x138, x139, x140, x141, x142, x143, x144, x145, x146, x147, x148, x149, x150, x151, x152, x153, x154, x155, x156, x157, x158, x159, x160, x161, x162, x163, x164, x165, x166, x167, x168, x169, x170, x171, x172, x173, x174, x175, x176, x177, x178, x179, x180, x181, x182, x183, x184, x185, x186], []⟩ w := by
  rw [tail7_35]
  go_wp2
  conv => arg 2; whnf
  have c7 := hb.cell p (by omega)
  have f7 := hb.free p
  have hp1 : (0 : Int) ≤ (p : Int) := by omega
  have hp2 : (p : Int) < (L : Int) + 1 := by omega
  go_wp2
  have hb7 := hb.set (show p < L + 1 by omega) (.int .u8 7)
  have hw7 : Keeps (fun b => b = bb) w (w.setCell ⟨bb, p, none⟩ (.int .u8 7)) := (Keeps.refl (fun b => b = bb) w).setCell (p := ⟨bb, p, none⟩) rfl _
  obtain ⟨w7, hw7e⟩ : ∃ w7, w.setCell ⟨bb, p, none⟩ (.int .u8 7) = w7 := ⟨_, rfl⟩
  rw [hw7e] at hb7 hw7 ⊢
  clear hw7e c7 f7
  rw [tail7_36]
  go_wp2
  conv => arg 2; whnf
  go_wp2
  go_loopw [17] (fun v17 wr => ∃ (k : Nat), p ≤ k ∧ k ≤ L ∧ v17 = .int .i64 k ∧ Keeps (fun b => b = bb) w wr ∧ Own wr bb (L + 1) (fun j => .int .u8 (if j < k + 1 then insB O p j else 0 : Nat))) (fun v17 _ => L - (intOf v17).toNat)
  case atStart => exact ⟨p, Nat.le_refl _, by omega, rfl, hw7, hb7.congr fun j hj => by
    unfold updV insB
    by_cases h1 : j = p
    · rw [if_pos h1, if_pos (by omega), if_neg (by omega), if_pos h1]; rfl
    · rw [if_neg h1]
      show Value.int .u8 ((if j < p then O j else 0 : Nat) : Int) = _
      by_cases h2 : j < p
      · rw [if_pos h2, if_pos (by omega), if_pos h2]
      · rw [if_neg h2, if_neg (by omega)]⟩
  case round =>
    obtain ⟨k, hpk, hk, rfl, hKr, hbr⟩ := hrel
    by_cases hlt : k < L
    · have c0 := hlc k (by omega)
      have c1 := (hKr.cell (p := ⟨lb, lo + k, none⟩) (World.block_lt_of_cell? w _ c0) (fun h => d.2.2.2.2.2 h)).trans c0
      have c2 := hbr.cell (k + 1) (by omega)
      have f2 := hbr.free (k + 1)
      obtain ⟨v, hv⟩ : ∃ v, O k = v := ⟨_, rfl⟩
      have HV : Hid (O k = v) := hv
      rw [hv] at c1
      clear hv c0
      have hk1 : (0 : Int) ≤ (k : Int) := by omega
      have hk2 : (k : Int) < (L : Int) := by omega
      go_wp2
      refine ⟨?rel, ?measure⟩
      case rel =>
        refine ⟨k + 1, by omega, by omega, by go_num, hKr.setCell (p := ⟨bb, k + 1, none⟩) rfl _, (hbr.set (by omega) _).congr fun j hj => ?_⟩
        unfold updV
        by_cases h : j = k + 1
        · subst h
          unfold insB
          rw [if_pos rfl, if_pos (Nat.lt_succ_self _), if_neg (by omega), if_neg (by omega), Nat.add_sub_cancel, HV.out]
        · rw [if_neg h]
          show Value.int .u8 ((if j < k + 1 then insB O p j else 0 : Nat) : Int) = _
          by_cases h2 : j < k + 1
          · rw [if_pos h2, if_pos (by omega)]
          · rw [if_neg h2, if_neg (by omega)]
      case measure => simp [intOf]; omega
    · obtain rfl : k = L := by omega
      have hf9 := hf.keep hKr (fun h => d.2.1 h)
      have hg9 := hg.keep hKr (fun h => d.2.2.2.1 h)
      have ha9 := ha.keep hKr (fun h => d.2.2.2.2.1 h)
      have hb9 : Own wr bb (k + 1) (fun j => .int .u8 (insB O p j : Nat)) := hbr.congr fun j hj => by rw [if_pos hj]
      have hK9 : Keeps Nob w0 wr := by
        have h0 := hKw.size
        exact ⟨hKr.os.trans hKw.os, hKr.tape.trans hKw.tape, hKr.output.trans hKw.output, by have := hKr.size; omega, fun i hi _ => (hKr.block i (by omega) (by show ¬ i = bb; omega)).trans (hKw.block i hi (fun h => h))⟩
      go_wp2
      exact l7b hK9 hf9 hg9 ha9 hb9 ⟨d.1, d.2.1, d.2.2.1, d.2.2.2.1, d.2.2.2.2.1⟩ dn hm hmL hK hK2 hL hpm hn hnK hFb
set_option maxHeartbeats 4000000 in
set_option maxRecDepth 100000 in
theorem l7a3 {w0 : World} {fb gb ab bb lb lo m L cap K p : Nat} {F O : Nat → Nat} {x4 x5 x6 x7 x8 x9 x10 x13 x14 x16 x17 x18 x19 x20 x21 x22 x23 x24 x25 x26 x27 x28 x29 x30 x31 x32 x33 x34 x35 x36 x37 x38 x39 x40 x41 x42 x43 x44 x45 x46 x47 x48 x49 x50 x51 x52 x53 x54 x55 x56 x57 x58 x59 x60 x61 x62 x63 x64 x65 x66 x67 x68 x69 x70 x71 x72 x73 x74 x75 x76 x77 x78 x79 x80 x81 x82 x83 x84 x85 x86 x87 x88 x89 x90 x91 x92 x93 x94 x95 x96 x97 x98 x99 x100 x101 x102 x103 x104 x105 x106 x107 x108 x109 x110 x111 x112 x113 x114 x115 x116 x117 x118 x119 x120 x121 x122 x123 x124 x125 x126 x127 x128 x129 x130 x131 x132 x133 x134 x135 x136 x137 x138 x139 x140 x141 x142 x143 x144 x145 x146 x147 x148 x149 x150 x151 x152 x153 x154 x155 x156 x157 x158 x159 x160 x161 x162 x163 x164 x165 x166 x167 x168 x169 x170 x171 x172 x173 x174 x175 x176 x177 x178 x179 x180 x181 x182 x183 x184 x185 x186 : Value} {w : World}
    (hKw : Keeps Nob w0 w) (hf : Own w fb m (fun j => .int .u32 (F j : Nat))) (hg : Own w gb (m + 1) (fun j => .int .u32 (insF F p j : Nat))) (ha : Own w ab L (fun j => .int .u8 (O j : Nat)))
    (hb : Own w bb (L + 1) (fun _ => .int .u8 0)) (d : fb ≠ ab ∧ fb ≠ bb ∧ gb ≠ ab ∧ gb ≠ bb ∧ ab ≠ bb ∧ lb ≠ bb) (dn : w0.heap.size ≤ ab ∧ w0.heap.size ≤ bb) (hcap : L ≤ cap) (hcap2 : cap ≤ 9223372036854775807) (hlc : ∀ j, j < L → w.cell? ⟨lb, lo + j, none⟩ = some (.int .u8 (O j : Nat))) (hm : m ≤ 511) (hmL : m ≤ L) (hK : 1 ≤ K) (hK2 : K ≤ 20) (hL : L ≤ 65536) (hpm : p ≤ m) (hn : Hid (2 ≤ occN F m)) (hnK : Hid (occN F m ≤ 2 ^ K)) (hFb : Hid (∀ i, i < m → F i < 4294967296)) :
    Code.wp Try.prog (tailF Try.f7 31) (bodyPost Try.prog Try.f7 fun e w' => e = .returned (.bool true) ∧ Keeps Nob w0 w') ⟨#[.slice (some ⟨fb, 0, none⟩) m m, .slice (some ⟨lb, lo, none⟩) L cap, .int .i64 (K : Nat), .int .i64 (p : Nat), x4, x5, x6, x7, x8, x9, x10, .slice (some ⟨ab, 0, none⟩) L L, .slice (some ⟨gb, 0, none⟩) (m + 1) (m + 1), x13, x14, .slice (some ⟨bb, 0, none⟩) (L + 1) (L + 1), x16, x17, x18, x19, x20, x21, x22, x23, x24, x25, x26, x27, x28, x29, x30, x31, x32, x33, x34, x35, x36, x37, x38, x39, x40, x41, x42, x43, x44, x45, x46, x47, x48, x49, x50, x51, x52, x53, x54, x55, x56, x57, x58, x59, x60, x61, x62, x63, x64, x65, x66, x67, x68, x69, x70, x71, x72, x73, x74, x75, x76, x77, x78, x79, x80, x81, x82, x83, x84, x85, x86, x87, x88, x89, x90, x91, x92, x93, x94, x95, x96, x97, x98, x99, x100, x101, x102, x103, x104, x105, x106, x107, x108, x109, x110, x111, x112, x113, x114, x115, x116, x117, x118, x119, x120, x121, x122, x123, x124, x125, x126, x127, x128, x129, x130, x131, x132, x133, x134, x135, x136, x137, x138, x139, x140, x141, x142, x143, x144, x145, x146, x147, x148, x149, x150, x151, x152, x153, x154, x155, x156, x157, x158, x159, x160, x161, x162, x163, x164, x165, x166, x167, x168, x169, x170, x171, x172, x173, x174, x175, x176, x177, x178, x179, x180, x181, x182, x183, x184, x185, x186], []⟩ w := by
  rw [tail7_31]
  go_wp2
  conv => arg 2; whnf
  go_wp2
  go_loopw [16] (fun v16 wr => ∃ (k : Nat), k ≤ p ∧ v16 = .int .i64 k ∧ Keeps (fun b => b = bb) w wr ∧ Own wr bb (L + 1) (fun j => .int .u8 (if j < k then O j else 0 : Nat))) (fun v16 _ => p - (intOf v16).toNat)
  case atStart => exact ⟨0, Nat.zero_le _, rfl, Keeps.refl _ _, hb.congr fun j hj => by rw [if_neg (Nat.not_lt_zero _)]; rfl⟩
  case round =>
    obtain ⟨k, hk, rfl, hKr, hbr⟩ := hrel
    by_cases hlt : k < p
    · have c0 := hlc k (by omega)
      have c1 := (hKr.cell (p := ⟨lb, lo + k, none⟩) (World.block_lt_of_cell? w _ c0) (fun h => d.2.2.2.2.2 h)).trans c0
      have c2 := hbr.cell k (by omega)
      have f2 := hbr.free k
      obtain ⟨v, hv⟩ : ∃ v, O k = v := ⟨_, rfl⟩
      have HV : Hid (O k = v) := hv
      rw [hv] at c1
      clear hv c0
      have hk1 : (0 : Int) ≤ (k : Int) := by omega
      have hk2 : (k : Int) < (L : Int) := by omega
      have hk3 : (k : Int) < (p : Int) := by omega
      go_wp2
      refine ⟨?rel, ?measure⟩
      case rel =>
        refine ⟨k + 1, by omega, by go_num, hKr.setCell (p := ⟨bb, k, none⟩) rfl _, (hbr.set (by omega) _).congr fun j hj => ?_⟩
        unfold updV
        by_cases h : j = k
        · subst h
          rw [if_pos rfl, if_pos (Nat.lt_succ_self _), HV.out]
        · rw [if_neg h]
          show Value.int .u8 ((if j < k then O j else 0 : Nat) : Int) = _
          by_cases h2 : j < k
          · rw [if_pos h2, if_pos (by omega)]
          · rw [if_neg h2, if_neg (by omega)]
      case measure => simp [intOf]; omega
    · obtain rfl : k = p := by omega
      have hlc9 : ∀ j, j < L → wr.cell? ⟨lb, lo + j, none⟩ = some (.int .u8 (O j : Nat)) := fun j hj =>
        (hKr.cell (p := ⟨lb, lo + j, none⟩) (World.block_lt_of_cell? w _ (hlc j hj)) (fun h => d.2.2.2.2.2 h)).trans (hlc j hj)
      have hf9 := hf.keep hKr (fun h => d.2.1 h)
      have hg9 := hg.keep hKr (fun h => d.2.2.2.1 h)
      have ha9 := ha.keep hKr (fun h => d.2.2.2.2.1 h)
      have hK9 : Keeps Nob w0 wr := by
        have h0 := hKw.size
        exact ⟨hKr.os.trans hKw.os, hKr.tape.trans hKw.tape, hKr.output.trans hKw.output, by have := hKr.size; omega, fun i hi _ => (hKr.block i (by omega) (by show ¬ i = bb; omega)).trans (hKw.block i hi (fun h => h))⟩
      go_wp2
      exact l7a4 hK9 hf9 hg9 ha9 hbr d dn hcap hcap2 hlc9 hm hmL hK hK2 hL hpm hn hnK hFb

end Go.Proofs.Qxb6617947a
