import Derived.Test.Qxb6617947aL7a
/-! FnLengthsZeroSymbolInserted: the frequencies with one more. -/
namespace Go.Proofs.Qxb6617947a
open Go.RowKit
set_option linter.unusedVariables false
set_option linter.unusedSimpArgs false
set_option maxHeartbeats 4000000 in
set_option maxRecDepth 100000 in
theorem l7x30 {w0 : World} {fb gb ab lb lo m L cap K p : Nat} {F O : Nat → Nat} {x4 x5 x6 x7 x8 x9 x10 x13 x14 x15 x16 x17 x18 x19 x20 x21 x22 x23 x24 x25 x26 x27 x28 x29 x30 x31 x32 x33 x34 x35 x36 x37 x38 x39 x40 x41 x42 x43 x44 x45 x46 x47 x48 x49 x50 x51 x52 x53 x54 x55 x56 x57 x58 x59 x60 x61 x62 x63 x64 x65 x66 x67 x68 x69 x70 x71 x72 x73 x74 x75 x76 x77 x78 x79 x80 x81 x82 x83 x84 x85 x86 x87 x88 x89 x90 x91 x92 x93 x94 x95 x96 x97 x98 x99 x100 x101 x102 x103 x104 x105 x106 x107 x108 x109 x110 x111 x112 x113 x114 x115 x116 x117 x118 x119 x120 x121 x122 x123 x124 x125 x126 x127 x128 x129 x130 x131 x132 x133 x134 x135 x136 x137 x138 x139 x140 x141 x142 x143 x144 x145 x146 x147 x148 x149 x150 x151 x152 x153 x154 x155 x156 x157 x158 x159 x160 x161 x162 x163 x164 x165 x166 x167 x168 x169 x170 x171 x172 x173 x174 x175 x176 x177 x178 x179 x180 x181 x182 x183 x184 x185 x186 : Value} {w : World}
    (hKw : Keeps Nob w0 w) (hf : Own w fb m (fun j => .int .u32 (F j : Nat))) (hg : Own w gb (m + 1) (fun j => .int .u32 (insF F p j : Nat))) (ha : Own w ab L (fun j => .int .u8 (O j : Nat)))
    (d : fb ≠ ab ∧ gb ≠ ab ∧ fb ≠ gb ∧ lb ≠ gb) (dn : w0.heap.size ≤ ab ∧ w0.heap.size ≤ gb) (hcap : L ≤ cap) (hcap2 : cap ≤ 9223372036854775807) (hlc : ∀ j, j < L → w.cell? ⟨lb, lo + j, none⟩ = some (.int .u8 (O j : Nat))) (hm : m ≤ 511) (hmL : m ≤ L) (hK : 1 ≤ K) (hK2 : K ≤ 20) (hL : L ≤ 65536) (hpm : p ≤ m) (hn : Hid (2 ≤ occN F m)) (hnK : Hid (occN F m ≤ 2 ^ K)) (hFb : Hid (∀ i, i < m → F i < 4294967296)) (hL0 : 0 < L) :
    Code.wp Try.prog (tailF Try.f7 30) (bodyPost Try.prog Try.f7 fun e w' => e = .returned (.bool true) ∧ Keeps Nob w0 w') ⟨#[.slice (some ⟨fb, 0, none⟩) m m, .slice (some ⟨lb, lo, none⟩) L cap, .int .i64 (K : Nat), .int .i64 (p : Nat), x4, x5, x6, x7, x8, x9, x10, .slice (some ⟨ab, 0, none⟩) L L, .slice (some ⟨gb, 0, none⟩) (m + 1) (m + 1), x13, x14, x15, x16, x17, x18, x19, x20, x21, x22, x23, x24, x25, x26, x27, x28, x29, x30, x31, x32, x33, x34, x35, x36, x37, x38, x39, x40, x41, x42, x43, x44, x45, x46, x47, x48, x49, x50, x51, x52, x53, x54, x55, x56, x57, x58, x59, x60, x61, x62, x63, x64, x65, x66, x67, x68, x69, x70, x71, x72, x73, x74, x75, x76, x77, x78, x79, x80, x81, x82, x83, x84, x85, x86, x87, x88, x89, x90, x91, x92, x93, x94, x95, x96, x97, x98, x99, x100, x101, x102, x103, x104, x105, x106, x107, x108, x109, x110, x111, x112, x113, x114, x115, x116, x117, x118, x119, x120, x121, x122, x123, x124, x125, x126, x127, x128, x129, x130, x131, x132, x133, x134, x135, x136, x137, x138, x139, x140, x141, x142, x143, x144, x145, x146, x147, x148, x149, x150, x151, x152, x153, x154, x155, x156, x157, x158, x159, x160, x161, x162, x163, x164, x165, x166, x167, x168, x169, x170, x171, x172, x173, x174, x175, x176, x177, x178, x179, x180, x181, x182, x183, x184, x185, x186], []⟩ w := by
  rw [tail7_30]
  go_wp2
  conv => arg 2; whnf

  go_wp2_with (at_make; refine wpList_make_blk _ rfl _ _ 31 rfl 5 (.int .u8 0) 1 rfl Try.underlying31 info5z _ _ (L + 1) rfl rfl (by omega) (by unfold maxLen; omega) ?_)
  intro w1 hB hK1
  have hb := Own.rep hB
  have hs1 := hK1.size
  have hs0 := hKw.size
  have hfl := hf.lt
  have hgl := hg.lt
  have hal := ha.lt
  have hll : lb < w.heap.size := World.block_lt_of_cell? w _ (hlc 0 (by omega))
  have hf1 := hf.keep hK1 (fun h => h)
  have hg1 := hg.keep hK1 (fun h => h)
  have ha1 := ha.keep hK1 (fun h => h)
  have hlc1 : ∀ j, j < L → w1.cell? ⟨lb, lo + j, none⟩ = some (.int .u8 (O j : Nat)) := fun j hj => (hK1.cell (p := ⟨lb, lo + j, none⟩) (World.block_lt_of_cell? w _ (hlc j hj)) (fun h => h)).trans (hlc j hj)
  have d9 : fb ≠ ab ∧ fb ≠ w.heap.size ∧ gb ≠ ab ∧ gb ≠ w.heap.size ∧ ab ≠ w.heap.size ∧ lb ≠ w.heap.size := ⟨d.1, by omega, d.2.1, by omega, by omega, by omega⟩
  go_wp2
  exact l7a3 (hKw.trans hK1) hf1 hg1 ha1 hb d9 ⟨dn.1, hs0⟩ hcap hcap2 hlc1 hm hmL hK hK2 hL hpm hn hnK hFb
set_option maxHeartbeats 4000000 in
set_option maxRecDepth 100000 in
theorem l7x26 {w0 : World} {fb gb ab lb lo m L cap K p : Nat} {F O : Nat → Nat} {x4 x5 x6 x7 x8 x9 x10 x13 x14 x15 x16 x17 x18 x19 x20 x21 x22 x23 x24 x25 x26 x27 x28 x29 x30 x31 x32 x33 x34 x35 x36 x37 x38 x39 x40 x41 x42 x43 x44 x45 x46 x47 x48 x49 x50 x51 x52 x53 x54 x55 x56 x57 x58 x59 x60 x61 x62 x63 x64 x65 x66 x67 x68 x69 x70 x71 x72 x73 x74 x75 x76 x77 x78 x79 x80 x81 x82 x83 x84 x85 x86 x87 x88 x89 x90 x91 x92 x93 x94 x95 x96 x97 x98 x99 x100 x101 x102 x103 x104 x105 x106 x107 x108 x109 x110 x111 x112 x113 x114 x115 x116 x117 x118 x119 x120 x121 x122 x123 x124 x125 x126 x127 x128 x129 x130 x131 x132 x133 x134 x135 x136 x137 x138 x139 x140 x141 x142 x143 x144 x145 x146 x147 x148 x149 x150 x151 x152 x153 x154 x155 x156 x157 x158 x159 x160 x161 x162 x163 x164 x165 x166 x167 x168 x169 x170 x171 x172 x173 x174 x175 x176 x177 x178 x179 x180 x181 x182 x183 x184 x185 x186 : Value} {w : World}
    (hKw : Keeps Nob w0 w) (hf : Own w fb m (fun j => .int .u32 (F j : Nat))) (hg : Own w gb (m + 1) (fun j => .int .u32 (if j < p then F j else 0 : Nat))) (ha : Own w ab L (fun j => .int .u8 (O j : Nat)))
    (d : fb ≠ ab ∧ gb ≠ ab ∧ fb ≠ gb ∧ lb ≠ gb) (dn : w0.heap.size ≤ ab ∧ w0.heap.size ≤ gb) (hcap : L ≤ cap) (hcap2 : cap ≤ 9223372036854775807) (hlc : ∀ j, j < L → w.cell? ⟨lb, lo + j, none⟩ = some (.int .u8 (O j : Nat))) (hm : m ≤ 511) (hmL : m ≤ L) (hK : 1 ≤ K) (hK2 : K ≤ 20) (hL : L ≤ 65536) (hpm : p ≤ m) (hn : Hid (2 ≤ occN F m)) (hnK : Hid (occN F m ≤ 2 ^ K)) (hFb : Hid (∀ i, i < m → F i < 4294967296)) (hL0 : 0 < L) :
    Code.wp Try.prog (tailF Try.f7 26) (bodyPost Try.prog Try.f7 fun e w' => e = .returned (.bool true) ∧ Keeps Nob w0 w') ⟨#[.slice (some ⟨fb, 0, none⟩) m m, .slice (some ⟨lb, lo, none⟩) L cap, .int .i64 (K : Nat), .int .i64 (p : Nat), x4, x5, x6, x7, x8, x9, x10, .slice (some ⟨ab, 0, none⟩) L L, .slice (some ⟨gb, 0, none⟩) (m + 1) (m + 1), x13, x14, x15, x16, x17, x18, x19, x20, x21, x22, x23, x24, x25, x26, x27, x28, x29, x30, x31, x32, x33, x34, x35, x36, x37, x38, x39, x40, x41, x42, x43, x44, x45, x46, x47, x48, x49, x50, x51, x52, x53, x54, x55, x56, x57, x58, x59, x60, x61, x62, x63, x64, x65, x66, x67, x68, x69, x70, x71, x72, x73, x74, x75, x76, x77, x78, x79, x80, x81, x82, x83, x84, x85, x86, x87, x88, x89, x90, x91, x92, x93, x94, x95, x96, x97, x98, x99, x100, x101, x102, x103, x104, x105, x106, x107, x108, x109, x110, x111, x112, x113, x114, x115, x116, x117, x118, x119, x120, x121, x122, x123, x124, x125, x126, x127, x128, x129, x130, x131, x132, x133, x134, x135, x136, x137, x138, x139, x140, x141, x142, x143, x144, x145, x146, x147, x148, x149, x150, x151, x152, x153, x154, x155, x156, x157, x158, x159, x160, x161, x162, x163, x164, x165, x166, x167, x168, x169, x170, x171, x172, x173, x174, x175, x176, x177, x178, x179, x180, x181, x182, x183, x184, x185, x186], []⟩ w := by
  rw [tail7_26]
  go_wp2
  conv => arg 2; whnf
  go_wp2
  go_loopw [14] (fun v14 wr => ∃ (k : Nat), p ≤ k ∧ k ≤ m ∧ v14 = .int .i64 k ∧ Keeps (fun b => b = gb) w wr ∧ Own wr gb (m + 1) (fun j => .int .u32 (if j < k + 1 then insF F p j else 0 : Nat))) (fun v14 _ => m - (intOf v14).toNat)
  case atStart => exact ⟨p, Nat.le_refl _, by omega, rfl, Keeps.refl _ _, hg.congr fun j hj => by
    show Value.int .u32 ((if j < p then F j else 0 : Nat) : Int) = .int .u32 ((if j < p + 1 then insF F p j else 0 : Nat) : Int)
    unfold insF
    by_cases h2 : j < p
    · rw [if_pos h2, if_pos (by omega), if_pos h2]
    · rw [if_neg h2]
      by_cases h1 : j = p
      · rw [if_pos (by omega), if_neg (by omega), if_pos h1]
      · rw [if_neg (by omega)]⟩
  case round =>
    obtain ⟨k, hpk, hk, rfl, hKr, hgr⟩ := hrel
    by_cases hlt : k < m
    · have c2 := hgr.cell (k + 1) (by omega)
      have f2 := hgr.free (k + 1)
      have c1 := (hf.keep hKr (fun h => d.2.2.1 h)).cell k (by omega)
      obtain ⟨v, hv⟩ : ∃ v, F k = v := ⟨_, rfl⟩
      have HV : Hid (F k = v) := hv
      rw [hv] at c1
      clear hv
      have hk1 : (0 : Int) ≤ (k : Int) := by omega
      have hk2 : (k : Int) < (m : Int) := by omega
      go_wp2
      refine ⟨?rel, ?measure⟩
      case rel =>
        refine ⟨k + 1, by omega, by omega, by go_num, hKr.setCell (p := ⟨gb, k + 1, none⟩) rfl _, (hgr.set (by omega) _).congr fun j hj => ?_⟩
        unfold updV
        by_cases h : j = k + 1
        · subst h
          unfold insF
          rw [if_pos rfl, if_pos (Nat.lt_succ_self _), if_neg (by omega), if_neg (by omega), Nat.add_sub_cancel, HV.out]
        · rw [if_neg h]
          show Value.int .u32 ((if j < k + 1 then insF F p j else 0 : Nat) : Int) = _
          by_cases h2 : j < k + 1
          · rw [if_pos h2, if_pos (by omega)]
          · rw [if_neg h2, if_neg (by omega)]
      case measure => simp [intOf]; omega
    · obtain rfl : k = m := by omega
      have hg9 : Own wr gb (k + 1) (fun j => .int .u32 (insF F p j : Nat)) := hgr.congr fun j hj => by rw [if_pos hj]
      have hlc9 : ∀ j, j < L → wr.cell? ⟨lb, lo + j, none⟩ = some (.int .u8 (O j : Nat)) := fun j hj =>
        (hKr.cell (p := ⟨lb, lo + j, none⟩) (World.block_lt_of_cell? w _ (hlc j hj)) (fun h => d.2.2.2 h)).trans (hlc j hj)
      have hf9 := hf.keep hKr (fun h => d.2.2.1 h)
      have ha9 := ha.keep hKr (fun h => d.2.1 h.symm)
      have hK9 : Keeps Nob w0 wr := by
        have h0 := hKw.size
        exact ⟨hKr.os.trans hKw.os, hKr.tape.trans hKw.tape, hKr.output.trans hKw.output, by have := hKr.size; omega, fun i hi _ => (hKr.block i (by omega) (by show ¬ i = gb; omega)).trans (hKw.block i hi (fun h => h))⟩
      go_wp2
      exact l7x30 hK9 hf9 hg9 ha9 d dn hcap hcap2 hlc9 hm hmL hK hK2 hL hpm hn hnK hFb hL0
set_option maxHeartbeats 4000000 in
set_option maxRecDepth 100000 in
theorem l7x22 {w0 : World} {fb gb ab lb lo m L cap K p : Nat} {F O : Nat → Nat} {x4 x5 x6 x7 x8 x9 x10 x13 x14 x15 x16 x17 x18 x19 x20 x21 x22 x23 x24 x25 x26 x27 x28 x29 x30 x31 x32 x33 x34 x35 x36 x37 x38 x39 x40 x41 x42 x43 x44 x45 x46 x47 x48 x49 x50 x51 x52 x53 x54 x55 x56 x57 x58 x59 x60 x61 x62 x63 x64 x65 x66 x67 x68 x69 x70 x71 x72 x73 x74 x75 x76 x77 x78 x79 x80 x81 x82 x83 x84 x85 x86 x87 x88 x89 x90 x91 x92 x93 x94 x95 x96 x97 x98 x99 x100 x101 x102 x103 x104 x105 x106 x107 x108 x109 x110 x111 x112 x113 x114 x115 x116 x117 x118 x119 x120 x121 x122 x123 x124 x125 x126 x127 x128 x129 x130 x131 x132 x133 x134 x135 x136 x137 x138 x139 x140 x141 x142 x143 x144 x145 x146 x147 x148 x149 x150 x151 x152 x153 x154 x155 x156 x157 x158 x159 x160 x161 x162 x163 x164 x165 x166 x167 x168 x169 x170 x171 x172 x173 x174 x175 x176 x177 x178 x179 x180 x181 x182 x183 x184 x185 x186 : Value} {w : World}
    (hKw : Keeps Nob w0 w) (hf : Own w fb m (fun j => .int .u32 (F j : Nat))) (hg : Own w gb (m + 1) (fun _ => .int .u32 0)) (ha : Own w ab L (fun j => .int .u8 (O j : Nat)))
    (d : fb ≠ ab ∧ gb ≠ ab ∧ fb ≠ gb ∧ lb ≠ gb) (dn : w0.heap.size ≤ ab ∧ w0.heap.size ≤ gb) (hcap : L ≤ cap) (hcap2 : cap ≤ 9223372036854775807) (hlc : ∀ j, j < L → w.cell? ⟨lb, lo + j, none⟩ = some (.int .u8 (O j : Nat))) (hm : m ≤ 511) (hmL : m ≤ L) (hK : 1 ≤ K) (hK2 : K ≤ 20) (hL : L ≤ 65536) (hpm : p ≤ m) (hn : Hid (2 ≤ occN F m)) (hnK : Hid (occN F m ≤ 2 ^ K)) (hFb : Hid (∀ i, i < m → F i < 4294967296)) (hL0 : 0 < L) :
    Code.wp Try.prog (tailF Try.f7 22) (bodyPost Try.prog Try.f7 fun e w' => e = .returned (.bool true) ∧ Keeps Nob w0 w') ⟨#[.slice (some ⟨fb, 0, none⟩) m m, .slice (some ⟨lb, lo, none⟩) L cap, .int .i64 (K : Nat), .int .i64 (p : Nat), x4, x5, x6, x7, x8, x9, x10, .slice (some ⟨ab, 0, none⟩) L L, .slice (some ⟨gb, 0, none⟩) (m + 1) (m + 1), x13, x14, x15, x16, x17, x18, x19, x20, x21, x22, x23, x24, x25, x26, x27, x28, x29, x30, x31, x32, x33, x34, x35, x36, x37, x38, x39, x40, x41, x42, x43, x44, x45, x46, x47, x48, x49, x50, x51, x52, x53, x54, x55, x56, x57, x58, x59, x60, x61, x62, x63, x64, x65, x66, x67, x68, x69, x70, x71, x72, x73, x74, x75, x76, x77, x78, x79, x80, x81, x82, x83, x84, x85, x86, x87, x88, x89, x90, x91, x92, x93, x94, x95, x96, x97, x98, x99, x100, x101, x102, x103, x104, x105, x106, x107, x108, x109, x110, x111, x112, x113, x114, x115, x116, x117, x118, x119, x120, x121, x122, x123, x124, x125, x126, x127, x128, x129, x130, x131, x132, x133, x134, x135, x136, x137, x138, x139, x140, x141, x142, x143, x144, x145, x146, x147, x148, x149, x150, x151, x152, x153, x154, x155, x156, x157, x158, x159, x160, x161, x162, x163, x164, x165, x166, x167, x168, x169, x170, x171, x172, x173, x174, x175, x176, x177, x178, x179, x180, x181, x182, x183, x184, x185, x186], []⟩ w := by
  rw [tail7_22]
  go_wp2
  conv => arg 2; whnf
  go_wp2
  go_loopw [13] (fun v13 wr => ∃ (k : Nat), k ≤ p ∧ v13 = .int .i64 k ∧ Keeps (fun b => b = gb) w wr ∧ Own wr gb (m + 1) (fun j => .int .u32 (if j < k then F j else 0 : Nat))) (fun v13 _ => p - (intOf v13).toNat)
  case atStart => exact ⟨0, Nat.zero_le _, rfl, Keeps.refl _ _, hg.congr fun j hj => by rw [if_neg (Nat.not_lt_zero _)]; rfl⟩
  case round =>
    obtain ⟨k, hk, rfl, hKr, hgr⟩ := hrel
    by_cases hlt : k < p
    · have c2 := hgr.cell k (by omega)
      have f2 := hgr.free k
      have c1 := (hf.keep hKr (fun h => d.2.2.1 h)).cell k (by omega)
      obtain ⟨v, hv⟩ : ∃ v, F k = v := ⟨_, rfl⟩
      have HV : Hid (F k = v) := hv
      rw [hv] at c1
      clear hv
      have hk1 : (0 : Int) ≤ (k : Int) := by omega
      have hk2 : (k : Int) < (m : Int) := by omega
      have hk3 : (k : Int) < (p : Int) := by omega
      go_wp2
      refine ⟨?rel, ?measure⟩
      case rel =>
        refine ⟨k + 1, by omega, by go_num, hKr.setCell (p := ⟨gb, k, none⟩) rfl _, (hgr.set (by omega) _).congr fun j hj => ?_⟩
        unfold updV
        by_cases h : j = k
        · subst h
          rw [if_pos rfl, if_pos (Nat.lt_succ_self _), HV.out]
        · rw [if_neg h]
          show Value.int .u32 ((if j < k then F j else 0 : Nat) : Int) = _
          by_cases h2 : j < k
          · rw [if_pos h2, if_pos (by omega)]
          · rw [if_neg h2, if_neg (by omega)]
      case measure => simp [intOf]; omega
    · obtain rfl : k = p := by omega
      have hlc9 : ∀ j, j < L → wr.cell? ⟨lb, lo + j, none⟩ = some (.int .u8 (O j : Nat)) := fun j hj =>
        (hKr.cell (p := ⟨lb, lo + j, none⟩) (World.block_lt_of_cell? w _ (hlc j hj)) (fun h => d.2.2.2 h)).trans (hlc j hj)
      have hf9 := hf.keep hKr (fun h => d.2.2.1 h)
      have ha9 := ha.keep hKr (fun h => d.2.1 h.symm)
      have hK9 : Keeps Nob w0 wr := by
        have h0 := hKw.size
        exact ⟨hKr.os.trans hKw.os, hKr.tape.trans hKw.tape, hKr.output.trans hKw.output, by have := hKr.size; omega, fun i hi _ => (hKr.block i (by omega) (by show ¬ i = gb; omega)).trans (hKw.block i hi (fun h => h))⟩
      go_wp2
      exact l7x26 hK9 hf9 hgr ha9 d dn hcap hcap2 hlc9 hm hmL hK hK2 hL hpm hn hnK hFb hL0
set_option maxHeartbeats 4000000 in
set_option maxRecDepth 100000 in
theorem l7x20 {w0 : World} {fb lb lo m L cap K p : Nat} {F O : Nat → Nat} {x4 x5 x6 x7 x8 x9 x10 x11 x12 x13 x14 x15 x16 x17 x18 x19 x20 x21 x22 x23 x24 x25 x26 x27 x28 x29 x30 x31 x32 x33 x34 x35 x36 x37 x38 x39 x40 x41 x42 x43 x44 x45 x46 x47 x48 x49 x50 x51 x52 x53 x54 x55 x56 x57 x58 x59 x60 x61 x62 x63 x64 x65 x66 x67 x68 x69 x70 x71 x72 x73 x74 x75 x76 x77 x78 x79 x80 x81 x82 x83 x84 x85 x86 x87 x88 x89 x90 x91 x92 x93 x94 x95 x96 x97 x98 x99 x100 x101 x102 x103 x104 x105 x106 x107 x108 x109 x110 x111 x112 x113 x114 x115 x116 x117 x118 x119 x120 x121 x122 x123 x124 x125 x126 x127 x128 x129 x130 x131 x132 x133 x134 x135 x136 x137 x138 x139 x140 x141 x142 x143 x144 x145 x146 x147 x148 x149 x150 x151 x152 x153 x154 x155 x156 x157 x158 x159 x160 x161 x162 x163 x164 x165 x166 x167 x168 x169 x170 x171 x172 x173 x174 x175 x176 x177 x178 x179 x180 x181 x182 x183 x184 x185 x186 : Value} {w : World}
    (hKw : Keeps Nob w0 w) (hf : Own w fb m (fun j => .int .u32 (F j : Nat))) (hcap : L ≤ cap) (hcap2 : cap ≤ 9223372036854775807) (hlc : ∀ j, j < L → w.cell? ⟨lb, lo + j, none⟩ = some (.int .u8 (O j : Nat))) (hm : m ≤ 511) (hmL : m ≤ L) (hK : 1 ≤ K) (hK2 : K ≤ 20) (hL : L ≤ 65536) (hpm : p ≤ m) (hn : Hid (2 ≤ occN F m)) (hnK : Hid (occN F m ≤ 2 ^ K)) (hFb : Hid (∀ i, i < m → F i < 4294967296)) (hL0 : 0 < L) :
    Code.wp Try.prog (tailF Try.f7 20) (bodyPost Try.prog Try.f7 fun e w' => e = .returned (.bool true) ∧ Keeps Nob w0 w') ⟨#[.slice (some ⟨fb, 0, none⟩) m m, .slice (some ⟨lb, lo, none⟩) L cap, .int .i64 (K : Nat), .int .i64 (p : Nat), x4, x5, x6, x7, x8, x9, x10, x11, x12, x13, x14, x15, x16, x17, x18, x19, x20, x21, x22, x23, x24, x25, x26, x27, x28, x29, x30, x31, x32, x33, x34, x35, x36, x37, x38, x39, x40, x41, x42, x43, x44, x45, x46, x47, x48, x49, x50, x51, x52, x53, x54, x55, x56, x57, x58, x59, x60, x61, x62, x63, x64, x65, x66, x67, x68, x69, x70, x71, x72, x73, x74, x75, x76, x77, x78, x79, x80, x81, x82, x83, x84, x85, x86, x87, x88, x89, x90, x91, x92, x93, x94, x95, x96, x97, x98, x99, x100, x101, x102, x103, x104, x105, x106, x107, x108, x109, x110, x111, x112, x113, x114, x115, x116, x117, x118, x119, x120, x121, x122, x123, x124, x125, x126, x127, x128, x129, x130, x131, x132, x133, x134, x135, x136, x137, x138, x139, x140, x141, x142, x143, x144, x145, x146, x147, x148, x149, x150, x151, x152, x153, x154, x155, x156, x157, x158, x159, x160, x161, x162, x163, x164, x165, x166, x167, x168, x169, x170, x171, x172, x173, x174, x175, x176, x177, x178, x179, x180, x181, x182, x183, x184, x185, x186], []⟩ w := by
  rw [tail7_20]
  go_wp2
  conv => arg 2; whnf
  go_wp2_with (go_at_call 11; refine (clone_any hlc (by omega)).mono ?_; rintro e w1 ⟨ab, rfl, hab, hK1, ha⟩)
  have hf1 := hf.keep hK1 (fun h => h)
  have hlc1 : ∀ j, j < L → w1.cell? ⟨lb, lo + j, none⟩ = some (.int .u8 (O j : Nat)) := fun j hj => (hK1.cell (p := ⟨lb, lo + j, none⟩) (World.block_lt_of_cell? w _ (hlc j hj)) (fun h => h)).trans (hlc j hj)
  have hs1 := hK1.size
  have hfl := hf.lt
  rw [tail7_21]
  go_wp2
  conv => arg 2; whnf
  go_wp2_with (at_make; refine wpList_make_blk _ rfl _ _ 38 rfl 32 (.int .u32 0) 4 rfl Try.underlying38 info32z _ _ (m + 1) rfl rfl (by omega) (by unfold maxLen; omega) ?_)
  intro w2 hB hK2a
  have hg := Own.rep hB
  have hs2 := hK2a.size
  have hal := ha.lt
  have hs0 := hKw.size
  have hll : lb < w.heap.size := World.block_lt_of_cell? w _ (hlc 0 (by omega))
  have hf2 := hf1.keep hK2a (fun h => h)
  have ha2 := ha.keep hK2a (fun h => h)
  have hlc2 : ∀ j, j < L → w2.cell? ⟨lb, lo + j, none⟩ = some (.int .u8 (O j : Nat)) := fun j hj => (hK2a.cell (p := ⟨lb, lo + j, none⟩) (World.block_lt_of_cell? w1 _ (hlc1 j hj)) (fun h => h)).trans (hlc1 j hj)
  have d9 : fb ≠ ab ∧ w1.heap.size ≠ ab ∧ fb ≠ w1.heap.size ∧ lb ≠ w1.heap.size := ⟨by omega, by omega, by omega, by omega⟩
  go_wp2
  exact l7x22 ((hKw.trans hK1).trans hK2a) hf2 hg ha2 d9 ⟨by omega, by omega⟩ hcap hcap2 hlc2 hm hmL hK hK2 hL hpm hn hnK hFb hL0

end Go.Proofs.Qxb6617947a
