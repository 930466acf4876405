import Derived.Test.Qxb6617947aL7c
/-! FnLengthsZeroSymbolInserted: Lengths twice. -/
namespace Go.Proofs.Qxb6617947a
open Go.RowKit
set_option linter.unusedVariables false
set_option linter.unusedSimpArgs false

/-- The bytes with one more, 7, put in at p. -/
def insB (O : Nat → Nat) (p s : Nat) : Nat := if s < p then O s else if s = p then 7 else O (s - 1)
set_option maxHeartbeats 4000000 in
set_option maxRecDepth 100000 in
theorem l7b {w0 : World} {fb gb ab bb m L K p : Nat} {F O : Nat → Nat} {x1 x4 x5 x6 x7 x8 x9 x10 x13 x14 x16 x17 x18 x19 x20 x21 x22 x23 x24 x25 x26 x27 x28 x29 x30 x31 x32 x33 x34 x35 x36 x37 x38 x39 x40 x41 x42 x43 x44 x45 x46 x47 x48 x49 x50 x51 x52 x53 x54 x55 x56 x57 x58 x59 x60 x61 x62 x63 x64 x65 x66 x67 x68 x69 x70 x71 x72 x73 x74 x75 x76 x77 x78 x79 x80 x81 x82 x83 x84 x85 x86 x87 x88 x89 x90 x91 x92 x93 x94 x95 x96 x97 x98 x99 x100 x101 x102 x103 x104 x105 x106 x107 x108 x109 x110 x111 x112 x113 x114 x115 x116 x117 x118 x119 x120 x121 x122 x123 x124 x125 x126 x127 x128 x129 x130 x131 x132 x133 x134 x135 x136 x137 x138 x139 x140 x141 x142 x143 x144 x145 x146 x147 x148 x149 x150 x151 x152 x153 x154 x155 x156 x157 x158 x159 x160 x161 x162 x163 x164 x165 x166 x167 x168 x169 x170 x171 x172 x173 x174 x175 x176 x177 x178 x179 x180 x181 x182 x183 x184 x185 x186 : Value} {w : World}
    (hKw : Keeps Nob w0 w) (hf : Own w fb m (fun j => .int .u32 (F j : Nat))) (hg : Own w gb (m + 1) (fun j => .int .u32 (insF F p j : Nat))) (ha : Own w ab L (fun j => .int .u8 (O j : Nat))) (hb : Own w bb (L + 1) (fun j => .int .u8 (insB O p j : Nat)))
    (d : fb ≠ ab ∧ fb ≠ bb ∧ gb ≠ ab ∧ gb ≠ bb ∧ ab ≠ bb) (dn : w0.heap.size ≤ ab ∧ w0.heap.size ≤ bb) (hm : m ≤ 511) (hmL : m ≤ L) (hK : 1 ≤ K) (hK2 : K ≤ 20) (hL : L ≤ 65536) (hpm : p ≤ m) (hn : Hid (2 ≤ occN F m)) (hnK : Hid (occN F m ≤ 2 ^ K)) (hFb : Hid (∀ i, i < m → F i < 4294967296)) :
    Code.wp Try.prog (tailF Try.f7 40) (bodyPost Try.prog Try.f7 fun e w' => e = .returned (.bool true) ∧ Keeps Nob w0 w') ⟨#[.slice (some ⟨fb, 0, none⟩) m m, x1, .int .i64 (K : Nat), .int .i64 (p : Nat), x4, x5, x6, x7, x8, x9, x10, .slice (some ⟨ab, 0, none⟩) L L, .slice (some ⟨gb, 0, none⟩) (m + 1) (m + 1), x13, x14, .slice (some ⟨bb, 0, none⟩) (L + 1) (L + 1), x16, x17, x18, x19, x20, x21, x22, x23, x24, x25, x26, x27, x28, x29, x30, x31, x32, x33, x34, x35, x36, x37, x38, x39, x40, x41, x42, x43, x44, x45, x46, x47, x48, x49, x50, x51, x52, x53, x54, x55, x56, x57, x58, x59, x60, x61, x62, x63, x64, x65, x66, x67, x68, x69, x70, x71, x72, x73, x74, x75, x76, x77, x78, x79, x80, x81, x82, x83, x84, x85, x86, x87, x88, x89, x90, x91, x92, x93, x94, x95, x96, x97, x98, x99, x100, x101, x102, x103, x104, x105, x106, x107, x108, x109, x110, x111, x112, x113, x114, x115, x116, x117, x118, x119, x120, x121, x122, x123, x124, x125, x126, x127, x128, x129, x130, x131, x132, x133, x134, x135, x136, x137, x138, x139, x140, x141, x142, x143, x144, x145, x146, x147, x148, x149, x150, x151, x152, x153, x154, x155, x156, x157, x158, x159, x160, x161, x162, x163, x164, x165, x166, x167, x168, x169, x170, x171, x172, x173, x174, x175, x176, x177, x178, x179, x180, x181, x182, x183, x184, x185, x186], []⟩ w := by
  rw [tail7_40]
  go_wp2
  conv => arg 2; whnf
  have hal := ha.lt
  have hbl := hb.lt
  have hfl := hf.lt
  have hgl := hg.lt
  have c15 := lengths_any (fc := m) (cap := L) (hf.slF (enc := encU32) (F := F) (fun _ => rfl) 0 w.heap.size (Nat.zero_le _) hf.lt) ha hn (by omega) hmL (Nat.le_refl _) (by omega) hK hK2 hnK (by omega) hFb
  go_wp2_with (go_at_call 15; refine c15.mono ?_; rintro e w3 ⟨rfl, hK3, ha3⟩)
  have hf3 := hf.keep hK3 (fun h => d.1 h)
  have hg3 := hg.keep hK3 (fun h => d.2.2.1 h)
  have hb3 := hb.keep hK3 (fun h => d.2.2.2.2 h.symm)
  have hM := moves_ins hm hpm F
  have hFb2 : Hid (∀ i, i < m + 1 → insF F p i < 4294967296) := fun i hi => by
    unfold insF
    by_cases h1 : i < p
    · rw [if_pos h1]; exact hFb.out i (by omega)
    · rw [if_neg h1]
      by_cases h2 : i = p
      · rw [if_pos h2]; omega
      · rw [if_neg h2]; exact hFb.out (i - 1) (by omega)
  have c15b := lengths_any (fc := m + 1) (cap := L + 1) (hg3.slF (enc := encU32) (F := insF F p) (fun _ => rfl) 0 w3.heap.size (Nat.zero_le _) hg3.lt) hb3 (show 2 ≤ occN (insF F p) (m + 1) by rw [hM.occ]; exact hn.out) (by omega) (by omega) (Nat.le_refl _) (by omega) hK hK2 (show occN (insF F p) (m + 1) ≤ 2 ^ K by rw [hM.occ]; exact hnK.out) (by omega) hFb2
  rw [tail7_41]
  go_wp2
  conv => arg 2; whnf
  go_wp2_with (go_at_call 15; refine c15b.mono ?_; rintro e w4 ⟨rfl, hK4, hb4⟩)
  have hf4 := hf3.keep hK4 (fun h => d.2.1 h)
  have ha4 := ha3.keep hK4 (fun h => d.2.2.2.2 h)
  have ha5 : Own w4 ab L (fun j => .int .u8 (outL F O m K j : Nat)) := ha4
  have hb5 : Own w4 bb (L + 1) (fun j => .int .u8 (outL (insF F p) (insB O p) (m + 1) K j : Nat)) := hb4
  have hKz : Keeps Nob w0 w4 := by
    have h0 := hKw.size
    have h1 := hK3.size
    exact ⟨hK4.os.trans (hK3.os.trans hKw.os), hK4.tape.trans (hK3.tape.trans hKw.tape), hK4.output.trans (hK3.output.trans hKw.output), by have := hK4.size; omega, fun i hi _ => (hK4.block i (by omega) (by show ¬ i = bb; omega)).trans ((hK3.block i (by omega) (by show ¬ i = ab; omega)).trans (hKw.block i hi (fun h => h)))⟩
  have hC := out_complete (O := O) (by omega) hFb.out hn.out hK hK2 hnK.out
  have hI := outL_ins hm hpm F O (insB O p) K (fun x hx => by unfold insB; rw [if_neg (by omega), if_neg (by omega)]; rfl)
  have hf5 := hf4.slF (enc := encU32) (F := F) (fun _ => rfl) 0 w4.heap.size (Nat.zero_le _) hf4.lt
  have ha6 := ha5.slF (enc := encU8) (F := outL F O m K) (fun _ => rfl) 0 w4.heap.size (Nat.zero_le _) ha5.lt
  have hc16 := complete_any (c0 := m) (c1 := L) hf5 ha6 (by omega) hmL (by omega) hK2 hC
  have HI : Hid ((∀ x, outL (insF F p) (insB O p) (m + 1) K (up1 p x) = outL F O m K x) ∧ outL (insF F p) (insB O p) (m + 1) K p = 0) := hI
  clear hC hI hf5 ha6
  rw [tail7_42]
  go_wp2
  conv => arg 2; whnf
  go_wp2_with (go_at_call 16; refine hc16.mono ?_; rintro e w' ⟨rfl, he⟩; replace he := he.symm; subst he)
  exact l7c1 hKz ha5 hb5 hL (by omega) (fun x hx => by have := HI.out.1 x; rwa [up1, if_pos hx] at this) HI.out.2 (fun x hx => by have := HI.out.1 x; rwa [up1, if_neg (by omega)] at this)

end Go.Proofs.Qxb6617947a
