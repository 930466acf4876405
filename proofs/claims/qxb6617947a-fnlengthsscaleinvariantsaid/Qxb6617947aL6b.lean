import Derived.Test.Qxb6617947aL6c
/-! FnLengthsScaleInvariant: the clones, and Lengths twice. -/
namespace Go.Proofs.Qxb6617947a
open Go.RowKit
set_option linter.unusedVariables false
set_option linter.unusedSimpArgs false
set_option maxHeartbeats 4000000 in
set_option maxRecDepth 100000 in
theorem l6b {w0 : World} {fb gb lb lo m L cap K c : Nat} {F O : Nat → Nat} {x3 x4 x5 x6 x7 x8 x9 x10 x11 x13 x14 x15 x16 x17 x18 x19 x20 x21 x22 x23 x24 x25 x26 x27 x28 x29 x30 x31 x32 x33 x34 x35 x36 x37 x38 x39 x40 x41 x42 x43 x44 x45 x46 x47 x48 x49 x50 x51 x52 x53 x54 x55 x56 x57 x58 x59 x60 x61 x62 x63 x64 x65 x66 x67 x68 x69 x70 x71 x72 x73 x74 x75 x76 x77 x78 x79 x80 x81 x82 x83 x84 x85 x86 x87 x88 x89 x90 x91 x92 x93 x94 x95 x96 x97 x98 x99 x100 x101 x102 x103 x104 x105 x106 x107 x108 x109 x110 x111 x112 x113 x114 x115 x116 x117 x118 x119 x120 x121 x122 x123 : Value} {w : World}
    (hKw : Keeps Nob w0 w) (hf : Own w fb m (fun j => .int .u32 (F j : Nat))) (hg : Own w gb m (fun j => .int .u32 (F j * c : Nat))) (hc1 : 1 ≤ c) (hcF : Hid (∀ i, i < m → F i * c < 4294967296))
    (hm : m ≤ 512) (hmL : m ≤ L) (hcap : L ≤ cap) (hcap2 : cap ≤ 9223372036854775807) (hK : 1 ≤ K) (hK2 : K ≤ 20) (hL : L ≤ 65536) (hlc : ∀ j, j < L → w.cell? ⟨lb, lo + j, none⟩ = some (.int .u8 (O j : Nat))) (hn : Hid (2 ≤ occN F m)) (hnK : Hid (occN F m ≤ 2 ^ K)) (hFb : Hid (∀ i, i < m → F i < 4294967296)) :
    Code.wp Try.prog (tailF Try.f6 30) (bodyPost Try.prog Try.f6 fun e w' => e = .returned (.bool true) ∧ Keeps Nob w0 w') ⟨#[.slice (some ⟨fb, 0, none⟩) m m, .slice (some ⟨lb, lo, none⟩) L cap, .int .i64 (K : Nat), x3, x4, x5, x6, x7, x8, x9, x10, x11, .slice (some ⟨gb, 0, none⟩) m m, x13, x14, x15, x16, x17, x18, x19, x20, x21, x22, x23, x24, x25, x26, x27, x28, x29, x30, x31, x32, x33, x34, x35, x36, x37, x38, x39, x40, x41, x42, x43, x44, x45, x46, x47, x48, x49, x50, x51, x52, x53, x54, x55, x56, x57, x58, x59, x60, x61, x62, x63, x64, x65, x66, x67, x68, x69, x70, x71, x72, x73, x74, x75, x76, x77, x78, x79, x80, x81, x82, x83, x84, x85, x86, x87, x88, x89, x90, x91, x92, x93, x94, x95, x96, x97, x98, x99, x100, x101, x102, x103, x104, x105, x106, x107, x108, x109, x110, x111, x112, x113, x114, x115, x116, x117, x118, x119, x120, x121, x122, x123], []⟩ w := by
  rw [tail6_30]
  go_wp2
  conv => arg 2; whnf
  go_wp2_with (go_at_call 11; refine (clone_any hlc (by omega)).mono ?_; rintro e w1 ⟨ab, rfl, hab, hK1, ha⟩)
  have hf1 := hf.keep hK1 (fun h => h)
  have hg1 := hg.keep hK1 (fun h => h)
  have hlc1 : ∀ j, j < L → w1.cell? ⟨lb, lo + j, none⟩ = some (.int .u8 (O j : Nat)) := fun j hj => (hK1.cell (p := ⟨lb, lo + j, none⟩) (World.block_lt_of_cell? w _ (hlc j hj)) (fun h => h)).trans (hlc j hj)
  have hs1 := hK1.size
  rw [tail6_31]
  go_wp2
  conv => arg 2; whnf
  go_wp2_with (go_at_call 11; refine (clone_any hlc1 (by omega)).mono ?_; rintro e w2 ⟨bb, rfl, hbb, hK2a, hb⟩)
  have hf2 := hf1.keep hK2a (fun h => h)
  have hg2 := hg1.keep hK2a (fun h => h)
  have ha2 := ha.keep hK2a (fun h => h)
  have hal := ha.lt
  have hfl := hf.lt
  have hgl := hg.lt
  have hs2 := hK2a.size
  have c15 := lengths_any (fc := m) (cap := L) (hf2.slF (enc := encU32) (F := F) (fun _ => rfl) 0 w2.heap.size (Nat.zero_le _) hf2.lt) ha2 hn hm hmL (Nat.le_refl _) (by omega) hK hK2 hnK (by omega) hFb
  rw [tail6_32]
  go_wp2
  conv => arg 2; whnf
  go_wp2_with (go_at_call 15; refine c15.mono ?_; rintro e w3 ⟨rfl, hK3, ha3⟩)
  have hf3 := hf2.keep hK3 (fun h => by omega)
  have hg3 := hg2.keep hK3 (fun h => by omega)
  have hb3 := hb.keep hK3 (fun h => by omega)
  have hs3 := hK3.size
  have hM := moves_scale (c := c) hc1 hm F
  have c15b := lengths_any (fc := m) (cap := L) (hg3.slF (enc := encU32) (F := fun i => F i * c) (fun _ => rfl) 0 w3.heap.size (Nat.zero_le _) hg3.lt) hb3 (show 2 ≤ occN (fun i => F i * c) m by rw [hM.occ]; exact hn.out) hm hmL (Nat.le_refl _) (by omega) hK hK2 (show occN (fun i => F i * c) m ≤ 2 ^ K by rw [hM.occ]; exact hnK.out) (by omega) hcF
  rw [tail6_33]
  go_wp2
  conv => arg 2; whnf
  go_wp2_with (go_at_call 15; refine c15b.mono ?_; rintro e w4 ⟨rfl, hK4, hb4⟩)
  have hf4 := hf3.keep hK4 (fun h => by omega)
  have ha4 := ha3.keep hK4 (fun h => by omega)
  have e1 : outL (fun i => F i * c) O m K = outL F O m K := outL_scale hc1 hm F O K
  have hb5 : Own w4 bb L (fun j => .int .u8 (outL F O m K j : Nat)) := by rw [← e1]; exact hb4
  have ha5 : Own w4 ab L (fun j => .int .u8 (outL F O m K j : Nat)) := ha4
  have hKz : Keeps Nob w0 w4 := by
    refine ⟨hK4.os.trans (hK3.os.trans (hK2a.os.trans (hK1.os.trans hKw.os))), hK4.tape.trans (hK3.tape.trans (hK2a.tape.trans (hK1.tape.trans hKw.tape))), hK4.output.trans (hK3.output.trans (hK2a.output.trans (hK1.output.trans hKw.output))), ?_, fun i hi _ => ?_⟩
    · have := hK4.size; have := hKw.size; omega
    · have h0 := hKw.size
      exact (hK4.block i (by omega) (by show ¬ i = bb; omega)).trans ((hK3.block i (by omega) (by show ¬ i = ab; omega)).trans ((hK2a.block i (by omega) (fun h => h)).trans ((hK1.block i (by omega) (fun h => h)).trans (hKw.block i hi (fun h => h)))))
  have hC := out_complete (O := O) hm hFb.out hn.out hK hK2 hnK.out
  exact l6c hKz hf4 ha5 hb5 hm hmL hK hK2 hL hC

end Go.Proofs.Qxb6617947a
