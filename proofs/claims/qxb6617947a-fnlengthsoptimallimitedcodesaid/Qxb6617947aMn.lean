import Derived.Test.Qxb6617947aMl
/-! zzMinLimitedCost: the whole. -/
namespace Go.Proofs.Qxb6617947a
open Go.RowKit
set_option linter.unusedVariables false
set_option linter.unusedSimpArgs false
theorem info24z : (Try.prog.info? 24).map (fun i => (i.zero, i.size, i.bytes)) = some (some (.int .u64 0), 1, 8) := by kernel_rfl
set_option maxHeartbeats 4000000 in
set_option maxRecDepth 100000 in
theorem m7 {w0 : World} {rb n K sd S : Nat} {t s wt : Nat → Nat} {x0 x2 x3 x4 x7 x8 x9 x10 x11 x12 x13 x14 x15 x16 x17 x18 x19 x20 x21 x22 x23 x24 x25 x26 x27 x28 x29 x30 x31 x32 x33 x34 x35 x36 x37 x38 x39 x40 x41 x42 x43 x44 x45 x46 x47 x48 x49 x50 x51 x52 x53 x54 x55 x56 x57 x58 x59 x60 x61 x62 x63 x64 x65 x66 x67 x68 x69 x70 x71 x72 x73 x74 x75 x76 x77 x78 x79 x80 x81 x82 x83 x84 x85 x86 x87 x88 x89 x90 x91 x92 x93 x94 x95 x96 x97 x98 x99 x100 x101 x102 x103 x104 x105 x106 x107 x108 x109 x110 x111 x112 x113 x114 x115 x116 x117 x118 x119 x120 x121 x122 x123 x124 x125 x126 x127 x128 x129 x130 x131 x132 x133 x134 x135 x136 x137 x138 x139 x140 x141 x142 x143 x144 x145 x146 x147 x148 x149 x150 x151 x152 x153 x154 x155 x156 x157 x158 x159 x160 x161 x162 x163 x164 x165 x166 x167 x168 x169 x170 x171 x172 x173 x174 x175 x176 x177 x178 x179 x180 x181 x182 x183 x184 x185 x186 x187 x188 x189 x190 x191 x192 x193 x194 x195 x196 x197 x198 : Value} {w : World}
    (hKw : Keeps Nob w0 w) (hr : Own w rb sd (fun i => .int .u64 (psum wt (n - i) : Nat))) (HSD : Hid (sd = n + 1)) (HSS : Hid (S = sd * sd)) (hsd1 : sd ≤ n + 1) (hsd2 : n + 1 ≤ sd) (esd : (n : Int) + 1 = (sd : Int)) (eS : (sd : Int) * (sd : Int) = (S : Int)) (hSb : S ≤ 263169) (hn : 2 ≤ n) (hn2 : n ≤ 512) (hK : 1 ≤ K) (hK2 : K ≤ 20) (C : Hid (Chain n K t s ∧ s K = 0)) (hw : Hid (Asc wt n)) (hW : Hid (psum wt n < 2 ^ 50)) (hO : Hid (pS wt n K (2 * n - 2) ≤ 18446744073709551615)) (hTot : Hid (psum (fun e => psum wt (s e)) K < INF)) :
    Code.wp Try.prog (tailF Try.f18 7) (bodyPost Try.prog Try.f18 fun e w' => ∃ r : Nat, e = .returned (.int .u64 r) ∧ pS wt n K (2 * n - 2) ≤ r ∧ r ≤ psum (fun e => psum wt (s e)) K ∧ Keeps Nob w0 w') ⟨#[x0, .int .i64 (K : Nat), x2, x3, x4, .int .i64 (n : Nat), .slice (some ⟨rb, 0, none⟩) sd sd, x7, x8, x9, x10, x11, x12, x13, x14, x15, x16, x17, x18, x19, x20, x21, x22, x23, x24, x25, x26, x27, x28, x29, x30, x31, x32, x33, x34, x35, x36, x37, x38, x39, x40, x41, x42, x43, x44, x45, x46, x47, x48, x49, x50, x51, x52, x53, x54, x55, x56, x57, x58, x59, x60, x61, x62, x63, x64, x65, x66, x67, x68, x69, x70, x71, x72, x73, x74, x75, x76, x77, x78, x79, x80, x81, x82, x83, x84, x85, x86, x87, x88, x89, x90, x91, x92, x93, x94, x95, x96, x97, x98, x99, x100, x101, x102, x103, x104, x105, x106, x107, x108, x109, x110, x111, x112, x113, x114, x115, x116, x117, x118, x119, x120, x121, x122, x123, x124, x125, x126, x127, x128, x129, x130, x131, x132, x133, x134, x135, x136, x137, x138, x139, x140, x141, x142, x143, x144, x145, x146, x147, x148, x149, x150, x151, x152, x153, x154, x155, x156, x157, x158, x159, x160, x161, x162, x163, x164, x165, x166, x167, x168, x169, x170, x171, x172, x173, x174, x175, x176, x177, x178, x179, x180, x181, x182, x183, x184, x185, x186, x187, x188, x189, x190, x191, x192, x193, x194, x195, x196, x197, x198], []⟩ w := by
  rw [tail18_7]
  go_wp2
  conv => arg 2; whnf
  go_wp2
  rw [tail18_8]
  go_wp2
  conv => arg 2; whnf
  go_wp2_with (at_make; refine wpList_make_blk _ rfl _ _ 44 rfl 24 (.int .u64 0) 8 rfl Try.underlying44 info24z _ _ S rfl rfl (by omega) (by unfold maxLen; omega) ?_)
  intro w1 hB hK1
  have hc0 := Own.rep hB
  have hr1 := hr.keep hK1 (fun h => h)
  have hs1 := hK1.size
  have hrl := hr.lt
  obtain ⟨b1, hb1⟩ : ∃ b1, w.heap.size = b1 := ⟨_, rfl⟩
  have HB1 : Hid (w.heap.size = b1) := hb1
  have hrb : rb < b1 := by omega
  rw [hb1] at hc0 ⊢
  clear hB hb1 hrl hs1
  go_wp2
  rw [tail18_9]
  go_wp2
  conv => arg 2; whnf
  go_wp2_with (at_make; refine wpList_make_blk _ rfl _ _ 44 rfl 24 (.int .u64 0) 8 rfl Try.underlying44 info24z _ _ S rfl rfl (by omega) (by unfold maxLen; omega) ?_)
  intro w2 hB hK2a
  have hx0 := Own.rep hB
  have hr2 := hr1.keep hK2a (fun h => h)
  have hc2 := hc0.keep hK2a (fun h => h)
  have hcl := hc0.lt
  obtain ⟨b2, hb2⟩ : ∃ b2, w1.heap.size = b2 := ⟨_, rfl⟩
  have HB2 : Hid (w1.heap.size = b2) := hb2
  have hb12 : b1 < b2 := by omega
  rw [hb2] at hx0 ⊢
  clear hB hb2 hcl
  go_wp2
  rw [tail18_10]
  go_wp2
  conv => arg 2; whnf
  go_wp2
  go_loopw [11] (fun v11 wr => ∃ (k : Nat) (X1 : Nat → Nat), k ≤ S ∧ v11 = .int .i64 k ∧ Keeps (fun b => b = b1) w2 wr ∧ Own wr b1 S (fun z => .int .u64 (X1 z : Nat)) ∧ ∀ z, z < k → X1 z = 18446744073709551615) (fun v11 _ => S - (intOf v11).toNat)
  case atStart => exact ⟨0, fun _ => 0, Nat.zero_le _, rfl, Keeps.refl _ _, hc2, fun z hz => absurd hz (Nat.not_lt_zero _)⟩
  case round =>
    obtain ⟨k, X1, hk, rfl, hKx, hx1, hXk⟩ := hrel
    have HXK : Hid (∀ z, z < k → X1 z = 18446744073709551615) := hXk
    clear hXk
    by_cases hlt : k < S
    · have c2 := hx1.cell k hlt
      have f2 := hx1.free k
      go_wp2
      refine ⟨?rel, ?measure⟩
      case rel =>
        refine ⟨k + 1, updF X1 k 18446744073709551615, by omega, by go_num, hKx.setCell (p := ⟨b1, k, none⟩) rfl _, (hx1.set hlt _).congr fun j _ => ?_, fun z hz => ?_⟩
        · unfold updV updF; split <;> rfl
        · unfold updF
          by_cases h : z = k
          · rw [if_pos h]
          · rw [if_neg h]; exact HXK.out z (by omega)
      case measure => simp [intOf]; omega
    · obtain rfl : k = S := by omega
      have hx3 : Own wr b1 k (tabV sd (fun _ _ => INF)) := hx1.congr fun j hj => by rw [HXK.out j hj]; rfl
      have hr3 := hr2.keep hKx (fun h => by omega)
      have hn3 := hx0.keep hKx (fun h => by omega)
      have hs0 := hKw.size
      have hs1 := hK1.size
      have hs2 := hK2a.size
      have hK9 : Keeps Nob w0 wr := by
        have h1 := HB1.out
        have h2 := HB2.out
        exact ⟨hKx.os.trans (hK2a.os.trans (hK1.os.trans hKw.os)), hKx.tape.trans (hK2a.tape.trans (hK1.tape.trans hKw.tape)), hKx.output.trans (hK2a.output.trans (hK1.output.trans hKw.output)), by have := hKx.size; omega, fun i hi _ => (hKx.block i (by omega) (by show ¬ i = b1; omega)).trans ((hK2a.block i (by omega) (fun h => h)).trans ((hK1.block i (by omega) (fun h => h)).trans (hKw.block i hi (fun h => h))))⟩
      have hlo : w0.heap.size ≤ b1 ∧ w0.heap.size ≤ b2 := by have h1 := HB1.out; have h2 := HB2.out; omega
      clear hx1 hc2 hc0 hr1 hr2 hx0 hK1 hK2a hKx hs0 hs1 hs2 hr hKw
      have hS3 : 2 < k := by
        have h1 := HSS.out
        have h2 : 3 * 3 ≤ sd * sd := Nat.mul_le_mul (by omega) (by omega)
        omega
      go_wp2
      rw [tail18_14]
      go_wp2
      conv => arg 2; whnf
      go_wp2
      rw [tail18_15]
      go_wp2
      conv => arg 2; whnf
      have cr := hr3.cell 0 (by omega)
      rw [Nat.sub_zero] at cr
      have cc := hx3.cell 2 hS3
      have fc := hx3.free 2
      have hset := tab_set hx3 (i := 0) (a := 2) (m0 := 0) (by omega) (Nat.zero_mul _) (by omega) (psum wt n)
      have hKs := hK9.setNew (p := ⟨b1, 2, none⟩) hlo.1 (.int .u64 (psum wt n : Nat))
      have hr4 := hr3.other (a := ⟨b1, 2, none⟩) (fun h => by have h2 : b1 = rb := h; omega) (.int .u64 (psum wt n : Nat))
      have hn4 := hn3.other (a := ⟨b1, 2, none⟩) (fun h => by have h2 : b1 = b2 := h; omega) (.int .u64 (psum wt n : Nat))
      rw [Nat.zero_add] at hset
      obtain ⟨R0, hR0⟩ : ∃ R0, psum wt n = R0 := ⟨_, rfl⟩
      rw [hR0] at cr hset hKs hr4 hn4
      have HR0 : Hid (psum wt n = R0) := hR0
      clear hR0 hx3 hK9
      go_wp2
      have hV0 : LBs wt n (pS wt n K (2 * n - 2)) (K - 1) (1 * psum wt n) (updT (fun _ _ => INF) 0 2 R0) := fun i a hia => by
        unfold updT
        by_cases h : i = 0 ∧ a = 2
        · rw [if_pos h, h.1, h.2]
          have h9 : psum wt n < 2 ^ 50 := hW.out
          have h8 : (2 : Nat) ^ 50 ≤ INF := by unfold INF; decide
          refine ⟨by rw [← HR0.out]; omega, fun _ => ⟨?_, by rw [HR0.out, Nat.one_mul]; exact Nat.le_refl _⟩⟩
          have h7 := LB_start hw.out hn (K - 1)
          rw [show K - 1 + 1 = K by omega, HR0.out] at h7
          exact h7
        · rw [if_neg h]; exact ⟨Nat.le_refl _, fun h => absurd h (Nat.lt_irrefl _)⟩
      have hU0 : UB wt n K t s 0 (updT (fun _ _ => INF) 0 2 R0) 18446744073709551615 := by
        left
        have h1 := C.out.1.s0 hK
        have h2 := C.out.1.t0
        rw [h1, h2, Nat.sub_self, show 2 * n - (2 * n - 2) = 2 by omega]
        refine ⟨by omega, ?_⟩
        show _ ≤ 0 + psum wt (s 0)
        rw [h1, HR0.out, Nat.zero_add, updT_at]
        exact Nat.le_refl _
      exact m16 hKs hr4 hset hn4 (by omega) (by omega) (by omega) hlo hn hn2 hK hK2 HSD HSS (by omega) (by omega) (by omega) C.out.1 C.out.2 hw hW hV0 hU0 hO.out hTot
set_option maxHeartbeats 4000000 in
set_option maxRecDepth 100000 in
theorem m0 {vb n vc K : Nat} {t s wt : Nat → Nat} {x2 x3 x4 x5 x6 x7 x8 x9 x10 x11 x12 x13 x14 x15 x16 x17 x18 x19 x20 x21 x22 x23 x24 x25 x26 x27 x28 x29 x30 x31 x32 x33 x34 x35 x36 x37 x38 x39 x40 x41 x42 x43 x44 x45 x46 x47 x48 x49 x50 x51 x52 x53 x54 x55 x56 x57 x58 x59 x60 x61 x62 x63 x64 x65 x66 x67 x68 x69 x70 x71 x72 x73 x74 x75 x76 x77 x78 x79 x80 x81 x82 x83 x84 x85 x86 x87 x88 x89 x90 x91 x92 x93 x94 x95 x96 x97 x98 x99 x100 x101 x102 x103 x104 x105 x106 x107 x108 x109 x110 x111 x112 x113 x114 x115 x116 x117 x118 x119 x120 x121 x122 x123 x124 x125 x126 x127 x128 x129 x130 x131 x132 x133 x134 x135 x136 x137 x138 x139 x140 x141 x142 x143 x144 x145 x146 x147 x148 x149 x150 x151 x152 x153 x154 x155 x156 x157 x158 x159 x160 x161 x162 x163 x164 x165 x166 x167 x168 x169 x170 x171 x172 x173 x174 x175 x176 x177 x178 x179 x180 x181 x182 x183 x184 x185 x186 x187 x188 x189 x190 x191 x192 x193 x194 x195 x196 x197 x198 : Value} {w : World}
    (hv : Own w vb n (fun j => .int .u64 (wt (n - 1 - j) : Nat))) (hn : 2 ≤ n) (hn2 : n ≤ 512) (hK : 1 ≤ K) (hK2 : K ≤ 20) (C : Hid (Chain n K t s ∧ s K = 0)) (hw : Hid (Asc wt n)) (hW : Hid (psum wt n < 2 ^ 50)) (hO : Hid (pS wt n K (2 * n - 2) ≤ 18446744073709551615)) (hTot : Hid (psum (fun e => psum wt (s e)) K < INF)) :
    Code.wp Try.prog (tailF Try.f18 0) (bodyPost Try.prog Try.f18 fun e w' => ∃ r : Nat, e = .returned (.int .u64 r) ∧ pS wt n K (2 * n - 2) ≤ r ∧ r ≤ psum (fun e => psum wt (s e)) K ∧ Keeps Nob w w') ⟨#[.slice (some ⟨vb, 0, none⟩) n vc, .int .i64 (K : Nat), x2, x3, x4, x5, x6, x7, x8, x9, x10, x11, x12, x13, x14, x15, x16, x17, x18, x19, x20, x21, x22, x23, x24, x25, x26, x27, x28, x29, x30, x31, x32, x33, x34, x35, x36, x37, x38, x39, x40, x41, x42, x43, x44, x45, x46, x47, x48, x49, x50, x51, x52, x53, x54, x55, x56, x57, x58, x59, x60, x61, x62, x63, x64, x65, x66, x67, x68, x69, x70, x71, x72, x73, x74, x75, x76, x77, x78, x79, x80, x81, x82, x83, x84, x85, x86, x87, x88, x89, x90, x91, x92, x93, x94, x95, x96, x97, x98, x99, x100, x101, x102, x103, x104, x105, x106, x107, x108, x109, x110, x111, x112, x113, x114, x115, x116, x117, x118, x119, x120, x121, x122, x123, x124, x125, x126, x127, x128, x129, x130, x131, x132, x133, x134, x135, x136, x137, x138, x139, x140, x141, x142, x143, x144, x145, x146, x147, x148, x149, x150, x151, x152, x153, x154, x155, x156, x157, x158, x159, x160, x161, x162, x163, x164, x165, x166, x167, x168, x169, x170, x171, x172, x173, x174, x175, x176, x177, x178, x179, x180, x181, x182, x183, x184, x185, x186, x187, x188, x189, x190, x191, x192, x193, x194, x195, x196, x197, x198], []⟩ w := by
  rw [tail18_0]
  go_wp2
  conv => arg 2; whnf
  go_wp2
  rw [tail18_1]
  go_wp2
  conv => arg 2; whnf
  go_wp2
  rw [tail18_2]
  go_wp2
  conv => arg 2; whnf
  obtain ⟨sd, hsd⟩ : ∃ sd, n + 1 = sd := ⟨_, rfl⟩
  have HSD : Hid (sd = n + 1) := hsd.symm
  have hsd1 : sd ≤ n + 1 := by omega
  have hsd2 : n + 1 ≤ sd := by omega
  have esd : (n : Int) + 1 = (sd : Int) := by omega
  clear hsd
  go_wp2_with (at_make; refine wpList_make_blk _ rfl _ _ 44 rfl 24 (.int .u64 0) 8 rfl Try.underlying44 info24z _ _ sd rfl rfl (by omega) (by unfold maxLen; omega) ?_)
  intro w1 hB hK1
  have hr0 := Own.rep hB
  have hv1 := hv.keep hK1 (fun h => h)
  have hvl := hv.lt
  obtain ⟨rb, hrb⟩ : ∃ rb, w.heap.size = rb := ⟨_, rfl⟩
  have HRB : Hid (w.heap.size = rb) := hrb
  have hvr : vb < rb := by omega
  rw [hrb] at hr0 ⊢
  clear hB hrb hvl hv
  go_wp2
  rw [tail18_3]
  go_wp2
  conv => arg 2; whnf
  go_wp2
  go_loopw [7] (fun v7 wr => ∃ (k : Nat) (z : Int), k ≤ n ∧ z = (k : Int) - 1 ∧ v7 = .int .i64 z ∧ Keeps (fun b => b = rb) w1 wr ∧ Own wr rb sd (fun j => .int .u64 (if k ≤ j then psum wt (n - j) else 0 : Nat))) (fun v7 _ => (intOf v7 + 1).toNat)
  case atStart => exact ⟨n, (n : Int) - 1, Nat.le_refl _, rfl, rfl, Keeps.refl _ _, hr0.congr fun j hj => by
      by_cases h : n ≤ j
      · rw [if_pos h, show n - j = 0 by omega]; rfl
      · rw [if_neg h]; rfl⟩
  case round =>
    obtain ⟨k, z, hk, hz, rfl, hKr, hor⟩ := hrel
    rcases Nat.eq_zero_or_pos k with hk0 | hk0
    · subst hk0
      have hz0 : ¬ (0 : Int) ≤ z := by omega
      have hz1 : z < 0 := by omega
      have hr9 : Own wr rb sd (fun j => .int .u64 (psum wt (n - j) : Nat)) := hor.congr fun j hj => by rw [if_pos (Nat.zero_le _)]
      have hK9 : Keeps Nob w wr := by
        have h1 := HRB.out
        exact ⟨hKr.os.trans hK1.os, hKr.tape.trans hK1.tape, hKr.output.trans hK1.output, by have := hKr.size; have := hK1.size; omega, fun i hi _ => (hKr.block i (by have := hK1.size; omega) (by show ¬ i = rb; omega)).trans (hK1.block i hi (fun h => h))⟩
      obtain ⟨S, hS⟩ : ∃ S, sd * sd = S := ⟨_, rfl⟩
      have HSS : Hid (S = sd * sd) := hS.symm
      have hSb : S ≤ 263169 := by rw [← hS]; exact Nat.mul_le_mul (show sd ≤ 513 by omega) (show sd ≤ 513 by omega)
      have eS : (sd : Int) * (sd : Int) = (S : Int) := by rw [← hS, Int.natCast_mul]
      clear hS hor hr0 hv1
      go_wp2
      exact m7 hK9 hr9 HSD HSS hsd1 hsd2 esd eS hSb hn hn2 hK hK2 C hw hW hO hTot
    · obtain ⟨i, rfl⟩ : ∃ i, k = i + 1 := ⟨k - 1, by omega⟩
      obtain rfl : z = (i : Int) := by omega
      have c1 := hor.cell (i + 1) (by omega)
      rw [if_pos (Nat.le_refl _)] at c1
      have c2 := (hv1.keep hKr (fun h => by omega)).cell i (by omega)
      have c3 := hor.cell i (by omega)
      have f3 := hor.free i
      have hsum : psum wt (n - i) = psum wt (n - (i + 1)) + wt (n - 1 - i) := by
        rw [show n - i = (n - (i + 1)) + 1 by omega, show n - 1 - i = n - (i + 1) by omega]; rfl
      obtain ⟨P, hP⟩ : ∃ P, psum wt (n - (i + 1)) = P := ⟨_, rfl⟩
      obtain ⟨x, hx⟩ : ∃ x, wt (n - 1 - i) = x := ⟨_, rfl⟩
      rw [hP] at c1 hsum
      rw [hx] at c2 hsum
      have hPx : P + x ≤ 1125899906842624 := by
        have h5 := psum_mono (f := wt) (a := n - i) (b := n) (by omega)
        rw [hsum] at h5
        exact Nat.le_trans h5 (Nat.le_of_lt hW.out)
      have HSUM : Hid (psum wt (n - i) = P + x) := hsum
      obtain ⟨q, hq⟩ : ∃ q, P + x = q := ⟨_, rfl⟩
      have HQ : Hid (P + x = q) := hq
      have eq : (P : Int) + (x : Int) = (q : Int) := by omega
      have hqb : q ≤ 1125899906842624 := by omega
      have hi0 : (0 : Int) ≤ (i : Int) := by omega
      have hi1 : (i : Int) + 1 < (sd : Int) := by omega
      have hi2 : (i : Int) < (sd : Int) := by omega
      have hi3 : (i : Int) < (n : Int) := by omega
      have hi4 : (0 : Int) ≤ (i : Int) + 1 := by omega
      clear hsum hP hx hq hPx hz
      go_wp2
      go_region
      go_wp2
      refine ⟨?rel, ?measure⟩
      case rel =>
        refine ⟨i, (i : Int) - 1, by omega, rfl, rfl, ?_, ?_⟩
        · first
          | exact hKr.setCell (p := ⟨rb, i, none⟩) rfl _
          | exact (hKr.drewN _).setCell (p := ⟨rb, i, none⟩) rfl _
          | exact hKr.drew.setCell (p := ⟨rb, i, none⟩) rfl _
          | exact (hKr.setCell (p := ⟨rb, i, none⟩) rfl _).drewN _
          | exact ((hKr.drewN _).setCell (p := ⟨rb, i, none⟩) rfl _).drewN _
        · have h9 : ∀ {w9 : World}, Own w9 rb sd (fun j => .int .u64 (if i + 1 ≤ j then psum wt (n - j) else 0 : Nat)) → Own (w9.setCell ⟨rb, i, none⟩ (.int .u64 (q : Nat))) rb sd (fun j => .int .u64 (if i ≤ j then psum wt (n - j) else 0 : Nat)) := fun h => (h.set (i := i) (by omega) _).congr fun j _ => by
            unfold updV
            by_cases hj : j = i
            · rw [if_pos hj, if_pos (by omega), hj, HSUM.out, HQ.out]
            · rw [if_neg hj]
              show Value.int .u64 ((if i + 1 ≤ j then psum wt (n - j) else 0 : Nat) : Int) = _
              by_cases h3 : i ≤ j
              · rw [if_pos h3, if_pos (by omega)]
              · rw [if_neg h3, if_neg (by omega)]
          first
          | exact h9 hor
          | exact h9 (hor.drewN _)
          | exact h9 hor.drew
          | exact (h9 hor).drewN _
          | exact (h9 (hor.drewN _)).drewN _
      case measure => simp [intOf]

set_option maxHeartbeats 4000000 in
set_option maxRecDepth 100000 in
theorem min_any {vb n vc K : Nat} {t s wt : Nat → Nat} {w : World} (hv : Own w vb n (fun j => .int .u64 (wt (n - 1 - j) : Nat))) (hn : 2 ≤ n) (hn2 : n ≤ 512) (hK : 1 ≤ K) (hK2 : K ≤ 20) (C : Hid (Chain n K t s ∧ s K = 0)) (hw : Hid (Asc wt n)) (hW : Hid (psum wt n < 2 ^ 50)) (hO : Hid (pS wt n K (2 * n - 2) ≤ 18446744073709551615)) (hTot : Hid (psum (fun e => psum wt (s e)) K < INF)) :
    Calls Try.prog 18 #[.slice (some ⟨vb, 0, none⟩) n vc, .int .i64 (K : Nat)] w (fun e w' => ∃ r : Nat, e = .returned (.int .u64 r) ∧ pS wt n K (2 * n - 2) ≤ r ∧ r ≤ psum (fun e => psum wt (s e)) K ∧ Keeps Nob w w') := by
  refine calls_of_wp Try.func18 body18 ?_
  simp only [Try.ntmps18, List.size_toArray, List.length_cons, List.length_nil, Nat.reduceAdd, Nat.reduceSub, Array.replicate_succ,
    Array.replicate_zero, List.push_toArray, List.append_toArray, List.nil_append, List.cons_append]
  exact m0 hv hn hn2 hK hK2 C hw hW hO hTot

end Go.Proofs.Qxb6617947a
