import Derived.Test.Qxb6619702aL5a
/-! FnPutScriptKeepsTasksByLatestRound: the copies, and whether they are well formed. -/
namespace Go.Proofs.Qxb6619702a
open Go.RowKit
set_option maxHeartbeats 4000000 in
set_option maxRecDepth 100000 in
theorem law5y {a0 a1 a2 a3 a4 a5 : Option Addr} {n c nb c1 na c2 nr c3 nf c4 sn c5 : Nat} {ID SC : Nat → ByteArray} {B A R FR : Nat → Int} {x6 x7 x8 x9 x10 x11 x12 x13 x14 x15 x16 x17 x18 x19 x20 x21 x22 x23 x24 x25 x26 x27 x28 x29 x30 x31 x32 x33 x34 x35 x36 x37 x38 x39 x40 x41 x42 x43 x44 x45 x46 x47 x48 x49 x50 x51 x52 x53 x54 x55 x56 x57 x58 x59 x60 x61 x62 x63 x64 x65 x66 x67 x68 x69 x70 x71 x72 x73 x74 x75 x76 x77 x78 x79 x80 x81 x82 x83 x84 x85 x86 x87 x88 x89 x90 x91 x92 x93 x94 x95 x96 x97 x98 x99 x100 x101 x102 x103 x104 x105 x106 x107 x108 x109 x110 x111 x112 x113 x114 x115 x116 x117 x118 x119 x120 x121 x122 x123 x124 x125 x126 x127 x128 x129 x130 x131 x132 x133 x134 x135 x136 x137 x138 x139 x140 x141 x142 x143 x144 x145 x146 x147 x148 x149 x150 x151 x152 x153 x154 x155 x156 x157 x158 x159 x160 x161 x162 x163 x164 x165 x166 x167 x168 x169 x170 x171 x172 x173 x174 x175 x176 x177 x178 x179 x180 x181 x182 x183 x184 x185 x186 x187 x188 x189 x190 x191 x192 x193 x194 x195 x196 x197 x198 x199 x200 x201 x202 x203 x204 x205 x206 x207 x208 x209 x210 x211 x212 x213 x214 x215 x216 x217 x218 x219 x220 x221 x222 x223 x224 x225 x226 x227 x228 x229 x230 x231 x232 x233 x234 x235 x236 x237 x238 x239 x240 x241 x242 x243 x244 x245 x246 x247 x248 x249 x250 x251 x252 x253 x254 x255 x256 x257 x258 x259 x260 x261 x262 x263 x264 x265 x266 x267 x268 x269 x270 x271 x272 x273 x274 x275 x276 x277 x278 x279 x280 x281 x282 x283 x284 x285 x286 x287 x288 x289 x290 x291 x292 x293 x294 x295 x296 x297 x298 x299 x300 x301 x302 x303 x304 x305 x306 x307 x308 x309 x310 x311 x312 x313 x314 x315 x316 x317 x318 x319 x320 x321 x322 x323 x324 x325 x326 x327 x328 x329 x330 x331 x332 x333 x334 x335 x336 x337 x338 x339 x340 x341 x342 x343 x344 x345 x346 x347 x348 x349 x350 x351 x352 x353 x354 x355 x356 x357 x358 x359 x360 x361 x362 x363 x364 x365 x366 x367 x368 x369 x370 x371 x372 x373 x374 x375 x376 x377 x378 x379 x380 x381 x382 x383 : Value} {w : World}
    (h0 : Arg Value.string w a0 n c ID) (h1 : Arg encI w a1 nb c1 B) (h2 : Arg encI w a2 na c2 A) (h3 : Arg encI w a3 nr c3 R) (h4 : Arg encI w a4 nf c4 FR) (h5 : Arg Value.string w a5 sn c5 SC)
    (hID : Hid (∀ j, j < n → (ID j).size ≤ maxLen)) (hSC : Hid (∀ j, j < sn → (SC j).size ≤ maxLen))
    (b0 : n ≤ 65536) (b1 : nb ≤ 65536) (b2 : na ≤ 65536) (b3 : nr ≤ 65536) (b4 : nf ≤ 65536) (b5 : sn ≤ 65536) :
    Code.wp Try.prog (tailF Try.f5 14) (bodyPost Try.prog Try.f5 fun e w' => e = .returned (.bool true) ∧ Keeps Nob w w') ⟨#[.slice a0 n c, .slice a1 nb c1, .slice a2 na c2, .slice a3 nr c3, .slice a4 nf c4, .slice a5 sn c5, x6, x7, x8, x9, x10, x11, x12, x13, x14, x15, x16, x17, x18, x19, x20, x21, x22, x23, x24, x25, x26, x27, x28, x29, x30, x31, x32, x33, x34, x35, x36, x37, x38, x39, x40, x41, x42, x43, x44, x45, x46, x47, x48, x49, x50, x51, x52, x53, x54, x55, x56, x57, x58, x59, x60, x61, x62, x63, x64, x65, x66, x67, x68, x69, x70, x71, x72, x73, x74, x75, x76, x77, x78, x79, x80, x81, x82, x83, x84, x85, x86, x87, x88, x89, x90, x91, x92, x93, x94, x95, x96, x97, x98, x99, x100, x101, x102, x103, x104, x105, x106, x107, x108, x109, x110, x111, x112, x113, x114, x115, x116, x117, x118, x119, x120, x121, x122, x123, x124, x125, x126, x127, x128, x129, x130, x131, x132, x133, x134, x135, x136, x137, x138, x139, x140, x141, x142, x143, x144, x145, x146, x147, x148, x149, x150, x151, x152, x153, x154, x155, x156, x157, x158, x159, x160, x161, x162, x163, x164, x165, x166, x167, x168, x169, x170, x171, x172, x173, x174, x175, x176, x177, x178, x179, x180, x181, x182, x183, x184, x185, x186, x187, x188, x189, x190, x191, x192, x193, x194, x195, x196, x197, x198, x199, x200, x201, x202, x203, x204, x205, x206, x207, x208, x209, x210, x211, x212, x213, x214, x215, x216, x217, x218, x219, x220, x221, x222, x223, x224, x225, x226, x227, x228, x229, x230, x231, x232, x233, x234, x235, x236, x237, x238, x239, x240, x241, x242, x243, x244, x245, x246, x247, x248, x249, x250, x251, x252, x253, x254, x255, x256, x257, x258, x259, x260, x261, x262, x263, x264, x265, x266, x267, x268, x269, x270, x271, x272, x273, x274, x275, x276, x277, x278, x279, x280, x281, x282, x283, x284, x285, x286, x287, x288, x289, x290, x291, x292, x293, x294, x295, x296, x297, x298, x299, x300, x301, x302, x303, x304, x305, x306, x307, x308, x309, x310, x311, x312, x313, x314, x315, x316, x317, x318, x319, x320, x321, x322, x323, x324, x325, x326, x327, x328, x329, x330, x331, x332, x333, x334, x335, x336, x337, x338, x339, x340, x341, x342, x343, x344, x345, x346, x347, x348, x349, x350, x351, x352, x353, x354, x355, x356, x357, x358, x359, x360, x361, x362, x363, x364, x365, x366, x367, x368, x369, x370, x371, x372, x373, x374, x375, x376, x377, x378, x379, x380, x381, x382, x383], []⟩ w := by
  rw [tail5_14]
  go_wp2
  conv => arg 2; whnf
  go_wp2_with (go_at_call 13; refine (cloneStrings_any a0 n c 0 w.heap.size ID w h0.nil (by omega) h0.cells).mono ?_)
  rintro e w1 ⟨d0, e0, rfl, -, hK1, hC0⟩
  have s1 := hK1.size
  have g1 := h1.cells.keep hK1 (Nat.le_refl _) (fun _ _ _ h => h)
  have g2 := h2.cells.keep hK1 (Nat.le_refl _) (fun _ _ _ h => h)
  have g3 := h3.cells.keep hK1 (Nat.le_refl _) (fun _ _ _ h => h)
  have g4 := h4.cells.keep hK1 (Nat.le_refl _) (fun _ _ _ h => h)
  have g5 := h5.cells.keep hK1 (Nat.le_refl _) (fun _ _ _ h => h)
  go_wp2
  rw [tail5_15]
  go_wp2
  conv => arg 2; whnf
  go_wp2_with (go_at_call 14; refine (cloneInts_any a1 nb c1 0 w.heap.size B w1 h1.nil (by omega) g1).mono ?_)
  rintro e w2 ⟨d1, e1, rfl, -, hK2, hC1⟩
  have s2 := hK2.size
  replace g2 := g2.keep hK2 (by omega) (fun _ _ _ h => h)
  replace g3 := g3.keep hK2 (by omega) (fun _ _ _ h => h)
  replace g4 := g4.keep hK2 (by omega) (fun _ _ _ h => h)
  replace g5 := g5.keep hK2 (by omega) (fun _ _ _ h => h)
  replace hC0 := hC0.keep hK2 (by omega) (fun _ _ _ h => h)
  replace hK2 := hK1.trans (hK2.mono fun _ _ h => h)
  clear hK1 g1
  go_wp2
  rw [tail5_16]
  go_wp2
  conv => arg 2; whnf
  go_wp2_with (go_at_call 14; refine (cloneInts_any a2 na c2 0 w.heap.size A w2 h2.nil (by omega) g2).mono ?_)
  rintro e w3 ⟨d2, e2, rfl, -, hK3, hC2⟩
  have s3 := hK3.size
  replace g3 := g3.keep hK3 (by omega) (fun _ _ _ h => h)
  replace g4 := g4.keep hK3 (by omega) (fun _ _ _ h => h)
  replace g5 := g5.keep hK3 (by omega) (fun _ _ _ h => h)
  replace hC0 := hC0.keep hK3 (by omega) (fun _ _ _ h => h)
  replace hC1 := hC1.keep hK3 (by omega) (fun _ _ _ h => h)
  replace hK3 := hK2.trans (hK3.mono fun _ _ h => h)
  clear hK2 g2
  go_wp2
  rw [tail5_17]
  go_wp2
  conv => arg 2; whnf
  go_wp2_with (go_at_call 14; refine (cloneInts_any a3 nr c3 0 w.heap.size R w3 h3.nil (by omega) g3).mono ?_)
  rintro e w4 ⟨d3, e3, rfl, -, hK4, hC3⟩
  have s4 := hK4.size
  replace g4 := g4.keep hK4 (by omega) (fun _ _ _ h => h)
  replace g5 := g5.keep hK4 (by omega) (fun _ _ _ h => h)
  replace hC0 := hC0.keep hK4 (by omega) (fun _ _ _ h => h)
  replace hC1 := hC1.keep hK4 (by omega) (fun _ _ _ h => h)
  replace hC2 := hC2.keep hK4 (by omega) (fun _ _ _ h => h)
  replace hK4 := hK3.trans (hK4.mono fun _ _ h => h)
  clear hK3 g3
  go_wp2
  rw [tail5_18]
  go_wp2
  conv => arg 2; whnf
  go_wp2_with (go_at_call 14; refine (cloneInts_any a4 nf c4 0 w.heap.size FR w4 h4.nil (by omega) g4).mono ?_)
  rintro e w5 ⟨d4, e4, rfl, he4, hK5, hC4⟩
  have s5 := hK5.size
  replace g5 := g5.keep hK5 (by omega) (fun _ _ _ h => h)
  replace hC0 := hC0.keep hK5 (by omega) (fun _ _ _ h => h)
  replace hC1 := hC1.keep hK5 (by omega) (fun _ _ _ h => h)
  replace hC2 := hC2.keep hK5 (by omega) (fun _ _ _ h => h)
  replace hC3 := hC3.keep hK5 (by omega) (fun _ _ _ h => h)
  replace hK5 := hK4.trans (hK5.mono fun _ _ h => h)
  clear hK4 g4
  go_wp2
  rw [tail5_19]
  go_wp2
  conv => arg 2; whnf
  go_wp2_with (go_at_call 13; refine (cloneStrings_any a5 sn c5 0 w.heap.size SC w5 h5.nil (by omega) g5).mono ?_)
  rintro e w6 ⟨d5, e5, rfl, -, hK6, hC5⟩
  have s6 := hK6.size
  replace hC0 := hC0.keep hK6 (by omega) (fun _ _ _ h => h)
  replace hC1 := hC1.keep hK6 (by omega) (fun _ _ _ h => h)
  replace hC2 := hC2.keep hK6 (by omega) (fun _ _ _ h => h)
  replace hC3 := hC3.keep hK6 (by omega) (fun _ _ _ h => h)
  replace hC4 := hC4.keep hK6 (by omega) (fun _ _ _ h => h)
  replace hK6 := hK5.trans (hK6.mono fun _ _ h => h)
  clear hK5 g5
  have hB0 := hC0.wide (Nat.zero_le _) (show w1.heap.size ≤ w6.heap.size by omega)
  have hB1 := hC1.wide (Nat.zero_le _) (show w2.heap.size ≤ w6.heap.size by omega)
  have hB2 := hC2.wide (Nat.zero_le _) (show w3.heap.size ≤ w6.heap.size by omega)
  have hB3 := hC3.wide (Nat.zero_le _) (show w4.heap.size ≤ w6.heap.size by omega)
  have hB4 := hC4.wide (Nat.zero_le _) (show w5.heap.size ≤ w6.heap.size by omega)
  have hB5 := hC5.wide (Nat.zero_le _) (Nat.le_refl _)
  have sw := hK6.size
  have hd4 : Hid (d4 = none → nf = 0 ∧ e4 = 0) := he4.2
  clear hC0 hC1 hC2 hC3 hC4 hC5 h0 h1 h2 h3 h4 h5 s1 s2 s3 s4 s5 s6 w1 w2 w3 w4 w5 he4
  go_wp2
  rw [tail5_20]
  go_wp2
  conv => arg 2; whnf
  go_wp2_with (go_at_call 15; refine (wellFormed_any d0 d1 d2 d3 d4 n e0 nb e1 na e2 nr e3 nf e4 w6.heap.size w6.heap.size w6.heap.size w6.heap.size ID B A FR w6 (by omega) (by omega) hB0 hB1 hB2 hB4 hID.out (Nat.le_refl _) (Nat.le_refl _)).mono ?_)
  intro e w7 hwell
  obtain ⟨hK7, hwell⟩ := hwell.uni
  rcases hwell with rfl | ⟨L, ao, co, ix, bm, rfl, hgood, hbm1, hbm2, hO, hM⟩
  · go_wp2
    rw [tail5_21]
    go_wp2
    conv => arg 2; whnf
    go_wp2
    go_ret
    exact ⟨rfl, hK6.trans (hK7.mono fun _ _ h => h)⟩
  have hgood : Hid (WGood n nb na nr nf ID B A FR L ix) := hgood
  have hM : Hid (∀ b, ix = some b → b = bm ∧ bm < w7.heap.size ∧ OwnM w7 bm (idx ID L) L.length L.length) := hM
  obtain ⟨rfl, rfl, rfl⟩ := hgood.out.lens
  have q0 := hB0.keep hK7 (Nat.le_refl _) (fun _ _ _ h => h)
  have q1 := hB1.keep hK7 (Nat.le_refl _) (fun _ _ _ h => h)
  have q2 := hB2.keep hK7 (Nat.le_refl _) (fun _ _ _ h => h)
  have q3 := hB3.keep hK7 (Nat.le_refl _) (fun _ _ _ h => h)
  have q4 := hB4.keep hK7 (Nat.le_refl _) (fun _ _ _ h => h)
  have q5 := hB5.keep hK7 (Nat.le_refl _) (fun _ _ _ h => h)
  have hKw := hK6.trans (hK7.mono fun _ _ h => h)
  clear hB0 hB1 hB2 hB3 hB4 hB5 hK6 hK7
  go_wp2
  rw [tail5_21]
  go_wp2
  conv => arg 2; whnf
  go_wp2
  exact law5a hKw (by omega) hbm2 hbm1 hgood hID hM hO q0 q1 q2 q3 q4 q5 hd4 hSC b4 b0 b5
end Go.Proofs.Qxb6619702a
