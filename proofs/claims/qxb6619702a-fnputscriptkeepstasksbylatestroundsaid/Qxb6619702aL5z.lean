import Derived.Test.Qxb6619702aL5y
/-! FnPutScriptKeepsTasksByLatestRound: from the entry on. -/
namespace Go.Proofs.Qxb6619702a
open Go.RowKit
set_option maxHeartbeats 4000000 in
set_option maxRecDepth 100000 in
theorem law5z {a0 a1 a2 a3 a4 a5 : Option Addr} {n c nb c1 na c2 nr c3 nf c4 sn c5 : Nat} {ID SC : Nat → ByteArray} {B A R FR : Nat → Int} {x6 x7 x8 x9 x10 x11 x12 x13 x14 x15 x16 x17 x18 x19 x20 x21 x22 x23 x24 x25 x26 x27 x28 x29 x30 x31 x32 x33 x34 x35 x36 x37 x38 x39 x40 x41 x42 x43 x44 x45 x46 x47 x48 x49 x50 x51 x52 x53 x54 x55 x56 x57 x58 x59 x60 x61 x62 x63 x64 x65 x66 x67 x68 x69 x70 x71 x72 x73 x74 x75 x76 x77 x78 x79 x80 x81 x82 x83 x84 x85 x86 x87 x88 x89 x90 x91 x92 x93 x94 x95 x96 x97 x98 x99 x100 x101 x102 x103 x104 x105 x106 x107 x108 x109 x110 x111 x112 x113 x114 x115 x116 x117 x118 x119 x120 x121 x122 x123 x124 x125 x126 x127 x128 x129 x130 x131 x132 x133 x134 x135 x136 x137 x138 x139 x140 x141 x142 x143 x144 x145 x146 x147 x148 x149 x150 x151 x152 x153 x154 x155 x156 x157 x158 x159 x160 x161 x162 x163 x164 x165 x166 x167 x168 x169 x170 x171 x172 x173 x174 x175 x176 x177 x178 x179 x180 x181 x182 x183 x184 x185 x186 x187 x188 x189 x190 x191 x192 x193 x194 x195 x196 x197 x198 x199 x200 x201 x202 x203 x204 x205 x206 x207 x208 x209 x210 x211 x212 x213 x214 x215 x216 x217 x218 x219 x220 x221 x222 x223 x224 x225 x226 x227 x228 x229 x230 x231 x232 x233 x234 x235 x236 x237 x238 x239 x240 x241 x242 x243 x244 x245 x246 x247 x248 x249 x250 x251 x252 x253 x254 x255 x256 x257 x258 x259 x260 x261 x262 x263 x264 x265 x266 x267 x268 x269 x270 x271 x272 x273 x274 x275 x276 x277 x278 x279 x280 x281 x282 x283 x284 x285 x286 x287 x288 x289 x290 x291 x292 x293 x294 x295 x296 x297 x298 x299 x300 x301 x302 x303 x304 x305 x306 x307 x308 x309 x310 x311 x312 x313 x314 x315 x316 x317 x318 x319 x320 x321 x322 x323 x324 x325 x326 x327 x328 x329 x330 x331 x332 x333 x334 x335 x336 x337 x338 x339 x340 x341 x342 x343 x344 x345 x346 x347 x348 x349 x350 x351 x352 x353 x354 x355 x356 x357 x358 x359 x360 x361 x362 x363 x364 x365 x366 x367 x368 x369 x370 x371 x372 x373 x374 x375 x376 x377 x378 x379 x380 x381 x382 x383 : Value} {w : World}
    (h0 : Arg Value.string w a0 n c ID) (h1 : Arg encI w a1 nb c1 B) (h2 : Arg encI w a2 na c2 A) (h3 : Arg encI w a3 nr c3 R) (h4 : Arg encI w a4 nf c4 FR) (h5 : Arg Value.string w a5 sn c5 SC)
    (hID : Hid (∀ j, j < n → (ID j).size ≤ maxLen)) (hSC : Hid (∀ j, j < sn → (SC j).size ≤ maxLen)) :
    Code.wp Try.prog (tailF Try.f5 0) (bodyPost Try.prog Try.f5 fun e w' => e = .returned (.bool true) ∧ Keeps Nob w w') ⟨#[.slice a0 n c, .slice a1 nb c1, .slice a2 na c2, .slice a3 nr c3, .slice a4 nf c4, .slice a5 sn c5, x6, x7, x8, x9, x10, x11, x12, x13, x14, x15, x16, x17, x18, x19, x20, x21, x22, x23, x24, x25, x26, x27, x28, x29, x30, x31, x32, x33, x34, x35, x36, x37, x38, x39, x40, x41, x42, x43, x44, x45, x46, x47, x48, x49, x50, x51, x52, x53, x54, x55, x56, x57, x58, x59, x60, x61, x62, x63, x64, x65, x66, x67, x68, x69, x70, x71, x72, x73, x74, x75, x76, x77, x78, x79, x80, x81, x82, x83, x84, x85, x86, x87, x88, x89, x90, x91, x92, x93, x94, x95, x96, x97, x98, x99, x100, x101, x102, x103, x104, x105, x106, x107, x108, x109, x110, x111, x112, x113, x114, x115, x116, x117, x118, x119, x120, x121, x122, x123, x124, x125, x126, x127, x128, x129, x130, x131, x132, x133, x134, x135, x136, x137, x138, x139, x140, x141, x142, x143, x144, x145, x146, x147, x148, x149, x150, x151, x152, x153, x154, x155, x156, x157, x158, x159, x160, x161, x162, x163, x164, x165, x166, x167, x168, x169, x170, x171, x172, x173, x174, x175, x176, x177, x178, x179, x180, x181, x182, x183, x184, x185, x186, x187, x188, x189, x190, x191, x192, x193, x194, x195, x196, x197, x198, x199, x200, x201, x202, x203, x204, x205, x206, x207, x208, x209, x210, x211, x212, x213, x214, x215, x216, x217, x218, x219, x220, x221, x222, x223, x224, x225, x226, x227, x228, x229, x230, x231, x232, x233, x234, x235, x236, x237, x238, x239, x240, x241, x242, x243, x244, x245, x246, x247, x248, x249, x250, x251, x252, x253, x254, x255, x256, x257, x258, x259, x260, x261, x262, x263, x264, x265, x266, x267, x268, x269, x270, x271, x272, x273, x274, x275, x276, x277, x278, x279, x280, x281, x282, x283, x284, x285, x286, x287, x288, x289, x290, x291, x292, x293, x294, x295, x296, x297, x298, x299, x300, x301, x302, x303, x304, x305, x306, x307, x308, x309, x310, x311, x312, x313, x314, x315, x316, x317, x318, x319, x320, x321, x322, x323, x324, x325, x326, x327, x328, x329, x330, x331, x332, x333, x334, x335, x336, x337, x338, x339, x340, x341, x342, x343, x344, x345, x346, x347, x348, x349, x350, x351, x352, x353, x354, x355, x356, x357, x358, x359, x360, x361, x362, x363, x364, x365, x366, x367, x368, x369, x370, x371, x372, x373, x374, x375, x376, x377, x378, x379, x380, x381, x382, x383], []⟩ w := by
  rw [tail5_0]
  go_wp2
  conv => arg 2; whnf
  go_wp2
  rw [tail5_1]
  go_wp2
  conv => arg 2; whnf
  go_wp2_with (go_at_call 12; refine (bytesScript_any a0 a1 a2 a3 a4 a5 n c nb c1 na c2 nr c3 nf c4 sn c5 0 w.heap.size ID SC w h0.le h5.le h0.cells h5.cells).mono ?_)
  rintro e w' ⟨⟨z, rfl⟩, hw⟩
  obtain rfl : w = w' := hw.symm
  have l0 := h0.le
  have l1 := h1.le
  have l2 := h2.le
  have l3 := h3.le
  have l4 := h4.le
  have l5 := h5.le
  cases z
  · go_wp2
    go_ret
    exact ⟨rfl, Keeps.refl _ _⟩
  go_wp2
  rw [tail5_3]
  go_wp2
  conv => arg 2; whnf
  by_cases b0 : 65536 < n
  · go_wp2
    all_goals (go_ret; exact ⟨rfl, Keeps.refl _ _⟩)
  replace b0 : n ≤ 65536 := by omega
  by_cases b1 : 65536 < nb
  · go_wp2
    all_goals (go_ret; exact ⟨rfl, Keeps.refl _ _⟩)
  replace b1 : nb ≤ 65536 := by omega
  by_cases b2 : 65536 < na
  · go_wp2
    all_goals (go_ret; exact ⟨rfl, Keeps.refl _ _⟩)
  replace b2 : na ≤ 65536 := by omega
  by_cases b3 : 65536 < nr
  · go_wp2
    all_goals (go_ret; exact ⟨rfl, Keeps.refl _ _⟩)
  replace b3 : nr ≤ 65536 := by omega
  by_cases b4 : 65536 < nf
  · go_wp2
    all_goals (go_ret; exact ⟨rfl, Keeps.refl _ _⟩)
  replace b4 : nf ≤ 65536 := by omega
  by_cases b5 : 65536 < sn
  · go_wp2
    all_goals (go_ret; exact ⟨rfl, Keeps.refl _ _⟩)
  replace b5 : sn ≤ 65536 := by omega
  go_wp2
  rw [tail5_5]
  go_wp2
  conv => arg 2; whnf
  go_wp2
  rw [tail5_6]
  go_wp2
  conv => arg 2; whnf
  by_cases b8 : 1048576 < 8 * (nb + na + nr + nf)
  · go_wp2
    go_ret; exact ⟨rfl, Keeps.refl _ _⟩
  replace b8 : 8 * (nb + na + nr + nf) ≤ 1048576 := by omega
  go_wp2
  rw [tail5_8]
  go_wp2
  conv => arg 2; whnf
  go_wp2_with (go_at_call 8; refine (addStrings_any _ a0 n c 0 w.heap.size ID w h0.le h0.cells).mono ?_)
  rintro e w' ⟨⟨z, rfl⟩, hw⟩
  obtain rfl : w = w' := hw.symm
  go_wp2
  rw [tail5_9]
  go_wp2
  conv => arg 2; whnf
  by_cases b9 : 1048576 < z
  · go_wp2
    go_ret; exact ⟨rfl, Keeps.refl _ _⟩
  go_wp2
  rw [tail5_11]
  go_wp2
  conv => arg 2; whnf
  go_wp2_with (go_at_call 8; refine (addStrings_any _ a5 sn c5 0 w.heap.size SC w h5.le h5.cells).mono ?_)
  rintro e w' ⟨⟨z', rfl⟩, hw⟩
  obtain rfl : w = w' := hw.symm
  go_wp2
  rw [tail5_12]
  go_wp2
  conv => arg 2; whnf
  by_cases b10 : 1048576 < z'
  · go_wp2
    go_ret; exact ⟨rfl, Keeps.refl _ _⟩
  go_wp2
  exact law5y h0 h1 h2 h3 h4 h5 hID hSC b0 b1 b2 b3 b4 b5
end Go.Proofs.Qxb6619702a
