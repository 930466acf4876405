import Derived.Test.Qxb6619702aL6e
/-! FnPutKeepsTaskLatestInOrder: the table is read. -/
namespace Go.Proofs.Qxb6619702a
open Go.RowKit
set_option maxHeartbeats 4000000 in
set_option maxRecDepth 100000 in
theorem law6d {w0 : World} {tb g c m n used e0 e1 e2 e3 cw bm lo2 hi2 lo4 hi4 lo6 hi6 KK nf e4 q cf lo5 hi5 : Nat} {t : Int} {id pr : ByteArray} {d0 d1 d2 d3 d4 af aw : Option Addr} {W : List Nat} {M : ByteArray → Option Int} {S' : Slots} {ID : Nat → ByteArray} {B A R FR : Nat → Int} {x5 x9 x10 x11 x12 x13 x14 x15 x16 x17 x18 x19 x20 x21 x22 x23 x24 x25 x26 x28 x33 x34 x36 x37 x38 x39 x40 x41 x42 x43 x44 x45 x46 x47 x48 x49 x50 x51 x52 x53 x54 x55 x56 x57 x58 x59 x60 x61 x62 x63 x64 x65 x66 x67 x68 x69 x70 x71 x72 x73 x74 x75 x76 x77 x78 x79 x80 x81 x82 x83 x84 x85 x86 x87 x88 x89 x90 x91 x92 x93 x94 x95 x96 x97 x98 x99 x100 x101 x102 x103 x104 x105 x106 x107 x108 x109 x110 x111 x112 x113 x114 x115 x116 x117 x118 x119 x120 x121 x122 x123 x124 x125 x126 x127 x128 x129 x130 x131 x132 x133 x134 x135 x136 x137 x138 x139 x140 x141 x142 x143 x144 x145 x146 x147 x148 x149 x150 x151 x152 x153 x154 x155 x156 x157 x158 x159 x160 x161 x162 x163 x164 x165 x166 x167 x168 x169 x170 x171 x172 x173 x174 x175 x176 x177 x178 x179 x180 x181 x182 x183 x184 x185 x186 x187 x188 x189 x190 x191 x192 x193 x194 x195 x196 x197 x198 x199 x200 x201 x202 x203 x204 x205 x206 x207 x208 x209 x210 x211 x212 x213 x214 x215 x216 x217 x218 x219 x220 x221 x222 x223 x224 x225 x226 x227 x228 x229 x230 x231 x232 x233 x234 x235 x236 x237 x238 x239 x240 x241 x242 x243 x244 x245 x246 x247 x248 x249 x250 x251 x252 x253 x254 x255 x256 x257 x258 x259 x260 x261 x262 x263 x264 x265 x266 x267 x268 x269 x270 x271 x272 x273 x274 x275 x276 x277 x278 x279 x280 x281 x282 x283 x284 x285 x286 x287 x288 x289 x290 x291 x292 x293 x294 x295 x296 x297 x298 x299 x300 x301 x302 x303 x304 x305 x306 x307 x308 x309 x310 x311 x312 x313 x314 x315 x316 x317 x318 x319 x320 x321 x322 x323 x324 x325 x326 x327 x328 x329 x330 x331 x332 x333 x334 x335 x336 x337 x338 x339 x340 x341 x342 x343 x344 x345 x346 x347 x348 x349 x350 x351 x352 x353 x354 x355 x356 x357 x358 x359 x360 x361 x362 x363 x364 x365 x366 x367 x368 x369 x370 x371 x372 x373 x374 x375 x376 x377 x378 x379 x380 x381 x382 x383 x384 x385 x386 x387 x388 x389 x390 x391 x392 x393 x394 x395 x396 x397 x398 x399 x400 x401 x402 x403 x404 x405 x406 x407 x408 x409 x410 x411 x412 x413 x414 x415 x416 x417 x418 x419 x420 x421 x422 x423 x424 x425 x426 x427 x428 x429 x430 x431 x432 x433 x434 x435 x436 x437 x438 : Value} {w : World}
    (hKw : Keeps Nob w0 w) (hT : Blk w tb 63 [.slice (some ⟨g, 0, none⟩) m c, .slice af q cf, .map (some bm)]) (hown : w.ownsRow (tb + 1) 65 12 (.slice (some ⟨g, 0, none⟩) m c) m (cellsS m S')) (hM : OwnM w bm M W.length KK) (hO : SlF encI w lo2 hi2 aw W.length (fun j => (W.getD j 0 : Int)))
    (g0 : SlF Value.string w lo6 hi6 d0 n ID) (g1 : SlF encI w lo6 hi6 d1 n B) (g2 : SlF encI w lo6 hi6 d2 n A) (g3 : SlF encI w lo6 hi6 d3 n R)
    (hF : SlF encI w lo5 hi5 af q FR) (hF4 : SlF encI w lo4 hi4 d4 nf FR) (hq : q ≤ nf) (hnf : nf ≤ 65536) (hm : m ≤ 1048576) (hfin : Hid (Final n ⟨R, fun _ => ⟨#[]⟩, ID, B, A⟩ m used W S' M id t pr)) (hW : Hid (∀ x ∈ W, x < m ∧ M (S'.ID x) = some (x : Int) ∧ (S'.ID x).size ≤ maxLen)) (hl : W.length ≤ 1048576)
    (b2 : hi2 ≤ w.heap.size) (b4 : hi4 ≤ w.heap.size) (b5 : hi5 ≤ w.heap.size) (b6 : hi6 ≤ w.heap.size) :
    Code.wp Try.prog (tailF Try.f6 54) (bodyPost Try.prog Try.f6 fun e w' => e = .returned (.bool true) ∧ Keeps Nob w0 w') ⟨#[.slice d0 n e0, .slice d1 n e1, .slice d2 n e2, .slice d3 n e3, .slice d4 nf e4, x5, .string id, .int .i64 t, .string pr, x9, x10, x11, x12, x13, x14, x15, x16, x17, x18, x19, x20, x21, x22, x23, x24, x25, x26, .int .i64 n, x28, .int .i64 used, .int .i64 m, .int .i64 q, .slice aw W.length cw, x33, x34, .pointer (some ⟨tb, 0, none⟩), x36, x37, x38, x39, x40, x41, x42, x43, x44, x45, x46, x47, x48, x49, x50, x51, x52, x53, x54, x55, x56, x57, x58, x59, x60, x61, x62, x63, x64, x65, x66, x67, x68, x69, x70, x71, x72, x73, x74, x75, x76, x77, x78, x79, x80, x81, x82, x83, x84, x85, x86, x87, x88, x89, x90, x91, x92, x93, x94, x95, x96, x97, x98, x99, x100, x101, x102, x103, x104, x105, x106, x107, x108, x109, x110, x111, x112, x113, x114, x115, x116, x117, x118, x119, x120, x121, x122, x123, x124, x125, x126, x127, x128, x129, x130, x131, x132, x133, x134, x135, x136, x137, x138, x139, x140, x141, x142, x143, x144, x145, x146, x147, x148, x149, x150, x151, x152, x153, x154, x155, x156, x157, x158, x159, x160, x161, x162, x163, x164, x165, x166, x167, x168, x169, x170, x171, x172, x173, x174, x175, x176, x177, x178, x179, x180, x181, x182, x183, x184, x185, x186, x187, x188, x189, x190, x191, x192, x193, x194, x195, x196, x197, x198, x199, x200, x201, x202, x203, x204, x205, x206, x207, x208, x209, x210, x211, x212, x213, x214, x215, x216, x217, x218, x219, x220, x221, x222, x223, x224, x225, x226, x227, x228, x229, x230, x231, x232, x233, x234, x235, x236, x237, x238, x239, x240, x241, x242, x243, x244, x245, x246, x247, x248, x249, x250, x251, x252, x253, x254, x255, x256, x257, x258, x259, x260, x261, x262, x263, x264, x265, x266, x267, x268, x269, x270, x271, x272, x273, x274, x275, x276, x277, x278, x279, x280, x281, x282, x283, x284, x285, x286, x287, x288, x289, x290, x291, x292, x293, x294, x295, x296, x297, x298, x299, x300, x301, x302, x303, x304, x305, x306, x307, x308, x309, x310, x311, x312, x313, x314, x315, x316, x317, x318, x319, x320, x321, x322, x323, x324, x325, x326, x327, x328, x329, x330, x331, x332, x333, x334, x335, x336, x337, x338, x339, x340, x341, x342, x343, x344, x345, x346, x347, x348, x349, x350, x351, x352, x353, x354, x355, x356, x357, x358, x359, x360, x361, x362, x363, x364, x365, x366, x367, x368, x369, x370, x371, x372, x373, x374, x375, x376, x377, x378, x379, x380, x381, x382, x383, x384, x385, x386, x387, x388, x389, x390, x391, x392, x393, x394, x395, x396, x397, x398, x399, x400, x401, x402, x403, x404, x405, x406, x407, x408, x409, x410, x411, x412, x413, x414, x415, x416, x417, x418, x419, x420, x421, x422, x423, x424, x425, x426, x427, x428, x429, x430, x431, x432, x433, x434, x435, x436, x437, x438], []⟩ w := by
  have hm0 : 0 < m := by have := hfin.out.lt; omega
  have hmm : ((m : Int) != m) = false := by simp
  rw [tail6_54]
  go_wp2
  conv => arg 2; whnf
  go_wp2_with (go_at_call 20; refine (zzLen_any tb _ _ _ m c w hT).mono ?_; rintro e w' ⟨rfl, hw⟩; obtain rfl : w = w' := hw.symm)
  rw [tail6_55]
  go_wp2
  conv => arg 2; whnf
  go_wp2
  rw [tail6_57]
  go_wp2
  conv => arg 2; whnf
  go_wp2_with (go_at_call 21; refine (readSlots_any tb m _ _ _ S' w hm hT (fun _ => ⟨g, c, rfl, hown⟩)).mono ?_)
  rintro e w1 ⟨hK1, a1, a2, a3, a4, a5, rfl, h1, h2, h3, h4, h5⟩
  have s1 := hK1.size
  have hT1 := hT.keep hK1 (fun h => h)
  have hM1 := hM.keep hK1 (fun h => h)
  have hO1 := hO.keep hK1 b2 (fun _ _ _ h => h)
  have k0 := g0.keep hK1 b6 (fun _ _ _ h => h)
  have k1 := g1.keep hK1 b6 (fun _ _ _ h => h)
  have k2 := g2.keep hK1 b6 (fun _ _ _ h => h)
  have k3 := g3.keep hK1 b6 (fun _ _ _ h => h)
  have kF := hF.keep hK1 b5 (fun _ _ _ h => h)
  have kF4 := hF4.keep hK1 b4 (fun _ _ _ h => h)
  have hKw1 := hKw.trans (hK1.mono fun _ _ h => h)
  clear hT hown hM hO g0 g1 g2 g3 hF hF4 hKw hK1
  go_wp2
  rw [tail6_58]
  go_wp2
  conv => arg 2; whnf
  go_wp2_with (go_at_call 22; refine (ringOrder_any a2 a3 m m m _ _ _ _ S'.B S'.A w1 hm0 hm h2 h3).mono ?_)
  rintro e w2 ⟨hK2, hr⟩
  rw [(ringF_iff hm0 W).2 hfin.out.ring] at hr
  obtain ⟨ao, co, rfl, hG⟩ := hr
  have s2 := hK2.size
  have hT2 := hT1.keep hK2 (fun h => h)
  have hM2 := hM1.keep hK2 (fun h => h)
  have hO2 := hO1.keep hK2 (by omega) (fun _ _ _ h => h)
  have j0 := k0.keep hK2 (by omega) (fun _ _ _ h => h)
  have j1 := k1.keep hK2 (by omega) (fun _ _ _ h => h)
  have j2 := k2.keep hK2 (by omega) (fun _ _ _ h => h)
  have j3 := k3.keep hK2 (by omega) (fun _ _ _ h => h)
  have jF := kF.keep hK2 (by omega) (fun _ _ _ h => h)
  have jF4 := kF4.keep hK2 (by omega) (fun _ _ _ h => h)
  have q1 := h1.keep hK2 (Nat.le_refl _) (fun _ _ _ h => h)
  have q2 := h2.keep hK2 (Nat.le_refl _) (fun _ _ _ h => h)
  have q3 := h3.keep hK2 (Nat.le_refl _) (fun _ _ _ h => h)
  have q4 := h4.keep hK2 (Nat.le_refl _) (fun _ _ _ h => h)
  have q5 := h5.keep hK2 (Nat.le_refl _) (fun _ _ _ h => h)
  have hKw2 := hKw1.trans (hK2.mono fun _ _ h => h)
  clear hT1 hM1 hO1 k0 k1 k2 k3 kF kF4 h1 h2 h3 h4 h5 hKw1 hK2
  go_wp2
  rw [tail6_59]
  go_wp2
  conv => arg 2; whnf
  go_wp2_with (go_at_call 26; refine (equalInts_any ao aw W.length co W.length cw _ _ _ _ _ _ w2 (by omega) rfl hG hO2 (fun _ _ => rfl)).mono ?_)
  rintro e w3 ⟨rfl, nq, rfl⟩
  go_wp2
  exact law6e (hKw2.drewN _) hT2 hM2 hG q1 q2 q3 q4 q5 j0 j1 j2 j3 jF jF4 hq hnf hm hfin hW hl s2 (Nat.le_refl _) (by show _ ≤ w2.heap.size; omega) (by show _ ≤ w2.heap.size; omega) (by show _ ≤ w2.heap.size; omega)
end Go.Proofs.Qxb6619702a
