import Derived.Test.Qxb6619702aL6f
/-! FnPutKeepsTaskLatestInOrder: the marks of the ring. -/
namespace Go.Proofs.Qxb6619702a
open Go.RowKit
set_option maxHeartbeats 4000000 in
set_option maxRecDepth 100000 in
theorem law6e {w0 : World} {tb m n used e0 e1 e2 e3 co bm lo1 hi1 lo2 hi2 lo4 hi4 lo6 hi6 KK nf e4 q cf lo5 hi5 : Nat} {t : Int} {id pr : ByteArray} {d0 d1 d2 d3 d4 af a1 a2 a3 a4 a5 ao : Option Addr} {v0 : Value} {W : List Nat} {M : ByteArray → Option Int} {S' : Slots} {ID : Nat → ByteArray} {B A R FR : Nat → Int} {x5 x9 x10 x11 x12 x13 x14 x15 x16 x17 x18 x19 x20 x21 x22 x23 x24 x25 x26 x28 x30 x32 x33 x34 x43 x44 x45 x46 x47 x48 x49 x50 x51 x52 x53 x54 x55 x56 x57 x58 x59 x60 x61 x62 x63 x64 x65 x66 x67 x68 x69 x70 x71 x72 x73 x74 x75 x76 x77 x78 x79 x80 x81 x82 x83 x84 x85 x86 x87 x88 x89 x90 x91 x92 x93 x94 x95 x96 x97 x98 x99 x100 x101 x102 x103 x104 x105 x106 x107 x108 x109 x110 x111 x112 x113 x114 x115 x116 x117 x118 x119 x120 x121 x122 x123 x124 x125 x126 x127 x128 x129 x130 x131 x132 x133 x134 x135 x136 x137 x138 x139 x140 x141 x142 x143 x144 x145 x146 x147 x148 x149 x150 x151 x152 x153 x154 x155 x156 x157 x158 x159 x160 x161 x162 x163 x164 x165 x166 x167 x168 x169 x170 x171 x172 x173 x174 x175 x176 x177 x178 x179 x180 x181 x182 x183 x184 x185 x186 x187 x188 x189 x190 x191 x192 x193 x194 x195 x196 x197 x198 x199 x200 x201 x202 x203 x204 x205 x206 x207 x208 x209 x210 x211 x212 x213 x214 x215 x216 x217 x218 x219 x220 x221 x222 x223 x224 x225 x226 x227 x228 x229 x230 x231 x232 x233 x234 x235 x236 x237 x238 x239 x240 x241 x242 x243 x244 x245 x246 x247 x248 x249 x250 x251 x252 x253 x254 x255 x256 x257 x258 x259 x260 x261 x262 x263 x264 x265 x266 x267 x268 x269 x270 x271 x272 x273 x274 x275 x276 x277 x278 x279 x280 x281 x282 x283 x284 x285 x286 x287 x288 x289 x290 x291 x292 x293 x294 x295 x296 x297 x298 x299 x300 x301 x302 x303 x304 x305 x306 x307 x308 x309 x310 x311 x312 x313 x314 x315 x316 x317 x318 x319 x320 x321 x322 x323 x324 x325 x326 x327 x328 x329 x330 x331 x332 x333 x334 x335 x336 x337 x338 x339 x340 x341 x342 x343 x344 x345 x346 x347 x348 x349 x350 x351 x352 x353 x354 x355 x356 x357 x358 x359 x360 x361 x362 x363 x364 x365 x366 x367 x368 x369 x370 x371 x372 x373 x374 x375 x376 x377 x378 x379 x380 x381 x382 x383 x384 x385 x386 x387 x388 x389 x390 x391 x392 x393 x394 x395 x396 x397 x398 x399 x400 x401 x402 x403 x404 x405 x406 x407 x408 x409 x410 x411 x412 x413 x414 x415 x416 x417 x418 x419 x420 x421 x422 x423 x424 x425 x426 x427 x428 x429 x430 x431 x432 x433 x434 x435 x436 x437 x438 : Value} {w : World}
    (hKw : Keeps Nob w0 w) (hT : Blk w tb 63 [v0, .slice af q cf, .map (some bm)]) (hM : OwnM w bm M W.length KK) (hO : SlF encI w lo2 hi2 ao W.length (fun j => (W.getD j 0 : Int)))
    (h1 : SlF Value.string w lo1 hi1 a1 m S'.ID) (h2 : SlF encI w lo1 hi1 a2 m S'.B) (h3 : SlF encI w lo1 hi1 a3 m S'.A) (h4 : SlF encI w lo1 hi1 a4 m S'.R) (h5 : SlF Value.string w lo1 hi1 a5 m S'.P)
    (g0 : SlF Value.string w lo6 hi6 d0 n ID) (g1 : SlF encI w lo6 hi6 d1 n B) (g2 : SlF encI w lo6 hi6 d2 n A) (g3 : SlF encI w lo6 hi6 d3 n R)
    (hF : SlF encI w lo5 hi5 af q FR) (hF4 : SlF encI w lo4 hi4 d4 nf FR) (hq : q ≤ nf) (hnf : nf ≤ 65536) (hm : m ≤ 1048576) (hfin : Hid (Final n ⟨R, fun _ => ⟨#[]⟩, ID, B, A⟩ m used W S' M id t pr)) (hW : Hid (∀ x ∈ W, x < m ∧ M (S'.ID x) = some (x : Int) ∧ (S'.ID x).size ≤ maxLen)) (hl : W.length ≤ 1048576)
    (b1 : hi1 ≤ w.heap.size) (b2 : hi2 ≤ w.heap.size) (b4 : hi4 ≤ w.heap.size) (b5 : hi5 ≤ w.heap.size) (b6 : hi6 ≤ w.heap.size) :
    Code.wp Try.prog (tailF Try.f6 61) (bodyPost Try.prog Try.f6 fun e w' => e = .returned (.bool true) ∧ Keeps Nob w0 w') ⟨#[.slice d0 n e0, .slice d1 n e1, .slice d2 n e2, .slice d3 n e3, .slice d4 nf e4, x5, .string id, .int .i64 t, .string pr, x9, x10, x11, x12, x13, x14, x15, x16, x17, x18, x19, x20, x21, x22, x23, x24, x25, x26, .int .i64 n, x28, .int .i64 used, x30, .int .i64 q, x32, x33, x34, .pointer (some ⟨tb, 0, none⟩), .int .i64 m, .slice a1 m m, .slice a2 m m, .slice a3 m m, .slice a4 m m, .slice a5 m m, .slice ao W.length co, x43, x44, x45, x46, x47, x48, x49, x50, x51, x52, x53, x54, x55, x56, x57, x58, x59, x60, x61, x62, x63, x64, x65, x66, x67, x68, x69, x70, x71, x72, x73, x74, x75, x76, x77, x78, x79, x80, x81, x82, x83, x84, x85, x86, x87, x88, x89, x90, x91, x92, x93, x94, x95, x96, x97, x98, x99, x100, x101, x102, x103, x104, x105, x106, x107, x108, x109, x110, x111, x112, x113, x114, x115, x116, x117, x118, x119, x120, x121, x122, x123, x124, x125, x126, x127, x128, x129, x130, x131, x132, x133, x134, x135, x136, x137, x138, x139, x140, x141, x142, x143, x144, x145, x146, x147, x148, x149, x150, x151, x152, x153, x154, x155, x156, x157, x158, x159, x160, x161, x162, x163, x164, x165, x166, x167, x168, x169, x170, x171, x172, x173, x174, x175, x176, x177, x178, x179, x180, x181, x182, x183, x184, x185, x186, x187, x188, x189, x190, x191, x192, x193, x194, x195, x196, x197, x198, x199, x200, x201, x202, x203, x204, x205, x206, x207, x208, x209, x210, x211, x212, x213, x214, x215, x216, x217, x218, x219, x220, x221, x222, x223, x224, x225, x226, x227, x228, x229, x230, x231, x232, x233, x234, x235, x236, x237, x238, x239, x240, x241, x242, x243, x244, x245, x246, x247, x248, x249, x250, x251, x252, x253, x254, x255, x256, x257, x258, x259, x260, x261, x262, x263, x264, x265, x266, x267, x268, x269, x270, x271, x272, x273, x274, x275, x276, x277, x278, x279, x280, x281, x282, x283, x284, x285, x286, x287, x288, x289, x290, x291, x292, x293, x294, x295, x296, x297, x298, x299, x300, x301, x302, x303, x304, x305, x306, x307, x308, x309, x310, x311, x312, x313, x314, x315, x316, x317, x318, x319, x320, x321, x322, x323, x324, x325, x326, x327, x328, x329, x330, x331, x332, x333, x334, x335, x336, x337, x338, x339, x340, x341, x342, x343, x344, x345, x346, x347, x348, x349, x350, x351, x352, x353, x354, x355, x356, x357, x358, x359, x360, x361, x362, x363, x364, x365, x366, x367, x368, x369, x370, x371, x372, x373, x374, x375, x376, x377, x378, x379, x380, x381, x382, x383, x384, x385, x386, x387, x388, x389, x390, x391, x392, x393, x394, x395, x396, x397, x398, x399, x400, x401, x402, x403, x404, x405, x406, x407, x408, x409, x410, x411, x412, x413, x414, x415, x416, x417, x418, x419, x420, x421, x422, x423, x424, x425, x426, x427, x428, x429, x430, x431, x432, x433, x434, x435, x436, x437, x438], []⟩ w := by
  have hm0 : 0 < m := by have := hfin.out.lt; omega
  rw [tail6_61]
  go_wp2
  conv => arg 2; whnf
  go_wp2_with (at_make; refine wpList_make_blk _ rfl _ _ 60 rfl 4 (.bool false) 1 rfl Try.underlying60 Try.info4 _ _ m rfl rfl (by omega) (by unfold maxLen; omega) ?_)
  intro w1 hS hK
  have hc0 : w1.cell? ⟨w.heap.size, 0, none⟩ = some (.bool false) := (by rw [hS.cell]; simp [hm0])
  have hf0 := hS.free 0
  go_wp2
  rw [tail6_62]
  go_wp2
  conv => arg 2; whnf
  go_wp2
  have hW1 := hS.set 0 (.bool true)
  rw [seenC_start] at hW1
  have hK1 := hK.setNew (p := ⟨w.heap.size, 0, none⟩) (Nat.le_refl _) (.bool true)
  clear hc0 hf0 hS hK
  generalize hw2 : w1.setCell ⟨w.heap.size, 0, none⟩ (.bool true) = w2 at hW1 hK1
  clear hw2 w1
  have hw2s := hW1.lt
  rw [tail6_63]
  go_wp2
  conv => arg 2; whnf
  go_wp2
  go_loopw [258] (fun i wr => ∃ k : Nat, k ≤ W.length ∧ i = .int .i64 k ∧ Blk wr w.heap.size 4 (seenC m (W.take k)) ∧ Keeps Nob w wr) (fun i _ => W.length - (intOf i).toNat)
  case atStart => exact ⟨0, Nat.zero_le _, rfl, hW1, hK1⟩
  case round =>
    clear hW1 hK1 hw2s w2
    obtain ⟨k, hk, rfl, hS, hK⟩ := hrel
    by_cases hlt : k < W.length
    · have hOk := hO.keep hK b2 (fun _ _ _ h => h)
      obtain ⟨bo, oo, rfl, -, -, hOc⟩ := hOk (by omega)
      obtain ⟨x, hx⟩ : ∃ x, W.getD k 0 = x := ⟨_, rfl⟩
      have hxL : W[k]? = some x := by rw [← hx]; simp [hlt]
      have hxm : x ∈ W := List.mem_of_getElem? hxL
      have hxr := (hW.out x hxm).1
      replace hOc := hOc k hlt
      simp only [hx] at hOc
      have hsx : wr.cell? ⟨w.heap.size, x, none⟩ = some (.bool (decide (x = 0 ∨ x ∈ W.take k))) := by rw [hS.cell, seenC_get hxr]
      have hfx := hS.free x
      have hS4 := hS.set x (.bool true)
      rw [seenC_set] at hS4
      have htk : W.take k ++ [x] = W.take (k + 1) := by rw [List.take_add_one, hxL]; rfl
      rw [htk] at hS4
      have hK4 : Keeps Nob w (wr.setCell ⟨w.heap.size, x, none⟩ (.bool true)) := hK.setNew (p := ⟨w.heap.size, x, none⟩) (Nat.le_refl _) (.bool true)
      clear hx hxL htk hS hK hT hM h1 h2 h3 h4 h5 g0 g1 g2 g3 hF hF4 hOk hO
      go_wp2
      refine ⟨?rel, ?measure⟩
      case rel => exact ⟨k + 1, hlt, by go_num, hS4, hK4⟩
      case measure => simp [intOf]; omega
    · have hkw : k = W.length := by omega
      subst hkw
      have htl : W.take W.length = W := List.take_length
      rw [htl] at hS
      have hl1 := hS.lt
      have hs := hK.size
      clear htl hlt hk
      go_wp2
      exact law6f (hKw.trans (hK.mono fun _ _ h => h)) (hT.keep hK (fun h => h)) (hM.keep hK (fun h => h)) (hO.keep hK b2 (fun _ _ _ h => h)) (h1.keep hK b1 (fun _ _ _ h => h)) (h2.keep hK b1 (fun _ _ _ h => h)) (h3.keep hK b1 (fun _ _ _ h => h)) (h4.keep hK b1 (fun _ _ _ h => h)) (h5.keep hK b1 (fun _ _ _ h => h))
        (g0.keep hK b6 (fun _ _ _ h => h)) (g1.keep hK b6 (fun _ _ _ h => h)) (g2.keep hK b6 (fun _ _ _ h => h)) (g3.keep hK b6 (fun _ _ _ h => h)) hS (hF.keep hK b5 (fun _ _ _ h => h)) (hF4.keep hK b4 (fun _ _ _ h => h)) hq hnf hm hfin hW hl
end Go.Proofs.Qxb6619702a
