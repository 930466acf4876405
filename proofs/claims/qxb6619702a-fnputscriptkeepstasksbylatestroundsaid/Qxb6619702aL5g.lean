import Derived.Test.Qxb6619702aL5h
/-! FnPutScriptKeepsTasksByLatestRound: from the free list on. -/
namespace Go.Proofs.Qxb6619702a
open Go.RowKit
set_option maxHeartbeats 4000000 in
set_option maxRecDepth 100000 in
theorem law5g {w0 : World} {tb co cw lo1 hi1 lo2 hi2 lo4 hi4 nf e4 q cf lo5 hi5 : Nat} {d4 af aw ao : Option Addr} {ix : Option Nat} {v0 : Value} {W : List Nat} {M : ByteArray → Option Int} {ID : Nat → ByteArray} {FR : Nat → Int} {x0 x1 x2 x3 x5 x6 x7 x8 x9 x10 x11 x12 x13 x14 x15 x16 x17 x18 x19 x20 x22 x23 x24 x25 x26 x27 x28 x29 x30 x31 x32 x33 x34 x37 x38 x39 x40 x41 x42 x43 x44 x45 x46 x48 x49 x50 x51 x52 x53 x54 x55 x56 x57 x58 x59 x60 x61 x62 x63 x64 x65 x66 x67 x68 x69 x70 x71 x72 x73 x74 x75 x76 x77 x78 x79 x80 x81 x82 x83 x84 x85 x86 x87 x88 x89 x90 x91 x92 x93 x94 x95 x96 x97 x98 x99 x100 x101 x102 x103 x104 x105 x106 x107 x108 x109 x110 x111 x112 x113 x114 x115 x116 x117 x118 x119 x120 x121 x122 x123 x124 x125 x126 x127 x128 x129 x130 x131 x132 x133 x134 x135 x136 x137 x138 x139 x140 x141 x142 x143 x144 x145 x146 x147 x148 x149 x150 x151 x152 x153 x154 x155 x156 x157 x158 x159 x160 x161 x162 x163 x164 x165 x166 x167 x168 x169 x170 x171 x172 x173 x174 x175 x176 x177 x178 x179 x180 x181 x182 x183 x184 x185 x186 x187 x188 x189 x190 x191 x192 x193 x194 x195 x196 x197 x198 x199 x200 x201 x202 x203 x204 x205 x206 x207 x208 x209 x210 x211 x212 x213 x214 x215 x216 x217 x218 x219 x220 x221 x222 x223 x224 x225 x226 x227 x228 x229 x230 x231 x232 x233 x234 x235 x236 x237 x238 x239 x240 x241 x242 x243 x244 x245 x246 x247 x248 x249 x250 x251 x252 x253 x254 x255 x256 x257 x258 x259 x260 x261 x262 x263 x264 x265 x266 x267 x268 x269 x270 x271 x272 x273 x274 x275 x276 x277 x278 x279 x280 x281 x282 x283 x284 x285 x286 x287 x288 x289 x290 x291 x292 x293 x294 x295 x296 x297 x298 x299 x300 x301 x302 x303 x304 x305 x306 x307 x308 x309 x310 x311 x312 x313 x314 x315 x316 x317 x318 x319 x320 x321 x322 x323 x324 x325 x326 x327 x328 x329 x330 x331 x332 x333 x334 x335 x336 x337 x338 x339 x340 x341 x342 x343 x344 x345 x346 x347 x348 x349 x350 x351 x352 x353 x354 x355 x356 x357 x358 x359 x360 x361 x362 x363 x364 x365 x366 x367 x368 x369 x370 x371 x372 x373 x374 x375 x376 x377 x378 x379 x380 x381 x382 x383 : Value} {w : World}
    (hKw : Keeps Nob w0 w) (hT : Blk w tb 63 [v0, .slice af q cf, .map ix]) (hM : IxIs w ix M W.length) (hI : SlF Value.string w lo1 hi1 aw W.length (fun j => ID (W.getD j 0))) (hO : SlF encI w lo2 hi2 ao W.length (fun j => (W.getD j 0 : Int)))
    (hF : SlF encI w lo5 hi5 af q FR) (hF4 : SlF encI w lo4 hi4 d4 nf FR) (hq : q ≤ nf) (hnf : nf ≤ 65536) (hW : Hid (∀ x ∈ W, M (ID x) = some (x : Int) ∧ (ID x).size ≤ maxLen)) (hl : W.length ≤ 1048576) :
    Code.wp Try.prog (tailF Try.f5 79) (bodyPost Try.prog Try.f5 fun e w' => e = .returned (.bool true) ∧ Keeps Nob w0 w') ⟨#[x0, x1, x2, x3, .slice d4 nf e4, x5, x6, x7, x8, x9, x10, x11, x12, x13, x14, x15, x16, x17, x18, x19, x20, .slice aw W.length cw, x22, x23, x24, x25, x26, x27, x28, x29, x30, x31, x32, x33, x34, .int .i64 q, .pointer (some ⟨tb, 0, none⟩), x37, x38, x39, x40, x41, x42, x43, x44, x45, x46, .slice ao W.length co, x48, x49, x50, x51, x52, x53, x54, x55, x56, x57, x58, x59, x60, x61, x62, x63, x64, x65, x66, x67, x68, x69, x70, x71, x72, x73, x74, x75, x76, x77, x78, x79, x80, x81, x82, x83, x84, x85, x86, x87, x88, x89, x90, x91, x92, x93, x94, x95, x96, x97, x98, x99, x100, x101, x102, x103, x104, x105, x106, x107, x108, x109, x110, x111, x112, x113, x114, x115, x116, x117, x118, x119, x120, x121, x122, x123, x124, x125, x126, x127, x128, x129, x130, x131, x132, x133, x134, x135, x136, x137, x138, x139, x140, x141, x142, x143, x144, x145, x146, x147, x148, x149, x150, x151, x152, x153, x154, x155, x156, x157, x158, x159, x160, x161, x162, x163, x164, x165, x166, x167, x168, x169, x170, x171, x172, x173, x174, x175, x176, x177, x178, x179, x180, x181, x182, x183, x184, x185, x186, x187, x188, x189, x190, x191, x192, x193, x194, x195, x196, x197, x198, x199, x200, x201, x202, x203, x204, x205, x206, x207, x208, x209, x210, x211, x212, x213, x214, x215, x216, x217, x218, x219, x220, x221, x222, x223, x224, x225, x226, x227, x228, x229, x230, x231, x232, x233, x234, x235, x236, x237, x238, x239, x240, x241, x242, x243, x244, x245, x246, x247, x248, x249, x250, x251, x252, x253, x254, x255, x256, x257, x258, x259, x260, x261, x262, x263, x264, x265, x266, x267, x268, x269, x270, x271, x272, x273, x274, x275, x276, x277, x278, x279, x280, x281, x282, x283, x284, x285, x286, x287, x288, x289, x290, x291, x292, x293, x294, x295, x296, x297, x298, x299, x300, x301, x302, x303, x304, x305, x306, x307, x308, x309, x310, x311, x312, x313, x314, x315, x316, x317, x318, x319, x320, x321, x322, x323, x324, x325, x326, x327, x328, x329, x330, x331, x332, x333, x334, x335, x336, x337, x338, x339, x340, x341, x342, x343, x344, x345, x346, x347, x348, x349, x350, x351, x352, x353, x354, x355, x356, x357, x358, x359, x360, x361, x362, x363, x364, x365, x366, x367, x368, x369, x370, x371, x372, x373, x374, x375, x376, x377, x378, x379, x380, x381, x382, x383], []⟩ w := by
  have hqq : ((q : Int) != q) = false := by simp
  rw [tail5_79]
  go_wp2
  conv => arg 2; whnf
  go_wp2_with (go_at_call 23; refine (zzFree_any tb v0 (.map ix) af q cf w hT).mono ?_; rintro e w' ⟨rfl, hw⟩; obtain rfl : w = w' := hw.symm)
  rw [tail5_80]
  go_wp2
  conv => arg 2; whnf
  go_wp2
  rw [tail5_82]
  go_wp2
  conv => arg 2; whnf
  go_wp2
  go_loopw [52] (fun i wr => ∃ (k n0 : Nat), k ≤ q ∧ i = .int .i64 k ∧ Hid (wr = w.drewN n0)) (fun i _ => q - (intOf i).toNat)
  case atStart => exact ⟨0, 0, Nat.zero_le _, rfl, rfl⟩
  case round =>
    obtain ⟨k, n0, hk, rfl, hwr⟩ := hrel
    by_cases hlt : k < q
    · obtain ⟨b1, o1, rfl, -, -, hc1⟩ := hF (by omega)
      obtain ⟨b2, o2, rfl, -, -, hc2⟩ := hF4 (by omega)
      have g1 : wr.cell? ⟨b1, o1 + k, none⟩ = some (encI (FR k)) := by rw [hwr.out]; exact hc1 k hlt
      have g2 : wr.cell? ⟨b2, o2 + k, none⟩ = some (encI (FR k)) := by rw [hwr.out]; exact hc2 k (by omega)
      clear hc1 hc2 hF hF4 hT hM hI hO hKw
      go_wp2
      go_quiet (fail)
      go_wp2
      refine ⟨?rel, ?measure⟩
      case rel => exact ⟨k + 1, n0 + nq, hlt, by go_num, by show _ = w.drewN _; rw [hwr.out]; exact drewN_add _ _ _⟩
      case measure => simp [intOf]; omega
    · have hw := hwr.out
      subst hw
      clear hF hF4
      go_wp2
      exact law5h (hKw.drewN _) hT (hM.keep ((Keeps.refl Nob w).drewN n0) (fun _ _ h => h)) hI hO hW hl
end Go.Proofs.Qxb6619702a
