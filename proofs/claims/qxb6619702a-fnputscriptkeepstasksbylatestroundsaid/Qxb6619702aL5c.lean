import Derived.Test.Qxb6619702aL5c2
/-! FnPutScriptKeepsTasksByLatestRound: the wanted numbers. -/
namespace Go.Proofs.Qxb6619702a
open Go.RowKit
set_option maxHeartbeats 4000000 in
set_option maxRecDepth 100000 in
theorem law5c {w0 : World} {bm c n nf sn cs cw cr wl hi6 e0 e1 e2 e3 e4 : Nat} {d0 d1 d2 d3 d4 ds aw ar : Option Addr} {ix : Option Nat} {L : List Nat} {SC ID : Nat → ByteArray} {R B A FR : Nat → Int} {x6 x7 x8 x9 x10 x11 x12 x13 x14 x16 x18 x19 x20 x23 x24 x25 x26 x28 x29 x30 x31 x32 x33 x34 x35 x36 x37 x38 x39 x40 x41 x42 x43 x44 x45 x46 x47 x48 x49 x50 x51 x52 x53 x54 x55 x56 x57 x58 x59 x60 x61 x62 x63 x64 x65 x66 x67 x68 x69 x70 x71 x72 x73 x74 x75 x76 x77 x78 x79 x80 x81 x82 x83 x84 x85 x86 x87 x88 x89 x90 x91 x92 x93 x94 x95 x96 x97 x98 x99 x100 x101 x102 x103 x104 x105 x106 x107 x108 x109 x110 x111 x112 x113 x114 x115 x116 x117 x118 x119 x120 x121 x122 x123 x124 x125 x126 x127 x128 x129 x130 x131 x132 x133 x134 x135 x136 x137 x138 x139 x140 x141 x142 x143 x144 x145 x146 x147 x148 x149 x150 x151 x152 x153 x154 x155 x156 x157 x158 x159 x160 x161 x162 x163 x164 x165 x166 x167 x168 x169 x170 x171 x172 x173 x174 x175 x176 x177 x178 x179 x180 x181 x182 x183 x184 x185 x186 x187 x188 x189 x190 x191 x192 x193 x194 x195 x196 x197 x198 x199 x200 x201 x202 x203 x204 x205 x206 x207 x208 x209 x210 x211 x212 x213 x214 x215 x216 x217 x218 x219 x220 x221 x222 x223 x224 x225 x226 x227 x228 x229 x230 x231 x232 x233 x234 x235 x236 x237 x238 x239 x240 x241 x242 x243 x244 x245 x246 x247 x248 x249 x250 x251 x252 x253 x254 x255 x256 x257 x258 x259 x260 x261 x262 x263 x264 x265 x266 x267 x268 x269 x270 x271 x272 x273 x274 x275 x276 x277 x278 x279 x280 x281 x282 x283 x284 x285 x286 x287 x288 x289 x290 x291 x292 x293 x294 x295 x296 x297 x298 x299 x300 x301 x302 x303 x304 x305 x306 x307 x308 x309 x310 x311 x312 x313 x314 x315 x316 x317 x318 x319 x320 x321 x322 x323 x324 x325 x326 x327 x328 x329 x330 x331 x332 x333 x334 x335 x336 x337 x338 x339 x340 x341 x342 x343 x344 x345 x346 x347 x348 x349 x350 x351 x352 x353 x354 x355 x356 x357 x358 x359 x360 x361 x362 x363 x364 x365 x366 x367 x368 x369 x370 x371 x372 x373 x374 x375 x376 x377 x378 x379 x380 x381 x382 x383 : Value} {w : World}
    (hKw : Keeps Nob w0 w) (h0b : w0.heap.size ≤ bm) (hbw : bm < w.heap.size) (b6 : hi6 ≤ bm) (hgood : Hid (WGood n n n n nf ID B A FR L ix)) (hID : Hid (∀ j, j < n → (ID j).size ≤ maxLen))
    (hix : Hid (∀ b, ix = some b → b = bm ∧ OwnM w bm (idx ID L) L.length L.length)) (g0 : SlF Value.string w 0 hi6 d0 n ID) (g1 : SlF encI w 0 hi6 d1 n B) (g2 : SlF encI w 0 hi6 d2 n A) (g3 : SlF encI w 0 hi6 d3 n R)
    (hF4 : SlF encI w 0 hi6 d4 nf FR) (hS : SlF Value.string w 0 hi6 ds sn SC) (hd4 : Hid (d4 = none → nf = 0 ∧ e4 = 0))
    (hI : SlF Value.string w (bm + 1) w.heap.size aw wl (fun j => ((want SC (prs R ID L) sn).getD j (⟨#[]⟩, 0)).1)) (hR : SlF encI w (bm + 1) w.heap.size ar wl (fun j => ((want SC (prs R ID L) sn).getD j (⟨#[]⟩, 0)).2)) (hwl : Hid (wl = (want SC (prs R ID L) sn).length))
    (hSC : Hid (∀ j, j < sn → (SC j).size ≤ maxLen)) (hnf : nf ≤ 65536) (hn : n ≤ 65536) (hsn : sn ≤ 65536) (hc : Hid (c = cntF SC (lastF SC sn) (idx ID L) sn)) :
    Code.wp Try.prog (tailF Try.f5 51) (bodyPost Try.prog Try.f5 fun e w' => e = .returned (.bool true) ∧ Keeps Nob w0 w') ⟨#[.slice d0 n e0, .slice d1 n e1, .slice d2 n e2, .slice d3 n e3, .slice d4 nf e4, .slice ds sn cs, x6, x7, x8, x9, x10, x11, x12, x13, x14, .map ix, x16, .int .i64 n, x18, x19, x20, .slice aw wl cw, .slice ar wl cr, x23, x24, x25, x26, .int .i64 c, x28, x29, x30, x31, x32, x33, x34, x35, x36, x37, x38, x39, x40, x41, x42, x43, x44, x45, x46, x47, x48, x49, x50, x51, x52, x53, x54, x55, x56, x57, x58, x59, x60, x61, x62, x63, x64, x65, x66, x67, x68, x69, x70, x71, x72, x73, x74, x75, x76, x77, x78, x79, x80, x81, x82, x83, x84, x85, x86, x87, x88, x89, x90, x91, x92, x93, x94, x95, x96, x97, x98, x99, x100, x101, x102, x103, x104, x105, x106, x107, x108, x109, x110, x111, x112, x113, x114, x115, x116, x117, x118, x119, x120, x121, x122, x123, x124, x125, x126, x127, x128, x129, x130, x131, x132, x133, x134, x135, x136, x137, x138, x139, x140, x141, x142, x143, x144, x145, x146, x147, x148, x149, x150, x151, x152, x153, x154, x155, x156, x157, x158, x159, x160, x161, x162, x163, x164, x165, x166, x167, x168, x169, x170, x171, x172, x173, x174, x175, x176, x177, x178, x179, x180, x181, x182, x183, x184, x185, x186, x187, x188, x189, x190, x191, x192, x193, x194, x195, x196, x197, x198, x199, x200, x201, x202, x203, x204, x205, x206, x207, x208, x209, x210, x211, x212, x213, x214, x215, x216, x217, x218, x219, x220, x221, x222, x223, x224, x225, x226, x227, x228, x229, x230, x231, x232, x233, x234, x235, x236, x237, x238, x239, x240, x241, x242, x243, x244, x245, x246, x247, x248, x249, x250, x251, x252, x253, x254, x255, x256, x257, x258, x259, x260, x261, x262, x263, x264, x265, x266, x267, x268, x269, x270, x271, x272, x273, x274, x275, x276, x277, x278, x279, x280, x281, x282, x283, x284, x285, x286, x287, x288, x289, x290, x291, x292, x293, x294, x295, x296, x297, x298, x299, x300, x301, x302, x303, x304, x305, x306, x307, x308, x309, x310, x311, x312, x313, x314, x315, x316, x317, x318, x319, x320, x321, x322, x323, x324, x325, x326, x327, x328, x329, x330, x331, x332, x333, x334, x335, x336, x337, x338, x339, x340, x341, x342, x343, x344, x345, x346, x347, x348, x349, x350, x351, x352, x353, x354, x355, x356, x357, x358, x359, x360, x361, x362, x363, x364, x365, x366, x367, x368, x369, x370, x371, x372, x373, x374, x375, x376, x377, x378, x379, x380, x381, x382, x383], []⟩ w := by
  have hcs : c ≤ 65536 := by rw [hc.out]; exact Nat.le_trans (cntF_le _ _ _ _) hsn
  rcases Nat.eq_zero_or_pos n with h0 | h0
  · subst h0
    obtain ⟨-, -, hf0⟩ := hgood.out.zero rfl
    subst hf0
    rcases Nat.eq_zero_or_pos c with hc0 | hc0
    · have hcc := hc.out
      have hm : Hid (0 = lenOf 0 0 (cntF SC (lastF SC sn) (idx ID L) sn)) := by show 0 = _; rw [← hcc, hc0]; rfl
      have hq : Hid (0 = 0 - min (cntF SC (lastF SC sn) (idx ID L) sn) 0) := by show 0 = _; omega
      clear hcc hc
      subst hc0
      rw [tail5_51]
      go_wp2
      conv => arg 2; whnf
      go_wp2
      rw [tail5_52]
      go_wp2
      conv => arg 2; whnf
      go_wp2
      rw [tail5_54]
      go_wp2
      conv => arg 2; whnf
      go_wp2
      rw [tail5_55]
      go_wp2
      conv => arg 2; whnf
      go_wp2
      rw [tail5_57]
      go_wp2
      conv => arg 2; whnf
      go_wp2
      rw [tail5_58]
      go_wp2
      conv => arg 2; whnf
      go_wp2
      exact law5c2 hKw h0b hbw b6 hgood hID hix g0 g1 g2 g3 hF4 hS (fun h => ⟨rfl, (hd4.out h).2⟩) hI hR hwl hSC hnf hn hsn hm hq
    · have hcc := hc.out
      have hm : Hid (1 + c = lenOf 0 0 (cntF SC (lastF SC sn) (idx ID L) sn)) := by show _ = _; rw [← hcc]; unfold lenOf; rw [if_pos ⟨rfl, hc0⟩]; omega
      have hq : Hid (0 = 0 - min (cntF SC (lastF SC sn) (idx ID L) sn) 0) := by show 0 = _; omega
      clear hcc
      rw [tail5_51]
      go_wp2
      conv => arg 2; whnf
      go_wp2
      rw [tail5_52]
      go_wp2
      conv => arg 2; whnf
      go_wp2
      rw [tail5_54]
      go_wp2
      conv => arg 2; whnf
      go_wp2
      rw [tail5_55]
      go_wp2
      conv => arg 2; whnf
      go_wp2
      rw [tail5_57]
      go_wp2
      conv => arg 2; whnf
      go_wp2
      rw [tail5_58]
      go_wp2
      conv => arg 2; whnf
      go_wp2
      exact law5c2 (m := 1 + c) hKw h0b hbw b6 hgood hID hix g0 g1 g2 g3 hF4 hS (fun h => ⟨rfl, (hd4.out h).2⟩) hI hR hwl hSC hnf hn hsn hm hq
  · rcases Nat.lt_or_ge nf c with hlt | hge
    · have hcc := hc.out
      obtain ⟨p, rfl⟩ : ∃ p, c = nf + p := ⟨c - nf, by omega⟩
      have hm : Hid (n + p = lenOf n nf (cntF SC (lastF SC sn) (idx ID L) sn)) := by show _ = _; rw [← hcc]; unfold lenOf; rw [if_neg (by omega)]; omega
      have hq : Hid (0 = nf - min (cntF SC (lastF SC sn) (idx ID L) sn) nf) := by show 0 = _; rw [← hcc]; omega
      have hsub : (n : Int) + ((nf : Int) + (p : Int)) - (nf : Int) = ((n + p : Nat) : Int) := by omega
      have hsub2 : (n : Int) + ((nf + p : Nat) : Int) - (nf : Int) = ((n + p : Nat) : Int) := by omega
      clear hcc
      rw [tail5_51]
      go_wp2
      conv => arg 2; whnf
      go_wp2
      rw [tail5_52]
      go_wp2
      conv => arg 2; whnf
      go_wp2
      rw [tail5_54]
      go_wp2
      conv => arg 2; whnf
      go_wp2
      rw [tail5_55]
      go_wp2
      conv => arg 2; whnf
      go_wp2
      rw [tail5_57]
      go_wp2
      conv => arg 2; whnf
      go_wp2
      rw [tail5_58]
      go_wp2
      conv => arg 2; whnf
      go_wp2
      exact law5c2 (m := n + p) (q := 0) hKw h0b hbw b6 hgood hID hix g0 g1 g2 g3 hF4 hS hd4.out hI hR hwl hSC hnf hn hsn hm hq
    · have hcc := hc.out
      obtain ⟨q, rfl⟩ : ∃ q, nf = c + q := ⟨nf - c, by omega⟩
      have hm : Hid (n = lenOf n (c + q) (cntF SC (lastF SC sn) (idx ID L) sn)) := by show _ = _; rw [← hcc]; unfold lenOf; rw [if_neg (by omega)]; omega
      have hq : Hid (q = c + q - min (cntF SC (lastF SC sn) (idx ID L) sn) (c + q)) := by show _ = _; rw [← hcc]; omega
      have hsub : (c : Int) + (q : Int) - (c : Int) = (q : Int) := by omega
      clear hcc
      rw [tail5_51]
      go_wp2
      conv => arg 2; whnf
      go_wp2
      rw [tail5_52]
      go_wp2
      conv => arg 2; whnf
      go_wp2
      rw [tail5_54]
      go_wp2
      conv => arg 2; whnf
      go_wp2
      rw [tail5_55]
      go_wp2
      conv => arg 2; whnf
      go_wp2
      rw [tail5_57]
      go_wp2
      conv => arg 2; whnf
      go_wp2
      rw [tail5_58]
      go_wp2
      conv => arg 2; whnf
      go_wp2
      exact law5c2 (m := n) (q := q) hKw h0b hbw b6 hgood hID hix g0 g1 g2 g3 hF4 hS hd4.out hI hR hwl hSC hnf hn hsn hm hq
end Go.Proofs.Qxb6619702a
