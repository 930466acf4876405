import Derived.Test.Qxb6619702aL5d
/-! FnPutScriptKeepsTasksByLatestRound: the table made. -/
namespace Go.Proofs.Qxb6619702a
open Go.RowKit
set_option maxHeartbeats 4000000 in
set_option maxRecDepth 100000 in
theorem law5c2 {w0 : World} {bm m n nf sn cs cw cr wl hi6 e0 e1 e2 e3 e4 q : Nat} {d0 d1 d2 d3 d4 ds aw ar : Option Addr} {ix : Option Nat} {L : List Nat} {SC ID : Nat → ByteArray} {R B A FR : Nat → Int} {x6 x7 x8 x9 x10 x11 x12 x13 x14 x16 x17 x18 x19 x20 x23 x24 x25 x26 x27 x28 x29 x30 x31 x32 x33 x36 x37 x38 x39 x40 x41 x42 x43 x44 x45 x46 x47 x48 x49 x50 x51 x52 x53 x54 x55 x56 x57 x58 x59 x60 x61 x62 x63 x64 x65 x66 x67 x68 x69 x70 x71 x72 x73 x74 x75 x76 x77 x78 x79 x80 x81 x82 x83 x84 x85 x86 x87 x88 x89 x90 x91 x92 x93 x94 x95 x96 x97 x98 x99 x100 x101 x102 x103 x104 x105 x106 x107 x108 x109 x110 x111 x112 x113 x114 x115 x116 x117 x118 x119 x120 x121 x122 x123 x124 x125 x126 x127 x128 x129 x130 x131 x132 x133 x134 x135 x136 x137 x138 x139 x140 x141 x142 x143 x144 x145 x146 x147 x148 x149 x150 x151 x152 x153 x154 x155 x156 x157 x158 x159 x160 x161 x162 x163 x164 x165 x166 x167 x168 x169 x170 x171 x172 x173 x174 x175 x176 x177 x178 x179 x180 x181 x182 x183 x184 x185 x186 x187 x188 x189 x190 x191 x192 x193 x194 x195 x196 x197 x198 x199 x200 x201 x202 x203 x204 x205 x206 x207 x208 x209 x210 x211 x212 x213 x214 x215 x216 x217 x218 x219 x220 x221 x222 x223 x224 x225 x226 x227 x228 x229 x230 x231 x232 x233 x234 x235 x236 x237 x238 x239 x240 x241 x242 x243 x244 x245 x246 x247 x248 x249 x250 x251 x252 x253 x254 x255 x256 x257 x258 x259 x260 x261 x262 x263 x264 x265 x266 x267 x268 x269 x270 x271 x272 x273 x274 x275 x276 x277 x278 x279 x280 x281 x282 x283 x284 x285 x286 x287 x288 x289 x290 x291 x292 x293 x294 x295 x296 x297 x298 x299 x300 x301 x302 x303 x304 x305 x306 x307 x308 x309 x310 x311 x312 x313 x314 x315 x316 x317 x318 x319 x320 x321 x322 x323 x324 x325 x326 x327 x328 x329 x330 x331 x332 x333 x334 x335 x336 x337 x338 x339 x340 x341 x342 x343 x344 x345 x346 x347 x348 x349 x350 x351 x352 x353 x354 x355 x356 x357 x358 x359 x360 x361 x362 x363 x364 x365 x366 x367 x368 x369 x370 x371 x372 x373 x374 x375 x376 x377 x378 x379 x380 x381 x382 x383 : Value} {w : World}
    (hKw : Keeps Nob w0 w) (h0b : w0.heap.size ≤ bm) (hbw : bm < w.heap.size) (b6 : hi6 ≤ bm) (hgood : Hid (WGood n n n n nf ID B A FR L ix)) (hID : Hid (∀ j, j < n → (ID j).size ≤ maxLen))
    (hix : Hid (∀ b, ix = some b → b = bm ∧ OwnM w bm (idx ID L) L.length L.length)) (g0 : SlF Value.string w 0 hi6 d0 n ID) (g1 : SlF encI w 0 hi6 d1 n B) (g2 : SlF encI w 0 hi6 d2 n A) (g3 : SlF encI w 0 hi6 d3 n R)
    (hF4 : SlF encI w 0 hi6 d4 nf FR) (hS : SlF Value.string w 0 hi6 ds sn SC) (hd4 : d4 = none → nf = 0 ∧ e4 = 0)
    (hI : SlF Value.string w (bm + 1) w.heap.size aw wl (fun j => ((want SC (prs R ID L) sn).getD j (⟨#[]⟩, 0)).1)) (hR : SlF encI w (bm + 1) w.heap.size ar wl (fun j => ((want SC (prs R ID L) sn).getD j (⟨#[]⟩, 0)).2)) (hwl : Hid (wl = (want SC (prs R ID L) sn).length))
    (hSC : Hid (∀ j, j < sn → (SC j).size ≤ maxLen)) (hnf : nf ≤ 65536) (hn : n ≤ 65536) (hsn : sn ≤ 65536)
    (hm : Hid (m = lenOf n nf (cntF SC (lastF SC sn) (idx ID L) sn))) (hq : Hid (q = nf - min (cntF SC (lastF SC sn) (idx ID L) sn) nf)) :
    Code.wp Try.prog (tailF Try.f5 59) (bodyPost Try.prog Try.f5 fun e w' => e = .returned (.bool true) ∧ Keeps Nob w0 w') ⟨#[.slice d0 n e0, .slice d1 n e1, .slice d2 n e2, .slice d3 n e3, .slice d4 nf e4, .slice ds sn cs, x6, x7, x8, x9, x10, x11, x12, x13, x14, .map ix, x16, x17, x18, x19, x20, .slice aw wl cw, .slice ar wl cr, x23, x24, x25, x26, x27, x28, x29, x30, x31, x32, x33, .int .i64 m, .int .i64 q, x36, x37, x38, x39, x40, x41, x42, x43, x44, x45, x46, x47, x48, x49, x50, x51, x52, x53, x54, x55, x56, x57, x58, x59, x60, x61, x62, x63, x64, x65, x66, x67, x68, x69, x70, x71, x72, x73, x74, x75, x76, x77, x78, x79, x80, x81, x82, x83, x84, x85, x86, x87, x88, x89, x90, x91, x92, x93, x94, x95, x96, x97, x98, x99, x100, x101, x102, x103, x104, x105, x106, x107, x108, x109, x110, x111, x112, x113, x114, x115, x116, x117, x118, x119, x120, x121, x122, x123, x124, x125, x126, x127, x128, x129, x130, x131, x132, x133, x134, x135, x136, x137, x138, x139, x140, x141, x142, x143, x144, x145, x146, x147, x148, x149, x150, x151, x152, x153, x154, x155, x156, x157, x158, x159, x160, x161, x162, x163, x164, x165, x166, x167, x168, x169, x170, x171, x172, x173, x174, x175, x176, x177, x178, x179, x180, x181, x182, x183, x184, x185, x186, x187, x188, x189, x190, x191, x192, x193, x194, x195, x196, x197, x198, x199, x200, x201, x202, x203, x204, x205, x206, x207, x208, x209, x210, x211, x212, x213, x214, x215, x216, x217, x218, x219, x220, x221, x222, x223, x224, x225, x226, x227, x228, x229, x230, x231, x232, x233, x234, x235, x236, x237, x238, x239, x240, x241, x242, x243, x244, x245, x246, x247, x248, x249, x250, x251, x252, x253, x254, x255, x256, x257, x258, x259, x260, x261, x262, x263, x264, x265, x266, x267, x268, x269, x270, x271, x272, x273, x274, x275, x276, x277, x278, x279, x280, x281, x282, x283, x284, x285, x286, x287, x288, x289, x290, x291, x292, x293, x294, x295, x296, x297, x298, x299, x300, x301, x302, x303, x304, x305, x306, x307, x308, x309, x310, x311, x312, x313, x314, x315, x316, x317, x318, x319, x320, x321, x322, x323, x324, x325, x326, x327, x328, x329, x330, x331, x332, x333, x334, x335, x336, x337, x338, x339, x340, x341, x342, x343, x344, x345, x346, x347, x348, x349, x350, x351, x352, x353, x354, x355, x356, x357, x358, x359, x360, x361, x362, x363, x364, x365, x366, x367, x368, x369, x370, x371, x372, x373, x374, x375, x376, x377, x378, x379, x380, x381, x382, x383], []⟩ w := by
  rw [tail5_59]
  go_wp2
  conv => arg 2; whnf
  go_wp2_with (go_at_call 14; refine (cloneInts_any d4 nf e4 0 hi6 FR w hd4 (by omega) hF4).mono ?_)
  rintro e w3 ⟨af, cf, rfl, ⟨hcf, -⟩, hK3, hC⟩
  have hs3 := hK3.size
  have j0 := g0.keep hK3 (by omega) (fun _ _ _ h => h)
  have j1 := g1.keep hK3 (by omega) (fun _ _ _ h => h)
  have j2 := g2.keep hK3 (by omega) (fun _ _ _ h => h)
  have j3 := g3.keep hK3 (by omega) (fun _ _ _ h => h)
  have jF := hF4.keep hK3 (by omega) (fun _ _ _ h => h)
  have jS := hS.keep hK3 (by omega) (fun _ _ _ h => h)
  have jI := hI.keep hK3 (Nat.le_refl _) (fun _ _ _ h => h)
  have jR := hR.keep hK3 (Nat.le_refl _) (fun _ _ _ h => h)
  have hKw3 := hKw.trans (hK3.mono fun _ _ h => h)
  have hix3 : Hid (∀ b, ix = some b → b = bm ∧ OwnM w3 bm (idx ID L) L.length L.length) := fun b hb => by
    obtain ⟨h1, h3⟩ := hix.out b hb
    exact ⟨h1, h3.keep hK3 (fun h => h)⟩
  clear g0 g1 g2 g3 hF4 hS hI hR hix hKw hK3
  go_wp2_with (go_at_call 16; refine (newTable_any d0 d1 d2 d3 af n e0 e1 e2 e3 nf cf hi6 hi6 hi6 hi6 ix ID B A R w3 (by omega) j0 j1 j2 j3 (by omega) (by omega) (by omega) (by omega)).mono ?_)
  rintro e w4 ⟨rfl, hK4, v, hT4, hown4, hv4⟩
  have hs4 := hT4.lt
  have iF := (jF.keep hK4 (by omega) (fun _ _ _ h => h)).wide (Nat.zero_le _) b6
  have iS := (jS.keep hK4 (by omega) (fun _ _ _ h => h)).wide (Nat.zero_le _) b6
  have iI := (jI.keep hK4 (by omega) (fun _ _ _ h => h)).wide (Nat.le_refl _) hs3
  have iR := (jR.keep hK4 (by omega) (fun _ _ _ h => h)).wide (Nat.le_refl _) hs3
  have iC := (hC.keep hK4 (Nat.le_refl _) (fun _ _ _ h => h)).wide (Nat.succ_le_of_lt hbw) (Nat.le_refl _)
  have hKw4 := hKw3.trans (hK4.mono fun _ _ h => h)
  have hix4 : ∀ b, ix = some b → (b = bm ∨ w3.heap.size ≤ b) ∧ OwnM w4 b (idx ID L) L.length L.length := fun b hb => by
    obtain ⟨h1, h3⟩ := hix3.out b hb
    subst h1
    exact ⟨.inl rfl, h3.keep hK4 (fun h => h)⟩
  have hszs : ∀ s ∈ L, (ID s).size ≤ maxLen := fun s hs => by
    rcases Nat.eq_zero_or_pos n with h0 | h0
    · obtain ⟨rfl, -, -⟩ := hgood.out.zero h0
      cases hs
    · exact hID.out s ((hgood.out.pos h0).1.range s hs).2
  have hG : Going w4 w3.heap.size bm cf af FR n nf (idx ID L) (prs R ID L) SC 0 := ⟨n, nf, L, R, ID, B, A, ⟨v, ix, hT4, hown4, hv4, hix4, hgood.out⟩, ⟨hszs, (wants_zero _ _).symm, by simp [cntF, lenOf], by simp [cntF]⟩⟩
  have hM0 : Hid (∀ s, (idx ID L s).isSome = true ↔ s ∈ (prs R ID L).map (·.1)) := fun s => by rw [prs_names]; exact idx_isSome ID s L
  clear j0 j1 j2 j3 jF jS jI jR hKw3 hix3 hC hK4 hT4 hown4 hv4 hix4 hszs
  generalize w3.heap.size = tb at *
  clear w3
  go_wp2
  exact law5d hKw4 hG hs4 (by omega) h0b hM0 iI iR hwl iC hcf iF iS hSC hnf hn hsn hm hq
end Go.Proofs.Qxb6619702a
