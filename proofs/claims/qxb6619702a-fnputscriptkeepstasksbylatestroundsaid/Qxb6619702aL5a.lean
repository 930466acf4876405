import Derived.Test.Qxb6619702aL5a2
/-! FnPutScriptKeepsTasksByLatestRound: the map of last mentions. -/
namespace Go.Proofs.Qxb6619702a
open Go.RowKit
set_option maxHeartbeats 4000000 in
set_option maxRecDepth 100000 in
theorem law5a {w0 : World} {bm n nf sn cs co hi6 e0 e1 e2 e3 e4 : Nat} {d0 d1 d2 d3 d4 ds ao : Option Addr} {ix : Option Nat} {L : List Nat} {SC ID : Nat → ByteArray} {R B A FR : Nat → Int} {x6 x7 x8 x9 x10 x11 x12 x13 x16 x17 x18 x19 x20 x21 x22 x23 x24 x25 x26 x27 x28 x29 x30 x31 x32 x33 x34 x35 x36 x37 x38 x39 x40 x41 x42 x43 x44 x45 x46 x47 x48 x49 x50 x51 x52 x53 x54 x55 x56 x57 x58 x59 x60 x61 x62 x63 x64 x65 x66 x67 x68 x69 x70 x71 x72 x73 x74 x75 x76 x77 x78 x79 x80 x81 x82 x83 x84 x85 x86 x87 x88 x89 x90 x91 x92 x93 x94 x95 x96 x97 x98 x99 x100 x101 x102 x103 x104 x105 x106 x107 x108 x109 x110 x111 x112 x113 x114 x115 x116 x117 x118 x119 x120 x121 x122 x123 x124 x125 x126 x127 x128 x129 x130 x131 x132 x133 x134 x135 x136 x137 x138 x139 x140 x141 x142 x143 x144 x145 x146 x147 x148 x149 x150 x151 x152 x153 x154 x155 x156 x157 x158 x159 x160 x161 x162 x163 x164 x165 x166 x167 x168 x169 x170 x171 x172 x173 x174 x175 x176 x177 x178 x179 x180 x181 x182 x183 x184 x185 x186 x187 x188 x189 x190 x191 x192 x193 x194 x195 x196 x197 x198 x199 x200 x201 x202 x203 x204 x205 x206 x207 x208 x209 x210 x211 x212 x213 x214 x215 x216 x217 x218 x219 x220 x221 x222 x223 x224 x225 x226 x227 x228 x229 x230 x231 x232 x233 x234 x235 x236 x237 x238 x239 x240 x241 x242 x243 x244 x245 x246 x247 x248 x249 x250 x251 x252 x253 x254 x255 x256 x257 x258 x259 x260 x261 x262 x263 x264 x265 x266 x267 x268 x269 x270 x271 x272 x273 x274 x275 x276 x277 x278 x279 x280 x281 x282 x283 x284 x285 x286 x287 x288 x289 x290 x291 x292 x293 x294 x295 x296 x297 x298 x299 x300 x301 x302 x303 x304 x305 x306 x307 x308 x309 x310 x311 x312 x313 x314 x315 x316 x317 x318 x319 x320 x321 x322 x323 x324 x325 x326 x327 x328 x329 x330 x331 x332 x333 x334 x335 x336 x337 x338 x339 x340 x341 x342 x343 x344 x345 x346 x347 x348 x349 x350 x351 x352 x353 x354 x355 x356 x357 x358 x359 x360 x361 x362 x363 x364 x365 x366 x367 x368 x369 x370 x371 x372 x373 x374 x375 x376 x377 x378 x379 x380 x381 x382 x383 : Value} {w : World}
    (hKw : Keeps Nob w0 w) (h0b : w0.heap.size ≤ bm) (bb : bm ≤ w.heap.size) (b6 : hi6 ≤ bm) (hgood : Hid (WGood n n n n nf ID B A FR L ix)) (hID : Hid (∀ j, j < n → (ID j).size ≤ maxLen))
    (hix : Hid (∀ b, ix = some b → b = bm ∧ bm < w.heap.size ∧ OwnM w bm (idx ID L) L.length L.length)) (hO : SlF encI w hi6 bm ao L.length (fun j => (L.getD j 0 : Int))) (g0 : SlF Value.string w 0 hi6 d0 n ID) (g1 : SlF encI w 0 hi6 d1 n B) (g2 : SlF encI w 0 hi6 d2 n A) (g3 : SlF encI w 0 hi6 d3 n R)
    (hF4 : SlF encI w 0 hi6 d4 nf FR) (hS : SlF Value.string w 0 hi6 ds sn SC) (hd4 : Hid (d4 = none → nf = 0 ∧ e4 = 0))
    (hSC : Hid (∀ j, j < sn → (SC j).size ≤ maxLen)) (hnf : nf ≤ 65536) (hn : n ≤ 65536) (hsn : sn ≤ 65536) :
    Code.wp Try.prog (tailF Try.f5 23) (bodyPost Try.prog Try.f5 fun e w' => e = .returned (.bool true) ∧ Keeps Nob w0 w') ⟨#[.slice d0 n e0, .slice d1 n e1, .slice d2 n e2, .slice d3 n e3, .slice d4 nf e4, .slice ds sn cs, x6, x7, x8, x9, x10, x11, x12, x13, .slice ao L.length co, .map ix, x16, x17, x18, x19, x20, x21, x22, x23, x24, x25, x26, x27, x28, x29, x30, x31, x32, x33, x34, x35, x36, x37, x38, x39, x40, x41, x42, x43, x44, x45, x46, x47, x48, x49, x50, x51, x52, x53, x54, x55, x56, x57, x58, x59, x60, x61, x62, x63, x64, x65, x66, x67, x68, x69, x70, x71, x72, x73, x74, x75, x76, x77, x78, x79, x80, x81, x82, x83, x84, x85, x86, x87, x88, x89, x90, x91, x92, x93, x94, x95, x96, x97, x98, x99, x100, x101, x102, x103, x104, x105, x106, x107, x108, x109, x110, x111, x112, x113, x114, x115, x116, x117, x118, x119, x120, x121, x122, x123, x124, x125, x126, x127, x128, x129, x130, x131, x132, x133, x134, x135, x136, x137, x138, x139, x140, x141, x142, x143, x144, x145, x146, x147, x148, x149, x150, x151, x152, x153, x154, x155, x156, x157, x158, x159, x160, x161, x162, x163, x164, x165, x166, x167, x168, x169, x170, x171, x172, x173, x174, x175, x176, x177, x178, x179, x180, x181, x182, x183, x184, x185, x186, x187, x188, x189, x190, x191, x192, x193, x194, x195, x196, x197, x198, x199, x200, x201, x202, x203, x204, x205, x206, x207, x208, x209, x210, x211, x212, x213, x214, x215, x216, x217, x218, x219, x220, x221, x222, x223, x224, x225, x226, x227, x228, x229, x230, x231, x232, x233, x234, x235, x236, x237, x238, x239, x240, x241, x242, x243, x244, x245, x246, x247, x248, x249, x250, x251, x252, x253, x254, x255, x256, x257, x258, x259, x260, x261, x262, x263, x264, x265, x266, x267, x268, x269, x270, x271, x272, x273, x274, x275, x276, x277, x278, x279, x280, x281, x282, x283, x284, x285, x286, x287, x288, x289, x290, x291, x292, x293, x294, x295, x296, x297, x298, x299, x300, x301, x302, x303, x304, x305, x306, x307, x308, x309, x310, x311, x312, x313, x314, x315, x316, x317, x318, x319, x320, x321, x322, x323, x324, x325, x326, x327, x328, x329, x330, x331, x332, x333, x334, x335, x336, x337, x338, x339, x340, x341, x342, x343, x344, x345, x346, x347, x348, x349, x350, x351, x352, x353, x354, x355, x356, x357, x358, x359, x360, x361, x362, x363, x364, x365, x366, x367, x368, x369, x370, x371, x372, x373, x374, x375, x376, x377, x378, x379, x380, x381, x382, x383], []⟩ w := by
  rw [tail5_23]
  go_wp2
  conv => arg 2; whnf
  go_wp2
  have hmm := @run_makeMap Try.prog
  rw [tail5_24]
  go_wp2
  conv => arg 2; whnf
  go_wp2
  clear hmm
  have hM0 := OwnM.made w
  have hK0 := (Keeps.refl Nob w).alloc (.map #[] 0)
  generalize w.alloc (.map #[] 0) = w1 at hM0 hK0
  have hs0 := hK0.size
  have hM0' : OwnM w1 w.heap.size (lastF SC 0) 0 0 := hM0
  have hl0 := hM0.lt
  rw [tail5_25]
  go_wp2
  conv => arg 2; whnf
  go_wp2
  go_loopw [146] (fun i wr => ∃ k N : Nat, k ≤ sn ∧ i = .int .i64 k ∧ OwnM wr w.heap.size (lastF SC k) N k ∧ Keeps (fun x => x = w.heap.size) w1 wr) (fun i _ => sn - (intOf i).toNat)
  case atStart => exact ⟨0, 0, Nat.zero_le _, rfl, hM0', Keeps.refl _ _⟩
  case round =>
    clear hM0 hM0'
    obtain ⟨k, N, hk, rfl, hLk, hK⟩ := hrel
    have hs := hK.size
    have T1 : ∀ {α : Type} {enc : α → Value} {ao : Option Addr} {N lo hi : Nat} {F : Nat → α}, SlF enc w lo hi ao N F → hi ≤ w.heap.size → SlF enc wr lo hi ao N F := by
      intro α enc ao N lo hi F h h1
      exact (h.keep hK0 h1 (fun _ _ _ h => h)).keep hK (by omega) (fun x hx1 hx2 => by omega)
    by_cases hlt : k < sn
    · obtain ⟨b1, o1, rfl, -, -, hc⟩ := (T1 hS (by omega)) (by omega)
      replace hc := hc k hlt
      have hsz := hSC.out k hlt
      clear T1 hO g0 g1 g2 g3 hF4 hS hKw hix hK0
      go_wp2_with (at_mapUpdate; refine wpList_mstore rfl _ _ _ rfl rfl hLk (by omega) (SC k) rfl hsz (k : Int) rfl (WalkArith.wf_i64 (by omega)) ?_)
      all_goals
        intro w5 hM5 hK5
        rw [← lastF_succ] at hM5
        have hKn := hK.trans hK5
        clear hLk hK hK5 hc hs
        go_wp2
        refine ⟨?rel, ?measure⟩
        case rel => exact ⟨k + 1, _, hlt, by go_num, hM5, hKn⟩
        case measure => simp [intOf]; omega
    · have hkn : k = sn := by omega
      subst hkn
      have j0 := T1 g0 (by omega)
      have j1 := T1 g1 (by omega)
      have j2 := T1 g2 (by omega)
      have j3 := T1 g3 (by omega)
      have jF := T1 hF4 (by omega)
      have jS := T1 hS (by omega)
      have jO := (T1 hO bb).wide (Nat.le_refl _) (show bm ≤ wr.heap.size by omega)
      have hix3 : Hid (∀ b, ix = some b → b = bm ∧ OwnM wr bm (idx ID L) L.length L.length) := fun b hb => by
        obtain ⟨h1, h2, h3⟩ := hix.out b hb
        exact ⟨h1, (h3.keep hK0 (fun h => h)).keep hK (by omega)⟩
      have hKx : Keeps Nob w0 wr := ⟨hK.os.trans (hK0.os.trans hKw.os), hK.tape.trans (hK0.tape.trans hKw.tape), hK.output.trans (hK0.output.trans hKw.output), Nat.le_trans hKw.size (Nat.le_trans hs0 hs), fun x hx hn => (hK.block x (Nat.lt_of_lt_of_le hx (Nat.le_trans hKw.size hs0)) (by have := hKw.size; omega)).trans ((hK0.block x (Nat.lt_of_lt_of_le hx hKw.size) (fun h => h)).trans (hKw.block x hx hn))⟩
      clear T1 g0 g1 g2 g3 hF4 hS hix hK hO hK0
      go_wp2
      exact law5a2 hKx h0b (by omega) b6 hgood hID hix3 jO j0 j1 j2 j3 jF jS hd4 (by omega) hLk hSC hnf hn hsn
end Go.Proofs.Qxb6619702a
