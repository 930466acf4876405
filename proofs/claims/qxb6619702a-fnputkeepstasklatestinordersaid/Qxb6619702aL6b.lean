import Derived.Test.Qxb6619702aL6c
import Derived.Test.Qxb6619702aWant
/-! FnPutKeepsTaskLatestInOrder: what is asked of i and id; what is wanted. -/
namespace Go.Proofs.Qxb6619702a
open Go.RowKit
set_option maxHeartbeats 4000000 in
set_option maxRecDepth 100000 in
theorem law6b {w0 : World} {n e0 e1 e2 e3 co bm hi6 nf e4 : Nat} {i t : Int} {id pr : ByteArray} {d0 d1 d2 d3 d4 ao : Option Addr} {ix : Option Nat} {L : List Nat} {ID : Nat → ByteArray} {B A R FR : Nat → Int} {x9 x10 x11 x12 x13 x14 x15 x16 x17 x18 x19 x22 x23 x24 x25 x26 x27 x28 x29 x30 x31 x32 x33 x34 x35 x36 x37 x38 x39 x40 x41 x42 x43 x44 x45 x46 x47 x48 x49 x50 x51 x52 x53 x54 x55 x56 x57 x58 x59 x60 x61 x62 x63 x64 x65 x66 x67 x68 x69 x70 x71 x72 x73 x74 x75 x76 x77 x78 x79 x80 x81 x82 x83 x84 x85 x86 x87 x88 x89 x90 x91 x92 x93 x94 x95 x96 x97 x98 x99 x100 x101 x102 x103 x104 x105 x106 x107 x108 x109 x110 x111 x112 x113 x114 x115 x116 x117 x118 x119 x120 x121 x122 x123 x124 x125 x126 x127 x128 x129 x130 x131 x132 x133 x134 x135 x136 x137 x138 x139 x140 x141 x142 x143 x144 x145 x146 x147 x148 x149 x150 x151 x152 x153 x154 x155 x156 x157 x158 x159 x160 x161 x162 x163 x164 x165 x166 x167 x168 x169 x170 x171 x172 x173 x174 x175 x176 x177 x178 x179 x180 x181 x182 x183 x184 x185 x186 x187 x188 x189 x190 x191 x192 x193 x194 x195 x196 x197 x198 x199 x200 x201 x202 x203 x204 x205 x206 x207 x208 x209 x210 x211 x212 x213 x214 x215 x216 x217 x218 x219 x220 x221 x222 x223 x224 x225 x226 x227 x228 x229 x230 x231 x232 x233 x234 x235 x236 x237 x238 x239 x240 x241 x242 x243 x244 x245 x246 x247 x248 x249 x250 x251 x252 x253 x254 x255 x256 x257 x258 x259 x260 x261 x262 x263 x264 x265 x266 x267 x268 x269 x270 x271 x272 x273 x274 x275 x276 x277 x278 x279 x280 x281 x282 x283 x284 x285 x286 x287 x288 x289 x290 x291 x292 x293 x294 x295 x296 x297 x298 x299 x300 x301 x302 x303 x304 x305 x306 x307 x308 x309 x310 x311 x312 x313 x314 x315 x316 x317 x318 x319 x320 x321 x322 x323 x324 x325 x326 x327 x328 x329 x330 x331 x332 x333 x334 x335 x336 x337 x338 x339 x340 x341 x342 x343 x344 x345 x346 x347 x348 x349 x350 x351 x352 x353 x354 x355 x356 x357 x358 x359 x360 x361 x362 x363 x364 x365 x366 x367 x368 x369 x370 x371 x372 x373 x374 x375 x376 x377 x378 x379 x380 x381 x382 x383 x384 x385 x386 x387 x388 x389 x390 x391 x392 x393 x394 x395 x396 x397 x398 x399 x400 x401 x402 x403 x404 x405 x406 x407 x408 x409 x410 x411 x412 x413 x414 x415 x416 x417 x418 x419 x420 x421 x422 x423 x424 x425 x426 x427 x428 x429 x430 x431 x432 x433 x434 x435 x436 x437 x438 : Value} {w : World}
    (hKw : Keeps Nob w0 w) (hlo : w0.heap.size ≤ hi6) (hO : SlF encI w hi6 bm ao L.length (fun j => (L.getD j 0 : Int)))
    (g0 : SlF Value.string w 0 hi6 d0 n ID) (g1 : SlF encI w 0 hi6 d1 n B) (g2 : SlF encI w 0 hi6 d2 n A) (g3 : SlF encI w 0 hi6 d3 n R)
    (hF4 : SlF encI w 0 hi6 d4 nf FR) (hnf : nf ≤ 65536) (hnn : n ≤ 65536) (hgood : Hid (WGood n n n n nf ID B A FR L ix)) (hID : Hid (∀ j, j < n → (ID j).size ≤ maxLen)) (hid : id.size ≤ maxLen)
    (hix : Hid (∀ b, ix = some b → b = bm ∧ bm < w.heap.size ∧ OwnM w bm (idx ID L) L.length L.length)) (b6 : hi6 ≤ bm) (bb : bm ≤ w.heap.size) (hd4 : Hid (d4 = none → nf = 0 ∧ e4 = 0)) :
    Code.wp Try.prog (tailF Try.f6 24) (bodyPost Try.prog Try.f6 fun e w' => e = .returned (.bool true) ∧ Keeps Nob w0 w') ⟨#[.slice d0 n e0, .slice d1 n e1, .slice d2 n e2, .slice d3 n e3, .slice d4 nf e4, .int .i64 i, .string id, .int .i64 t, .string pr, x9, x10, x11, x12, x13, x14, x15, x16, x17, x18, x19, .slice ao L.length co, .map ix, x22, x23, x24, x25, x26, x27, x28, x29, x30, x31, x32, x33, x34, x35, x36, x37, x38, x39, x40, x41, x42, x43, x44, x45, x46, x47, x48, x49, x50, x51, x52, x53, x54, x55, x56, x57, x58, x59, x60, x61, x62, x63, x64, x65, x66, x67, x68, x69, x70, x71, x72, x73, x74, x75, x76, x77, x78, x79, x80, x81, x82, x83, x84, x85, x86, x87, x88, x89, x90, x91, x92, x93, x94, x95, x96, x97, x98, x99, x100, x101, x102, x103, x104, x105, x106, x107, x108, x109, x110, x111, x112, x113, x114, x115, x116, x117, x118, x119, x120, x121, x122, x123, x124, x125, x126, x127, x128, x129, x130, x131, x132, x133, x134, x135, x136, x137, x138, x139, x140, x141, x142, x143, x144, x145, x146, x147, x148, x149, x150, x151, x152, x153, x154, x155, x156, x157, x158, x159, x160, x161, x162, x163, x164, x165, x166, x167, x168, x169, x170, x171, x172, x173, x174, x175, x176, x177, x178, x179, x180, x181, x182, x183, x184, x185, x186, x187, x188, x189, x190, x191, x192, x193, x194, x195, x196, x197, x198, x199, x200, x201, x202, x203, x204, x205, x206, x207, x208, x209, x210, x211, x212, x213, x214, x215, x216, x217, x218, x219, x220, x221, x222, x223, x224, x225, x226, x227, x228, x229, x230, x231, x232, x233, x234, x235, x236, x237, x238, x239, x240, x241, x242, x243, x244, x245, x246, x247, x248, x249, x250, x251, x252, x253, x254, x255, x256, x257, x258, x259, x260, x261, x262, x263, x264, x265, x266, x267, x268, x269, x270, x271, x272, x273, x274, x275, x276, x277, x278, x279, x280, x281, x282, x283, x284, x285, x286, x287, x288, x289, x290, x291, x292, x293, x294, x295, x296, x297, x298, x299, x300, x301, x302, x303, x304, x305, x306, x307, x308, x309, x310, x311, x312, x313, x314, x315, x316, x317, x318, x319, x320, x321, x322, x323, x324, x325, x326, x327, x328, x329, x330, x331, x332, x333, x334, x335, x336, x337, x338, x339, x340, x341, x342, x343, x344, x345, x346, x347, x348, x349, x350, x351, x352, x353, x354, x355, x356, x357, x358, x359, x360, x361, x362, x363, x364, x365, x366, x367, x368, x369, x370, x371, x372, x373, x374, x375, x376, x377, x378, x379, x380, x381, x382, x383, x384, x385, x386, x387, x388, x389, x390, x391, x392, x393, x394, x395, x396, x397, x398, x399, x400, x401, x402, x403, x404, x405, x406, x407, x408, x409, x410, x411, x412, x413, x414, x415, x416, x417, x418, x419, x420, x421, x422, x423, x424, x425, x426, x427, x428, x429, x430, x431, x432, x433, x434, x435, x436, x437, x438], []⟩ w := by
  rw [tail6_24]
  go_wp2
  conv => arg 2; whnf
  cases ix with
  | none =>
    have hn0 : n = 0 := by
      rcases Nat.eq_zero_or_pos n with h | h
      · exact h
      · have := (hgood.out.pos h).2.2.2; simp at this
    obtain ⟨hL0, -, hf0⟩ := hgood.out.zero hn0
    subst hL0 hn0 hf0
    have hlk := look_none id hid
    by_cases hi : i = 0
    · subst hi
      go_wp2
      rw [tail6_31]; go_wp2; conv => arg 2; whnf
      go_wp2
      rw [tail6_32]; go_wp2; conv => arg 2; whnf
      go_wp2
      rw [tail6_33]; go_wp2; conv => arg 2; whnf
      go_wp2
      rw [tail6_35]; go_wp2; conv => arg 2; whnf
      go_wp2
      rw [tail6_36]; go_wp2; conv => arg 2; whnf
      go_wp2
      rw [tail6_37]; go_wp2; conv => arg 2; whnf
      go_wp2
      rw [tail6_38]; go_wp2; conv => arg 2; whnf
      go_wp2
      clear hlk
      obtain ⟨S', M, hfin, hW, hput⟩ := want_zero (ID := ID) (R := R) (B := B) (A := A) (FR := FR) (t := t) (pr := pr) hid
      exact law6c hKw hlo hO g0 g1 g2 g3 hF4 (Nat.le_refl _) (by decide) (by decide) (by decide) hfin hW (by decide) hput hix b6 bb (fun h => ⟨rfl, (hd4.out h).2⟩)
    · have hi' : (i == 0) = false := by simpa using hi
      go_wp2
      go_ret
      exact ⟨rfl, hKw⟩
  | some b =>
    have hn0 : 0 < n := by
      rcases Nat.eq_zero_or_pos n with h | h
      · have := (hgood.out.zero h).2.1; cases this
      · exact h
    have hn1 : ((n : Int) == 0) = false := by simp; omega
    have hl : L.length ≤ 65536 := by
      have hr := (hgood.out.pos hn0).1
      have := nodup_len n L hr.nodup fun x hx => (hr.range x hx).2
      omega
    obtain ⟨rfl, hbm3, hMm⟩ := hix.out b rfl
    cases hv : idx ID L id with
    | none =>
      have HV : Hid (idx ID L id = none) := hv
      clear hv
      by_cases hi : i = 0
      · subst hi
        cases nf with
        | zero =>
          go_wp2_with (at_lookup; refine wpList_mlook_none rfl _ _ rfl rfl hMm id rfl hid HV ?_)
          go_wp2
          rw [tail6_31]; go_wp2; conv => arg 2; whnf
          go_wp2
          rw [tail6_32]; go_wp2; conv => arg 2; whnf
          go_wp2
          rw [tail6_33]; go_wp2; conv => arg 2; whnf
          go_wp2
          rw [tail6_35]; go_wp2; conv => arg 2; whnf
          go_wp2
          rw [tail6_36]; go_wp2; conv => arg 2; whnf
          go_wp2
          rw [tail6_37]; go_wp2; conv => arg 2; whnf
          go_wp2
          rw [tail6_38]; go_wp2; conv => arg 2; whnf
          go_wp2
          clear hMm hbm3 hn1
          obtain ⟨S', M, hfin, hW, hput⟩ := want_new (R := R) (t := t) (pr := pr) hnn hgood.out hID.out hid HV.out
          exact law6c hKw hlo hO g0 g1 g2 g3 hF4 (Nat.le_refl _) (by decide) hnn (show n + 1 ≤ 1048576 by omega) hfin hW hl hput hix b6 bb (fun h => ⟨rfl, (hd4.out h).2⟩)
        | succ q =>
          obtain ⟨bo, oo, rfl, -, -, hc⟩ := hF4 (by omega)
          obtain ⟨x, hx⟩ : ∃ x : Nat, FR q = (x : Int) := ⟨(FR q).toNat, by have := ((hgood.out.pos hn0).2.2.1).range q (by omega); omega⟩
          replace hc := hc q (by omega)
          rw [hx] at hc
          have HX : Hid (FR q = (x : Int)) := hx
          clear hx
          go_wp2_with (at_lookup; refine wpList_mlook_none rfl _ _ rfl rfl hMm id rfl hid HV ?_)
          go_wp2
          rw [tail6_31]; go_wp2; conv => arg 2; whnf
          go_wp2
          rw [tail6_32]; go_wp2; conv => arg 2; whnf
          go_wp2
          rw [tail6_33]; go_wp2; conv => arg 2; whnf
          go_wp2
          rw [tail6_35]; go_wp2; conv => arg 2; whnf
          go_wp2
          rw [tail6_36]; go_wp2; conv => arg 2; whnf
          go_wp2
          rw [tail6_37]; go_wp2; conv => arg 2; whnf
          go_wp2
          rw [tail6_38]; go_wp2; conv => arg 2; whnf
          go_wp2
          clear hMm hbm3 hn1 hc
          obtain ⟨S', M, hfin, hW, hput⟩ := want_free (R := R) (t := t) (pr := pr) hnn hnf hgood.out hID.out hid HX.out HV.out
          exact law6c hKw hlo hO g0 g1 g2 g3 hF4 (Nat.le_succ _) hnf hnn (by omega) hfin hW hl hput hix b6 bb (fun h => absurd h (by simp))
      · have hi' : (i == 0) = false := by simpa using hi
        go_wp2_with (at_lookup; refine wpList_mlook_none rfl _ _ rfl rfl hMm id rfl hid HV ?_)
        go_ret
        exact ⟨rfl, hKw⟩
    | some c =>
      have HV : Hid (idx ID L id = some c) := hv
      obtain ⟨j, hj, hj2, rfl⟩ := idx_some hv
      have HJ : Hid (ID j = id) := hj2
      have HM : Hid (j ∈ L) := hj
      have hj0 := ((hgood.out.pos hn0).1.range j hj).1
      clear hv hj2 hj
      by_cases hi : i = 0
      · subst hi
        go_wp2_with (at_lookup; refine wpList_mlook_some rfl _ _ rfl rfl hMm id rfl hid _ HV ?_)
        go_ret
        exact ⟨rfl, hKw⟩
      · have hi' : (i == 0) = false := by simpa using hi
        by_cases hij : i = (j : Int)
        · subst hij
          go_wp2_with (at_lookup; refine wpList_mlook_some rfl _ _ rfl rfl hMm id rfl hid _ HV ?_)
          go_wp2
          rw [tail6_31]; go_wp2; conv => arg 2; whnf
          go_wp2
          rw [tail6_32]; go_wp2; conv => arg 2; whnf
          go_wp2
          rw [tail6_33]; go_wp2; conv => arg 2; whnf
          go_wp2
          rw [tail6_35]; go_wp2; conv => arg 2; whnf
          go_wp2
          rw [tail6_36]; go_wp2; conv => arg 2; whnf
          go_wp2
          rw [tail6_37]; go_wp2; conv => arg 2; whnf
          go_wp2
          rw [tail6_38]; go_wp2; conv => arg 2; whnf
          go_wp2
          clear hMm hbm3 hn1
          obtain ⟨S', M, hfin, hW, hput⟩ := want_old (R := R) (t := t) (pr := pr) hnn hgood.out hID.out HM.out HJ.out
          exact law6c hKw hlo hO g0 g1 g2 g3 hF4 (Nat.le_refl _) hnf hnn (by omega) hfin hW hl hput hix b6 bb hd4.out
        · have hij' : ((j : Int) != i) = true := by simp; omega
          go_wp2_with (at_lookup; refine wpList_mlook_some rfl _ _ rfl rfl hMm id rfl hid _ HV ?_)
          go_ret
          exact ⟨rfl, hKw⟩
end Go.Proofs.Qxb6619702a
