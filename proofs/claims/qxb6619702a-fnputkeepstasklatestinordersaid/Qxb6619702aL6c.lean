import Derived.Test.Qxb6619702aL6d
import Derived.Test.Qxb6619702aPutOK
/-! FnPutKeepsTaskLatestInOrder: the wanted order; the table; put. -/
namespace Go.Proofs.Qxb6619702a
open Go.RowKit
set_option maxHeartbeats 4000000 in
set_option maxRecDepth 100000 in
theorem law6c {w0 : World} {m n used e0 e1 e2 e3 co bm hi6 nf e4 q : Nat} {i t : Int} {id pr : ByteArray} {d0 d1 d2 d3 d4 ao : Option Addr} {ix : Option Nat} {L : List Nat} {M : ByteArray → Option Int} {S' : Slots} {ID : Nat → ByteArray} {B A R FR : Nat → Int} {x9 x10 x11 x12 x13 x14 x15 x16 x17 x18 x19 x22 x23 x24 x25 x26 x28 x32 x33 x34 x35 x36 x37 x38 x39 x40 x41 x42 x43 x44 x45 x46 x47 x48 x49 x50 x51 x52 x53 x54 x55 x56 x57 x58 x59 x60 x61 x62 x63 x64 x65 x66 x67 x68 x69 x70 x71 x72 x73 x74 x75 x76 x77 x78 x79 x80 x81 x82 x83 x84 x85 x86 x87 x88 x89 x90 x91 x92 x93 x94 x95 x96 x97 x98 x99 x100 x101 x102 x103 x104 x105 x106 x107 x108 x109 x110 x111 x112 x113 x114 x115 x116 x117 x118 x119 x120 x121 x122 x123 x124 x125 x126 x127 x128 x129 x130 x131 x132 x133 x134 x135 x136 x137 x138 x139 x140 x141 x142 x143 x144 x145 x146 x147 x148 x149 x150 x151 x152 x153 x154 x155 x156 x157 x158 x159 x160 x161 x162 x163 x164 x165 x166 x167 x168 x169 x170 x171 x172 x173 x174 x175 x176 x177 x178 x179 x180 x181 x182 x183 x184 x185 x186 x187 x188 x189 x190 x191 x192 x193 x194 x195 x196 x197 x198 x199 x200 x201 x202 x203 x204 x205 x206 x207 x208 x209 x210 x211 x212 x213 x214 x215 x216 x217 x218 x219 x220 x221 x222 x223 x224 x225 x226 x227 x228 x229 x230 x231 x232 x233 x234 x235 x236 x237 x238 x239 x240 x241 x242 x243 x244 x245 x246 x247 x248 x249 x250 x251 x252 x253 x254 x255 x256 x257 x258 x259 x260 x261 x262 x263 x264 x265 x266 x267 x268 x269 x270 x271 x272 x273 x274 x275 x276 x277 x278 x279 x280 x281 x282 x283 x284 x285 x286 x287 x288 x289 x290 x291 x292 x293 x294 x295 x296 x297 x298 x299 x300 x301 x302 x303 x304 x305 x306 x307 x308 x309 x310 x311 x312 x313 x314 x315 x316 x317 x318 x319 x320 x321 x322 x323 x324 x325 x326 x327 x328 x329 x330 x331 x332 x333 x334 x335 x336 x337 x338 x339 x340 x341 x342 x343 x344 x345 x346 x347 x348 x349 x350 x351 x352 x353 x354 x355 x356 x357 x358 x359 x360 x361 x362 x363 x364 x365 x366 x367 x368 x369 x370 x371 x372 x373 x374 x375 x376 x377 x378 x379 x380 x381 x382 x383 x384 x385 x386 x387 x388 x389 x390 x391 x392 x393 x394 x395 x396 x397 x398 x399 x400 x401 x402 x403 x404 x405 x406 x407 x408 x409 x410 x411 x412 x413 x414 x415 x416 x417 x418 x419 x420 x421 x422 x423 x424 x425 x426 x427 x428 x429 x430 x431 x432 x433 x434 x435 x436 x437 x438 : Value} {w : World}
    (hKw : Keeps Nob w0 w) (hlo : w0.heap.size ≤ hi6) (hO : SlF encI w hi6 bm ao L.length (fun j => (L.getD j 0 : Int)))
    (g0 : SlF Value.string w 0 hi6 d0 n ID) (g1 : SlF encI w 0 hi6 d1 n B) (g2 : SlF encI w 0 hi6 d2 n A) (g3 : SlF encI w 0 hi6 d3 n R)
    (hF4 : SlF encI w 0 hi6 d4 nf FR) (hq : q ≤ nf) (hnf : nf ≤ 65536) (hnn : n ≤ 65536) (hm : m ≤ 1048576) (hfin : Hid (Final n ⟨R, fun _ => ⟨#[]⟩, ID, B, A⟩ m used (without i L ++ [used]) S' M id t pr))
    (hW : Hid (∀ x ∈ without i L ++ [used], (S'.ID x).size ≤ maxLen)) (hl : L.length ≤ 65536)
    (hput : Hid (PutOK n nf m q ix L ID FR ⟨R, fun _ => ⟨#[]⟩, ID, B, A⟩ S' M (without i L ++ [used]).length i id t pr))
    (hix : Hid (∀ b, ix = some b → b = bm ∧ bm < w.heap.size ∧ OwnM w bm (idx ID L) L.length L.length)) (b6 : hi6 ≤ bm) (bb : bm ≤ w.heap.size) (hd4 : d4 = none → nf = 0 ∧ e4 = 0) :
    Code.wp Try.prog (tailF Try.f6 44) (bodyPost Try.prog Try.f6 fun e w' => e = .returned (.bool true) ∧ Keeps Nob w0 w') ⟨#[.slice d0 n e0, .slice d1 n e1, .slice d2 n e2, .slice d3 n e3, .slice d4 nf e4, .int .i64 i, .string id, .int .i64 t, .string pr, x9, x10, x11, x12, x13, x14, x15, x16, x17, x18, x19, .slice ao L.length co, .map ix, x22, x23, x24, x25, x26, .int .i64 n, x28, .int .i64 used, .int .i64 m, .int .i64 q, x32, x33, x34, x35, x36, x37, x38, x39, x40, x41, x42, x43, x44, x45, x46, x47, x48, x49, x50, x51, x52, x53, x54, x55, x56, x57, x58, x59, x60, x61, x62, x63, x64, x65, x66, x67, x68, x69, x70, x71, x72, x73, x74, x75, x76, x77, x78, x79, x80, x81, x82, x83, x84, x85, x86, x87, x88, x89, x90, x91, x92, x93, x94, x95, x96, x97, x98, x99, x100, x101, x102, x103, x104, x105, x106, x107, x108, x109, x110, x111, x112, x113, x114, x115, x116, x117, x118, x119, x120, x121, x122, x123, x124, x125, x126, x127, x128, x129, x130, x131, x132, x133, x134, x135, x136, x137, x138, x139, x140, x141, x142, x143, x144, x145, x146, x147, x148, x149, x150, x151, x152, x153, x154, x155, x156, x157, x158, x159, x160, x161, x162, x163, x164, x165, x166, x167, x168, x169, x170, x171, x172, x173, x174, x175, x176, x177, x178, x179, x180, x181, x182, x183, x184, x185, x186, x187, x188, x189, x190, x191, x192, x193, x194, x195, x196, x197, x198, x199, x200, x201, x202, x203, x204, x205, x206, x207, x208, x209, x210, x211, x212, x213, x214, x215, x216, x217, x218, x219, x220, x221, x222, x223, x224, x225, x226, x227, x228, x229, x230, x231, x232, x233, x234, x235, x236, x237, x238, x239, x240, x241, x242, x243, x244, x245, x246, x247, x248, x249, x250, x251, x252, x253, x254, x255, x256, x257, x258, x259, x260, x261, x262, x263, x264, x265, x266, x267, x268, x269, x270, x271, x272, x273, x274, x275, x276, x277, x278, x279, x280, x281, x282, x283, x284, x285, x286, x287, x288, x289, x290, x291, x292, x293, x294, x295, x296, x297, x298, x299, x300, x301, x302, x303, x304, x305, x306, x307, x308, x309, x310, x311, x312, x313, x314, x315, x316, x317, x318, x319, x320, x321, x322, x323, x324, x325, x326, x327, x328, x329, x330, x331, x332, x333, x334, x335, x336, x337, x338, x339, x340, x341, x342, x343, x344, x345, x346, x347, x348, x349, x350, x351, x352, x353, x354, x355, x356, x357, x358, x359, x360, x361, x362, x363, x364, x365, x366, x367, x368, x369, x370, x371, x372, x373, x374, x375, x376, x377, x378, x379, x380, x381, x382, x383, x384, x385, x386, x387, x388, x389, x390, x391, x392, x393, x394, x395, x396, x397, x398, x399, x400, x401, x402, x403, x404, x405, x406, x407, x408, x409, x410, x411, x412, x413, x414, x415, x416, x417, x418, x419, x420, x421, x422, x423, x424, x425, x426, x427, x428, x429, x430, x431, x432, x433, x434, x435, x436, x437, x438], []⟩ w := by
  rw [tail6_44]
  go_wp2
  conv => arg 2; whnf
  go_wp2
  rw [tail6_45]
  go_wp2
  conv => arg 2; whnf
  go_wp2
  go_loopw [32, 193] (fun v c wr => ∃ k : Nat, k ≤ L.length ∧ c = .int .i64 k ∧ wr.ownsRow w.heap.size 3 1 v (without i (L.take k)).length (encL (without i (L.take k))) ∧ Keeps Nob w wr) (fun _ c _ => L.length - (intOf c).toNat)
  case atStart => exact ⟨0, Nat.zero_le _, rfl, World.ownsRow_nil _ _ _ _, Keeps.refl _ _⟩
  case round =>
    obtain ⟨k, hk, rfl, hown, hK⟩ := hrel
    have hs := hK.size
    have hfl : (without i (L.take k)).length ≤ 65536 := Nat.le_trans (without_le _ _) (by simp; omega)
    by_cases hlt : k < L.length
    · have hOk := hO.keep hK (by omega) (fun _ _ _ h => h)
      obtain ⟨bo, oo, rfl, -, -, hOc⟩ := hOk (by omega)
      obtain ⟨x, hx⟩ : ∃ x, L.getD k 0 = x := ⟨_, rfl⟩
      have hxL : L[k]? = some x := by rw [← hx]; simp [hlt]
      replace hOc := hOc k hlt
      simp only [hx] at hOc
      have htk : L.take (k + 1) = L.take k ++ [x] := by rw [List.take_add_one, hxL]; rfl
      clear hx hxL hOk
      by_cases hxi : (x : Int) = i
      · have hxi' : ((x : Int) != i) = false := by simp [hxi]
        have he : without i (L.take (k + 1)) = without i (L.take k) := by rw [htk]; exact without_drop hxi
        have HE : Hid (_ = _) := he
        clear he hxi htk
        go_wp2
        refine ⟨?rel, ?measure⟩
        case rel => exact ⟨k + 1, hlt, by go_num, by rw [HE.out]; exact hown, hK⟩
        case measure => simp [intOf]; omega
      · have hxi' : ((x : Int) != i) = true := by simpa using hxi
        have he : without i (L.take (k + 1)) = without i (L.take k) ++ [x] := by rw [htk]; exact without_keep hxi
        have HE : Hid (_ = _) := he
        clear he hxi htk
        generalize hLf : without i (L.take k) = Lf at hown HE hfl
        clear hLf
        go_wp2_with (at_builtin; refine wpList_push rfl (.tmp 200) (.tmp 202) 31 rfl w.heap.size 3 (.int .i64 0) 8 rfl Try.underlying31 Try.info3 _ _ _ rfl (hown.alloc _) ⟨wr.heap.size, 0, none⟩ 1 (.int .i64 x) rfl (cell_new_one _ _ 3 rfl) rfl (by omega) (by unfold maxLen; omega) (by simp; omega) ?_)
        intro v' w2 hown' hk2 hloc
        have hlt2 := hown.lt
        rw [encL_snoc] at hown'
        have hK2 : Keeps Nob w w2 := ⟨hk2.os.trans hK.os, hk2.tape.trans hK.tape, hk2.output.trans hK.output, Nat.le_trans hs (Nat.le_trans (by simp) hk2.size), fun b hb hn => (hk2.block b (by simp; omega) (fun e => by have := (hlt2 b e).1; omega)).trans ((Below.heap_alloc _ _ _ (by omega)).trans (hK.block b hb hn))⟩
        clear hown hk2 hloc hlt2 hK
        go_wp2
        refine ⟨?rel, ?measure⟩
        case rel => exact ⟨k + 1, hlt, by go_num, by rw [HE.out, List.length_append]; exact hown', hK2⟩
        case measure => simp [intOf]; omega
    · have hkl : k = L.length := by omega
      subst hkl
      have htl : L.take L.length = L := List.take_length
      rw [htl] at hown hfl
      clear hlt hk htl
      have hs0 := hKw.size
      go_wp2
      rw [tail6_51]
      go_wp2
      conv => arg 2; whnf
      go_wp2_with (at_builtin; refine wpList_push rfl (.tmp 205) (.tmp 207) 31 rfl w.heap.size 3 (.int .i64 0) 8 rfl Try.underlying31 Try.info3 _ _ _ rfl (hown.alloc _) ⟨wr.heap.size, 0, none⟩ 1 (.int .i64 used) rfl (cell_new_one _ _ 3 rfl) rfl (by omega) (by unfold maxLen; omega) (by simp; omega) ?_)
      intro v' w2 hown' hk2 hloc
      have hlt2 := hown.lt
      rw [encL_snoc] at hown'
      have hK2 : Keeps Nob w w2 := ⟨hk2.os.trans hK.os, hk2.tape.trans hK.tape, hk2.output.trans hK.output, Nat.le_trans hs (Nat.le_trans (by simp) hk2.size), fun b hb hn => (hk2.block b (by simp; omega) (fun e => by have := (hlt2 b e).1; omega)).trans ((Below.heap_alloc _ _ _ (by omega)).trans (hK.block b hb hn))⟩
      have hs2 := hK2.size
      clear hown hk2 hloc hlt2 hK hs
      have hWl : (without i L ++ [used]).length = (without i L).length + 1 := by simp
      rw [← hWl] at hown'
      have HWl : Hid ((without i L ++ [used]).length = (without i L).length + 1) := hWl
      clear hWl
      generalize hWd : without i L ++ [used] = W at *
      have HWd : Hid (without i L ++ [used] = W) := hWd
      clear hWd
      obtain ⟨aw, cw, rfl, -, hFw⟩ := SlF.owns (enc := encI) hown'
      have hO2 := hFw (fun j => (W.getD j 0 : Int)) (fun j hj => encL_get hj)
      clear hown' hFw
      have k0 := g0.keep hK2 (by omega) (fun _ _ _ h => h)
      have k1 := g1.keep hK2 (by omega) (fun _ _ _ h => h)
      have k2 := g2.keep hK2 (by omega) (fun _ _ _ h => h)
      have k3 := g3.keep hK2 (by omega) (fun _ _ _ h => h)
      have kF := hF4.keep hK2 (by omega) (fun _ _ _ h => h)
      have hKw2 := hKw.trans (hK2.mono fun _ _ h => h)
      have hix2 : Hid (∀ b, ix = some b → b = bm ∧ bm < w.heap.size ∧ OwnM w2 bm (idx ID L) L.length L.length) := fun b hb => by
        obtain ⟨h1, h2, h3⟩ := hix.out b hb
        exact ⟨h1, h2, h3.keep hK2 (fun h => h)⟩
      clear g0 g1 g2 g3 hF4 hix hK2 hO hKw
      go_wp2
      rw [tail6_52]
      go_wp2
      conv => arg 2; whnf
      go_wp2_with (go_at_call 14; refine (cloneInts_any d4 nf e4 0 hi6 FR w2 hd4 (by omega) kF).mono ?_)
      rintro e w3 ⟨af, cf, rfl, ⟨hcf, -⟩, hK3, hC⟩
      have hs3 := hK3.size
      have j0 := k0.keep hK3 (by omega) (fun _ _ _ h => h)
      have j1 := k1.keep hK3 (by omega) (fun _ _ _ h => h)
      have j2 := k2.keep hK3 (by omega) (fun _ _ _ h => h)
      have j3 := k3.keep hK3 (by omega) (fun _ _ _ h => h)
      have jF := kF.keep hK3 (by omega) (fun _ _ _ h => h)
      have hO3 := hO2.keep hK3 (Nat.le_refl _) (fun _ _ _ h => h)
      have hKw3 := hKw2.trans (hK3.mono fun _ _ h => h)
      have hix3 : Hid (∀ b, ix = some b → b = bm ∧ bm < w.heap.size ∧ OwnM w3 bm (idx ID L) L.length L.length) := fun b hb => by
        obtain ⟨h1, h2, h3⟩ := hix2.out b hb
        exact ⟨h1, h2, h3.keep hK3 (fun h => h)⟩
      clear k0 k1 k2 k3 kF hix2 hO2 hKw2 hK3
      go_wp2_with (go_at_call 16; refine (newTable_any d0 d1 d2 d3 af n e0 e1 e2 e3 nf cf hi6 hi6 hi6 hi6 ix ID B A R w3 (by omega) j0 j1 j2 j3 (by omega) (by omega) (by omega) (by omega)).mono ?_)
      rintro e w4 ⟨rfl, hK4, v, hT4, hown4, hv4⟩
      have hs4 := hT4.lt
      have i0 := j0.keep hK4 (by omega) (fun _ _ _ h => h)
      have i1 := j1.keep hK4 (by omega) (fun _ _ _ h => h)
      have i2 := j2.keep hK4 (by omega) (fun _ _ _ h => h)
      have i3 := j3.keep hK4 (by omega) (fun _ _ _ h => h)
      have iF := jF.keep hK4 (by omega) (fun _ _ _ h => h)
      have iC' := hC.keep hK4 (Nat.le_refl _) (fun _ _ _ h => h)
      have iC := iC'.wide (Nat.zero_le _) (Nat.le_refl _)
      have hO4 := hO3.keep hK4 (by omega) (fun _ _ _ h => h)
      have hKw4 := hKw3.trans (hK4.mono fun _ _ h => h)
      have hix4 : Hid (∀ b, ix = some b → b = bm ∧ bm < w.heap.size ∧ OwnM w4 bm (idx ID L) L.length L.length) := fun b hb => by
        obtain ⟨h1, h2, h3⟩ := hix3.out b hb
        exact ⟨h1, h2, h3.keep hK4 (fun h => h)⟩
      have hsz4 := hK4.size
      have hv0 : Hid (n = 0 → v = .slice none 0 0) := hv4
      clear j0 j1 j2 j3 jF hix3 hO3 hKw3 hK4 hC hv4
      generalize w3.heap.size = tb at *
      clear w3
      go_wp2
      rw [tail6_53]
      go_wp2
      conv => arg 2; whnf
      go_wp2_with (go_at_call 19; refine (zzTask_any t pr w4).mono ?_)
      rintro e w5 ⟨rfl, hK5⟩
      have hs5 := hK5.size
      have hK6 : Keeps Nob w4 (w5.alloc (taskC t pr)) := hK5.alloc _
      have hP := hput.out (w5.alloc (taskC t pr)) tb cf af v (hT4.keep hK6 (fun h => h)) (ownsRow_keep hown4 hK6 (fun _ _ h => h)) (iC.keep hK6 (by omega) (fun _ _ _ h => h)) hcf
        (fun b hb => by
          obtain ⟨h1, h2, h3⟩ := hix4.out b hb
          subst h1
          exact ⟨by omega, h3.keep hK6 (fun h => h)⟩) hv0.out
      have HP : Hid _ := hP
      clear hP hput
      go_wp2_with (go_at_call 18; refine (zzPut_any HP.out).mono ?_)
      rintro e w6 ⟨rfl, g, c, bm', KK, hT6, hown6, hM6, hK7⟩
      have hs6 := hK7.size
      simp only [World.size_alloc] at hs6
      have hbx : ∀ k, ix = some k → k = bm := fun k hk => (hix4.out k hk).1
      have hS7 : ∀ k, k < bm → ¬ (ix = some k ∨ tb ≤ k) := by
        rintro k hk (h | h)
        · have := hbx k h; omega
        · omega
      have hS8 : ∀ k, w.heap.size ≤ k → k < tb → ¬ (ix = some k ∨ tb ≤ k) := by
        rintro k hk1 hk2 (h | h)
        · have h1 := hix4.out k h; omega
        · omega
      have hKx : Keeps Nob w0 w6 := ⟨hK7.os.trans (hK6.os.trans hKw4.os), hK7.tape.trans (hK6.tape.trans hKw4.tape), hK7.output.trans (hK6.output.trans hKw4.output), by omega, fun k hk hn =>
        (hK7.block k (by simp; omega) (hS7 k (by omega))).trans ((hK6.block k (by omega) (fun h => h)).trans (hKw4.block k hk hn))⟩
      have tr : ∀ {α : Type} {enc : α → Value} {ao : Option Addr} {N lo hi : Nat} {F : Nat → α}, SlF enc w4 lo hi ao N F → hi ≤ tb → (hi ≤ bm ∨ w.heap.size ≤ lo) → SlF enc w6 lo hi ao N F := by
        intro α enc ao N lo hi F h h1 h2
        refine (h.keep hK6 (by omega) (fun _ _ _ h => h)).keep hK7 (by simp; omega) (fun k hk1 hk2 => ?_)
        rcases h2 with h2 | h2
        · exact hS7 k (by omega)
        · exact hS8 k (by omega) (by omega)
      have l0 := tr i0 (by omega) (.inl b6)
      have l1 := tr i1 (by omega) (.inl b6)
      have l2 := tr i2 (by omega) (.inl b6)
      have l3 := tr i3 (by omega) (.inl b6)
      have l4 := tr iF (by omega) (.inl b6)
      have lO := tr hO4 (by omega) (.inr (Nat.le_refl _))
      have lC := (tr iC' (Nat.le_refl _) (.inr hs2)).less hq
      have hWl := HWl.out
      have hWW : Hid (∀ x ∈ W, x < m ∧ M (S'.ID x) = some (x : Int) ∧ (S'.ID x).size ≤ maxLen) := fun x hx => ⟨(hfin.out.ring.range x hx).2, hfin.out.index x hx, hW.out x hx⟩
      have hwl := without_le i L
      have hWle : W.length ≤ 1048576 := by omega
      clear hWl i0 i1 i2 i3 iF hO4 tr iC iC' HP hT4 hown4 hK6 hK5 hix4 hKw4 hS7 hS8 hbx hK7 hv0 hW
      go_wp2
      exact law6d hKx hT6 hown6 hM6 lO l0 l1 l2 l3 lC l4 hq hnf hm hfin hWW hWle (by omega) (by omega) (by omega) (by omega)
end Go.Proofs.Qxb6619702a
