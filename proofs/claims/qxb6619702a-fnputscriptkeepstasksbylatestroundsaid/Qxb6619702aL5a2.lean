import Derived.Test.Qxb6619702aL5b
/-! FnPutScriptKeepsTasksByLatestRound: the wanted rows begun. -/
namespace Go.Proofs.Qxb6619702a
open Go.RowKit
set_option maxHeartbeats 4000000 in
set_option maxRecDepth 100000 in
theorem law5a2 {w0 : World} {bm n nf sn cs co hi6 e0 e1 e2 e3 e4 lm NL KL : Nat} {d0 d1 d2 d3 d4 ds ao : Option Addr} {ix : Option Nat} {L : List Nat} {SC ID : Nat → ByteArray} {R B A FR : Nat → Int} {x6 x7 x8 x9 x10 x11 x12 x13 x16 x19 x20 x21 x22 x23 x24 x25 x26 x27 x28 x29 x30 x31 x32 x33 x34 x35 x36 x37 x38 x39 x40 x41 x42 x43 x44 x45 x46 x47 x48 x49 x50 x51 x52 x53 x54 x55 x56 x57 x58 x59 x60 x61 x62 x63 x64 x65 x66 x67 x68 x69 x70 x71 x72 x73 x74 x75 x76 x77 x78 x79 x80 x81 x82 x83 x84 x85 x86 x87 x88 x89 x90 x91 x92 x93 x94 x95 x96 x97 x98 x99 x100 x101 x102 x103 x104 x105 x106 x107 x108 x109 x110 x111 x112 x113 x114 x115 x116 x117 x118 x119 x120 x121 x122 x123 x124 x125 x126 x127 x128 x129 x130 x131 x132 x133 x134 x135 x136 x137 x138 x139 x140 x141 x142 x143 x144 x145 x146 x147 x148 x149 x150 x151 x152 x153 x154 x155 x156 x157 x158 x159 x160 x161 x162 x163 x164 x165 x166 x167 x168 x169 x170 x171 x172 x173 x174 x175 x176 x177 x178 x179 x180 x181 x182 x183 x184 x185 x186 x187 x188 x189 x190 x191 x192 x193 x194 x195 x196 x197 x198 x199 x200 x201 x202 x203 x204 x205 x206 x207 x208 x209 x210 x211 x212 x213 x214 x215 x216 x217 x218 x219 x220 x221 x222 x223 x224 x225 x226 x227 x228 x229 x230 x231 x232 x233 x234 x235 x236 x237 x238 x239 x240 x241 x242 x243 x244 x245 x246 x247 x248 x249 x250 x251 x252 x253 x254 x255 x256 x257 x258 x259 x260 x261 x262 x263 x264 x265 x266 x267 x268 x269 x270 x271 x272 x273 x274 x275 x276 x277 x278 x279 x280 x281 x282 x283 x284 x285 x286 x287 x288 x289 x290 x291 x292 x293 x294 x295 x296 x297 x298 x299 x300 x301 x302 x303 x304 x305 x306 x307 x308 x309 x310 x311 x312 x313 x314 x315 x316 x317 x318 x319 x320 x321 x322 x323 x324 x325 x326 x327 x328 x329 x330 x331 x332 x333 x334 x335 x336 x337 x338 x339 x340 x341 x342 x343 x344 x345 x346 x347 x348 x349 x350 x351 x352 x353 x354 x355 x356 x357 x358 x359 x360 x361 x362 x363 x364 x365 x366 x367 x368 x369 x370 x371 x372 x373 x374 x375 x376 x377 x378 x379 x380 x381 x382 x383 : Value} {w : World}
    (hKw : Keeps Nob w0 w) (h0b : w0.heap.size ≤ bm) (hbw : bm < w.heap.size) (b6 : hi6 ≤ bm) (hgood : Hid (WGood n n n n nf ID B A FR L ix)) (hID : Hid (∀ j, j < n → (ID j).size ≤ maxLen))
    (hix : Hid (∀ b, ix = some b → b = bm ∧ OwnM w bm (idx ID L) L.length L.length)) (hO : SlF encI w hi6 w.heap.size ao L.length (fun j => (L.getD j 0 : Int))) (g0 : SlF Value.string w 0 hi6 d0 n ID) (g1 : SlF encI w 0 hi6 d1 n B) (g2 : SlF encI w 0 hi6 d2 n A) (g3 : SlF encI w 0 hi6 d3 n R)
    (hF4 : SlF encI w 0 hi6 d4 nf FR) (hS : SlF Value.string w 0 hi6 ds sn SC) (hd4 : Hid (d4 = none → nf = 0 ∧ e4 = 0))
    (hlm : lm < w.heap.size) (hLm : OwnM w lm (lastF SC sn) NL KL) (hSC : Hid (∀ j, j < sn → (SC j).size ≤ maxLen)) (hnf : nf ≤ 65536) (hn : n ≤ 65536) (hsn : sn ≤ 65536) :
    Code.wp Try.prog (tailF Try.f5 30) (bodyPost Try.prog Try.f5 fun e w' => e = .returned (.bool true) ∧ Keeps Nob w0 w') ⟨#[.slice d0 n e0, .slice d1 n e1, .slice d2 n e2, .slice d3 n e3, .slice d4 nf e4, .slice ds sn cs, x6, x7, x8, x9, x10, x11, x12, x13, .slice ao L.length co, .map ix, x16, .int .i64 n, .map (some lm), x19, x20, x21, x22, x23, x24, x25, x26, x27, x28, x29, x30, x31, x32, x33, x34, x35, x36, x37, x38, x39, x40, x41, x42, x43, x44, x45, x46, x47, x48, x49, x50, x51, x52, x53, x54, x55, x56, x57, x58, x59, x60, x61, x62, x63, x64, x65, x66, x67, x68, x69, x70, x71, x72, x73, x74, x75, x76, x77, x78, x79, x80, x81, x82, x83, x84, x85, x86, x87, x88, x89, x90, x91, x92, x93, x94, x95, x96, x97, x98, x99, x100, x101, x102, x103, x104, x105, x106, x107, x108, x109, x110, x111, x112, x113, x114, x115, x116, x117, x118, x119, x120, x121, x122, x123, x124, x125, x126, x127, x128, x129, x130, x131, x132, x133, x134, x135, x136, x137, x138, x139, x140, x141, x142, x143, x144, x145, x146, x147, x148, x149, x150, x151, x152, x153, x154, x155, x156, x157, x158, x159, x160, x161, x162, x163, x164, x165, x166, x167, x168, x169, x170, x171, x172, x173, x174, x175, x176, x177, x178, x179, x180, x181, x182, x183, x184, x185, x186, x187, x188, x189, x190, x191, x192, x193, x194, x195, x196, x197, x198, x199, x200, x201, x202, x203, x204, x205, x206, x207, x208, x209, x210, x211, x212, x213, x214, x215, x216, x217, x218, x219, x220, x221, x222, x223, x224, x225, x226, x227, x228, x229, x230, x231, x232, x233, x234, x235, x236, x237, x238, x239, x240, x241, x242, x243, x244, x245, x246, x247, x248, x249, x250, x251, x252, x253, x254, x255, x256, x257, x258, x259, x260, x261, x262, x263, x264, x265, x266, x267, x268, x269, x270, x271, x272, x273, x274, x275, x276, x277, x278, x279, x280, x281, x282, x283, x284, x285, x286, x287, x288, x289, x290, x291, x292, x293, x294, x295, x296, x297, x298, x299, x300, x301, x302, x303, x304, x305, x306, x307, x308, x309, x310, x311, x312, x313, x314, x315, x316, x317, x318, x319, x320, x321, x322, x323, x324, x325, x326, x327, x328, x329, x330, x331, x332, x333, x334, x335, x336, x337, x338, x339, x340, x341, x342, x343, x344, x345, x346, x347, x348, x349, x350, x351, x352, x353, x354, x355, x356, x357, x358, x359, x360, x361, x362, x363, x364, x365, x366, x367, x368, x369, x370, x371, x372, x373, x374, x375, x376, x377, x378, x379, x380, x381, x382, x383], []⟩ w := by
  rw [tail5_30]
  go_wp2
  conv => arg 2; whnf
  go_wp2
  rw [tail5_31]
  go_wp2
  conv => arg 2; whnf
  go_wp2
  rw [tail5_32]
  go_wp2
  conv => arg 2; whnf
  go_wp2
  have hl : L.length ≤ 65536 := by
    rcases Nat.eq_zero_or_pos n with h0 | h0
    · obtain ⟨rfl, -, -⟩ := hgood.out.zero h0
      simp
    · have hr := (hgood.out.pos h0).1
      have := nodup_len n L hr.nodup fun x hx => (hr.range x hx).2
      omega
  have hLn : Hid (∀ x ∈ L, x < n) := fun x hx => by
    rcases Nat.eq_zero_or_pos n with h0 | h0
    · obtain ⟨rfl, -, -⟩ := hgood.out.zero h0
      cases hx
    · exact ((hgood.out.pos h0).1.range x hx).2
  have hT0 : Two w w.heap.size (.slice none 0 0) (.slice none 0 0) (keepA (lastF SC sn) (prs R ID (L.take 0))) := Two.nil _ _
  go_loopw [21, 22, 157] (fun v1 v2 i wr => ∃ k : Nat, k ≤ L.length ∧ i = .int .i64 k ∧ Hid (Two wr w.heap.size v1 v2 (keepA (lastF SC sn) (prs R ID (L.take k)))) ∧ Keeps (fun x => w.heap.size ≤ x) w wr) (fun _ _ i _ => L.length - (intOf i).toNat)
  case atStart => exact ⟨0, Nat.zero_le _, rfl, hT0, Keeps.refl _ _⟩
  case round =>
    clear hT0
    obtain ⟨k, hk, rfl, h12, hK⟩ := hrel
    have hs := hK.size
    have T1 : ∀ {α : Type} {enc : α → Value} {ao : Option Addr} {N lo hi : Nat} {F : Nat → α}, SlF enc w lo hi ao N F → hi ≤ w.heap.size → SlF enc wr lo hi ao N F := by
      intro α enc ao N lo hi F h h1
      exact h.keep hK (by omega) (fun x hx1 hx2 => by omega)
    by_cases hlt : k < L.length
    · have hWl : (keepA (lastF SC sn) (prs R ID (L.take k))).length ≤ 65536 := by
        have h1 := keepA_le (lastF SC sn) (prs R ID (L.take k))
        have h3 : (prs R ID (L.take k)).length ≤ L.length := by simp [prs]; omega
        omega
      obtain ⟨bo, oo, rfl, -, -, hOc⟩ := (T1 hO (by omega)) (by omega)
      obtain ⟨x, hx⟩ : ∃ x, L.getD k 0 = x := ⟨_, rfl⟩
      have hxL : L[k]? = some x := by rw [← hx]; simp [hlt]
      have hxn := hLn.out x (List.mem_of_getElem? hxL)
      replace hOc := hOc k hlt
      simp only [hx] at hOc
      obtain ⟨c0, o0, rfl, -, -, k0⟩ := (T1 g0 (by omega)) (by omega)
      obtain ⟨c3, o3, rfl, -, -, k3⟩ := (T1 g3 (by omega)) (by omega)
      replace k0 := k0 x hxn
      replace k3 := k3 x hxn
      have hsz := hID.out x hxn
      have hLk := hLm.keep hK (by omega)
      have htk : prs R ID (L.take (k + 1)) = prs R ID (L.take k) ++ [(ID x, R x)] := by rw [List.take_add_one, hxL, prs_append]; rfl
      generalize prs R ID (L.take k) = P at *
      cases hv : lastF SC sn (ID x) with
      | some c =>
        have HV : Hid (lastF SC sn (ID x) = some c) := hv
        have HL : Hid (keepA (lastF SC sn) (prs R ID (L.take (k + 1))) = keepA (lastF SC sn) P) := by show _ = _; rw [htk]; exact keepA_some hv
        clear hv htk T1 hx hxL hO g0 g1 g2 g3 hF4 hS hLm hKw hix
        go_wp2_with (at_lookup; refine wpList_mlook_some rfl _ _ rfl rfl hLk (ID x) rfl hsz _ HV ?_)
        refine ⟨?rel, ?measure⟩
        case rel => exact ⟨k + 1, hlt, by go_num, by rw [HL.out]; exact h12, hK⟩
        case measure => simp [intOf]; omega
      | none =>
        have HV : Hid (lastF SC sn (ID x) = none) := hv
        have HL : Hid (keepA (lastF SC sn) (prs R ID (L.take (k + 1))) = keepA (lastF SC sn) P ++ [(ID x, R x)]) := by show _ = _; rw [htk]; exact keepA_none hv
        generalize keepA (lastF SC sn) P = W at *
        have hbc := hKw.size
        have k3' : ∀ w', Keeps (fun x => w.heap.size ≤ x) wr w' → w'.cell? ⟨c3, o3 + x, none⟩ = some (encI (R x)) := fun w' h => by
          obtain ⟨b, o, hb, _, hb2, _⟩ := g3 (by omega)
          simp only [Option.some.injEq, Addr.mk.injEq] at hb
          have hb1 := hb.1
          exact (h.cell (p := ⟨c3, o3 + x, none⟩) (World.block_lt_of_cell? _ _ k3) (Nat.not_le.2 (show c3 < w.heap.size by omega))).trans k3
        have K3 : Hid _ := k3'
        clear hv htk T1 hx hxL hO g0 g1 g2 g3 hF4 hS hLm hKw hix k3 k3'
        go_wp2_with (first | (at_lookup; refine wpList_mlook_none rfl _ _ rfl rfl hLk (ID x) rfl hsz HV ?_) | (at_builtin; refine wpList_push rfl (.tmp 172) (.tmp 177) 22 rfl w.heap.size 9 (.string ByteArray.empty) 16 rfl Try.underlying22 Try.info9 _ _ _ rfl (h12.out.ids.alloc _) ⟨wr.heap.size, 0, none⟩ 1 (.string (ID x)) rfl (cell_new_one _ _ 9 rfl) rfl (by omega) (by unfold maxLen; omega) (by simp; omega) ?_))
        intro v1' w2 hown1 hk1 _
        rw [encS_snoc _ _ (R x)] at hown1
        have hr2 := ownsRow_keep (h12.out.rounds.alloc _) hk1 (rows_apart h12.out.rounds h12.out.ids (by decide))
        have hl1 := h12.out.ids.lt
        have hKs : Keeps (fun x => w.heap.size ≤ x) wr w2 := ((Keeps.refl _ wr).alloc _).trans (hk1.mono fun x _ hx => (hl1 x hx).1)
        have hK2 : Keeps (fun x => w.heap.size ≤ x) w w2 := hK.trans hKs
        have hs2 := hK2.size
        have k3 := K3.out w2 hKs
        clear h12 hk1 hl1 hK hLk hOc k0 hs K3 hKs
        go_wp2_with (at_builtin; refine wpList_push rfl (.tmp 179) (.tmp 184) 31 rfl w.heap.size 3 (.int .i64 0) 8 rfl Try.underlying31 Try.info3 _ _ _ rfl (hr2.alloc _) ⟨w2.heap.size, 0, none⟩ 1 (.int .i64 (R x)) rfl (cell_new_one _ _ 3 rfl) rfl (by omega) (by unfold maxLen; omega) (by simp; omega) ?_)
        intro v2' w3 hown2 hk2 _
        rw [encR_snoc _ (ID x) _] at hown2
        have hr1 := ownsRow_keep (hown1.alloc _) hk2 (rows_apart hown1 hr2 (by decide))
        have hl2 := hr2.lt
        have hK3 : Keeps (fun x => w.heap.size ≤ x) w w3 := (hK2.alloc _).trans (hk2.mono fun x _ hx => (hl2 x hx).1)
        have hWl1 : (W ++ [(ID x, R x)]).length = W.length + 1 := by simp
        have HT : Hid (Two w3 w.heap.size v1' v2' (W ++ [(ID x, R x)])) := ⟨by rw [hWl1]; exact hr1, by rw [hWl1]; exact hown2⟩
        clear hk2 hl2 hK2 hown1 hown2 hr1 hr2 hWl1 hs2 k3
        go_wp2
        refine ⟨?rel, ?measure⟩
        case rel => exact ⟨k + 1, hlt, by go_num, by rw [HL.out]; exact HT, hK3⟩
        case measure => simp [intOf]; omega
    · have hkl : k = L.length := by omega
      subst hkl
      have htl : L.take L.length = L := List.take_length
      rw [htl] at h12
      have j0 := T1 g0 (by omega)
      have j1 := T1 g1 (by omega)
      have j2 := T1 g2 (by omega)
      have j3 := T1 g3 (by omega)
      have jF := T1 hF4 (by omega)
      have jS := T1 hS (by omega)
      have hix3 : Hid (∀ b, ix = some b → b = bm ∧ OwnM wr bm (idx ID L) L.length L.length) := fun b hb => by
        obtain ⟨h1, h3⟩ := hix.out b hb
        exact ⟨h1, h3.keep hK (by omega)⟩
      have hKx : Keeps Nob w0 wr := ⟨hK.os.trans hKw.os, hK.tape.trans hKw.tape, hK.output.trans hKw.output, Nat.le_trans hKw.size hs, fun x hx hn => (hK.block x (Nat.lt_of_lt_of_le hx hKw.size) (by have := hKw.size; omega)).trans (hKw.block x hx hn)⟩
      have hLr := hLm.keep hK (by omega)
      clear T1 g0 g1 g2 g3 hF4 hS hix hK hLm htl hO hLn
      go_wp2
      exact law5b hKx h0b hbw hs b6 hgood hID hix3 j0 j1 j2 j3 jF jS hd4 hlm hLr h12 hl hSC hnf hn hsn
end Go.Proofs.Qxb6619702a
