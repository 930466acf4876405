import Derived.Test.Qxb6619702aL5c
import Derived.Test.Qxb6619702aPair
/-! FnPutScriptKeepsTasksByLatestRound: the last mentions. -/
namespace Go.Proofs.Qxb6619702a
open Go.RowKit
set_option maxHeartbeats 4000000 in
set_option maxRecDepth 100000 in
theorem law5b {w0 : World} {v1 v2 : Value} {lm b0 NL KL bm n nf sn cs hi6 e0 e1 e2 e3 e4 : Nat} {d0 d1 d2 d3 d4 ds : Option Addr} {ix : Option Nat} {L : List Nat} {SC ID : Nat → ByteArray} {R B A FR : Nat → Int} {x6 x7 x8 x9 x10 x11 x12 x13 x14 x16 x19 x20 x23 x24 x25 x26 x27 x28 x29 x30 x31 x32 x33 x34 x35 x36 x37 x38 x39 x40 x41 x42 x43 x44 x45 x46 x47 x48 x49 x50 x51 x52 x53 x54 x55 x56 x57 x58 x59 x60 x61 x62 x63 x64 x65 x66 x67 x68 x69 x70 x71 x72 x73 x74 x75 x76 x77 x78 x79 x80 x81 x82 x83 x84 x85 x86 x87 x88 x89 x90 x91 x92 x93 x94 x95 x96 x97 x98 x99 x100 x101 x102 x103 x104 x105 x106 x107 x108 x109 x110 x111 x112 x113 x114 x115 x116 x117 x118 x119 x120 x121 x122 x123 x124 x125 x126 x127 x128 x129 x130 x131 x132 x133 x134 x135 x136 x137 x138 x139 x140 x141 x142 x143 x144 x145 x146 x147 x148 x149 x150 x151 x152 x153 x154 x155 x156 x157 x158 x159 x160 x161 x162 x163 x164 x165 x166 x167 x168 x169 x170 x171 x172 x173 x174 x175 x176 x177 x178 x179 x180 x181 x182 x183 x184 x185 x186 x187 x188 x189 x190 x191 x192 x193 x194 x195 x196 x197 x198 x199 x200 x201 x202 x203 x204 x205 x206 x207 x208 x209 x210 x211 x212 x213 x214 x215 x216 x217 x218 x219 x220 x221 x222 x223 x224 x225 x226 x227 x228 x229 x230 x231 x232 x233 x234 x235 x236 x237 x238 x239 x240 x241 x242 x243 x244 x245 x246 x247 x248 x249 x250 x251 x252 x253 x254 x255 x256 x257 x258 x259 x260 x261 x262 x263 x264 x265 x266 x267 x268 x269 x270 x271 x272 x273 x274 x275 x276 x277 x278 x279 x280 x281 x282 x283 x284 x285 x286 x287 x288 x289 x290 x291 x292 x293 x294 x295 x296 x297 x298 x299 x300 x301 x302 x303 x304 x305 x306 x307 x308 x309 x310 x311 x312 x313 x314 x315 x316 x317 x318 x319 x320 x321 x322 x323 x324 x325 x326 x327 x328 x329 x330 x331 x332 x333 x334 x335 x336 x337 x338 x339 x340 x341 x342 x343 x344 x345 x346 x347 x348 x349 x350 x351 x352 x353 x354 x355 x356 x357 x358 x359 x360 x361 x362 x363 x364 x365 x366 x367 x368 x369 x370 x371 x372 x373 x374 x375 x376 x377 x378 x379 x380 x381 x382 x383 : Value} {w : World}
    (hKw : Keeps Nob w0 w) (h0b : w0.heap.size ≤ bm) (hbb : bm < b0) (hb0 : b0 ≤ w.heap.size) (b6 : hi6 ≤ bm) (hgood : Hid (WGood n n n n nf ID B A FR L ix)) (hID : Hid (∀ j, j < n → (ID j).size ≤ maxLen))
    (hix : Hid (∀ b, ix = some b → b = bm ∧ OwnM w bm (idx ID L) L.length L.length)) (g0 : SlF Value.string w 0 hi6 d0 n ID) (g1 : SlF encI w 0 hi6 d1 n B) (g2 : SlF encI w 0 hi6 d2 n A) (g3 : SlF encI w 0 hi6 d3 n R)
    (hF4 : SlF encI w 0 hi6 d4 nf FR) (hS : SlF Value.string w 0 hi6 ds sn SC) (hd4 : Hid (d4 = none → nf = 0 ∧ e4 = 0))
    (hI0 : lm < b0) (hLm : OwnM w lm (lastF SC sn) NL KL) (h12 : Hid (Two w b0 v1 v2 (keepA (lastF SC sn) (prs R ID L)))) (hl : L.length ≤ 65536)
    (hSC : Hid (∀ j, j < sn → (SC j).size ≤ maxLen)) (hnf : nf ≤ 65536) (hn : n ≤ 65536) (hsn : sn ≤ 65536) :
    Code.wp Try.prog (tailF Try.f5 40) (bodyPost Try.prog Try.f5 fun e w' => e = .returned (.bool true) ∧ Keeps Nob w0 w') ⟨#[.slice d0 n e0, .slice d1 n e1, .slice d2 n e2, .slice d3 n e3, .slice d4 nf e4, .slice ds sn cs, x6, x7, x8, x9, x10, x11, x12, x13, x14, .map ix, x16, .int .i64 n, .map (some lm), x19, x20, v1, v2, x23, x24, x25, x26, x27, x28, x29, x30, x31, x32, x33, x34, x35, x36, x37, x38, x39, x40, x41, x42, x43, x44, x45, x46, x47, x48, x49, x50, x51, x52, x53, x54, x55, x56, x57, x58, x59, x60, x61, x62, x63, x64, x65, x66, x67, x68, x69, x70, x71, x72, x73, x74, x75, x76, x77, x78, x79, x80, x81, x82, x83, x84, x85, x86, x87, x88, x89, x90, x91, x92, x93, x94, x95, x96, x97, x98, x99, x100, x101, x102, x103, x104, x105, x106, x107, x108, x109, x110, x111, x112, x113, x114, x115, x116, x117, x118, x119, x120, x121, x122, x123, x124, x125, x126, x127, x128, x129, x130, x131, x132, x133, x134, x135, x136, x137, x138, x139, x140, x141, x142, x143, x144, x145, x146, x147, x148, x149, x150, x151, x152, x153, x154, x155, x156, x157, x158, x159, x160, x161, x162, x163, x164, x165, x166, x167, x168, x169, x170, x171, x172, x173, x174, x175, x176, x177, x178, x179, x180, x181, x182, x183, x184, x185, x186, x187, x188, x189, x190, x191, x192, x193, x194, x195, x196, x197, x198, x199, x200, x201, x202, x203, x204, x205, x206, x207, x208, x209, x210, x211, x212, x213, x214, x215, x216, x217, x218, x219, x220, x221, x222, x223, x224, x225, x226, x227, x228, x229, x230, x231, x232, x233, x234, x235, x236, x237, x238, x239, x240, x241, x242, x243, x244, x245, x246, x247, x248, x249, x250, x251, x252, x253, x254, x255, x256, x257, x258, x259, x260, x261, x262, x263, x264, x265, x266, x267, x268, x269, x270, x271, x272, x273, x274, x275, x276, x277, x278, x279, x280, x281, x282, x283, x284, x285, x286, x287, x288, x289, x290, x291, x292, x293, x294, x295, x296, x297, x298, x299, x300, x301, x302, x303, x304, x305, x306, x307, x308, x309, x310, x311, x312, x313, x314, x315, x316, x317, x318, x319, x320, x321, x322, x323, x324, x325, x326, x327, x328, x329, x330, x331, x332, x333, x334, x335, x336, x337, x338, x339, x340, x341, x342, x343, x344, x345, x346, x347, x348, x349, x350, x351, x352, x353, x354, x355, x356, x357, x358, x359, x360, x361, x362, x363, x364, x365, x366, x367, x368, x369, x370, x371, x372, x373, x374, x375, x376, x377, x378, x379, x380, x381, x382, x383], []⟩ w := by
  rw [tail5_40]
  go_wp2
  conv => arg 2; whnf
  go_wp2
  rw [tail5_41]
  go_wp2
  conv => arg 2; whnf
  go_wp2
  have hc0 : cntF SC (lastF SC sn) (idx ID L) 0 = 0 := rfl
  go_loopw [21, 22, 27, 189] (fun v1 v2 c i wr => ∃ k : Nat, k ≤ sn ∧ i = .int .i64 k ∧ c = .int .i64 (cntF SC (lastF SC sn) (idx ID L) k : Nat) ∧ Hid (Two wr b0 v1 v2 (keepA (lastF SC sn) (prs R ID L) ++ lateB SC (lastF SC sn) k)) ∧ Keeps (fun x => b0 ≤ x) w wr) (fun _ _ _ i _ => sn - (intOf i).toNat)
  case atStart => exact ⟨0, Nat.zero_le _, rfl, by rw [hc0]; rfl, by show Two _ _ _ _ _; simpa [lateB] using h12.out, Keeps.refl _ _⟩
  case round =>
    clear h12 hc0
    obtain ⟨k, hk, rfl, rfl, h12, hK⟩ := hrel
    have hs := hK.size
    have hWl : (keepA (lastF SC sn) (prs R ID L) ++ lateB SC (lastF SC sn) k).length ≤ 65536 + 65536 := by
      have h1 := keepA_le (lastF SC sn) (prs R ID L)
      have h2 := lateB_le SC (lastF SC sn) k
      have h3 : (prs R ID L).length = L.length := by simp [prs]
      rw [List.length_append]; omega
    have T1 : ∀ {α : Type} {enc : α → Value} {ao : Option Addr} {N lo hi : Nat} {F : Nat → α}, SlF enc w lo hi ao N F → hi ≤ b0 → SlF enc wr lo hi ao N F := by
      intro α enc ao N lo hi F h h1
      exact h.keep hK (by omega) (fun x hx1 hx2 => by omega)
    by_cases hlt : k < sn
    · obtain ⟨b1, o1, rfl, -, -, hc⟩ := (T1 hS (by omega)) (by omega)
      replace hc := hc k hlt
      have hsz := hSC.out k hlt
      have hLk := hLm.keep hK (by omega)
      obtain ⟨j, hj⟩ := Option.isSome_iff_exists.1 (lastF_isSome (SC := SC) hlt)
      have HG : Hid ((lastF SC sn (SC k)).getD 0 = j) := by show _ = _; rw [hj]; rfl
      generalize hWd : keepA (lastF SC sn) (prs R ID L) ++ lateB SC (lastF SC sn) k = W at *
      by_cases hjk : j = (k : Int)
      · have HL : Hid (keepA (lastF SC sn) (prs R ID L) ++ lateB SC (lastF SC sn) (k + 1) = W ++ [(SC k, (k : Int) + 1)]) := by show _ = _; rw [lateB_yes (by rw [hj, hjk]), ← List.append_assoc, hWd]
        have hcy : ∀ h0 : idx ID L (SC k) = none, cntF SC (lastF SC sn) (idx ID L) (k + 1) = cntF SC (lastF SC sn) (idx ID L) k + 1 := fun h0 => cntF_yes (by rw [hj, hjk]) h0
        have hch : ∀ c, idx ID L (SC k) = some c → cntF SC (lastF SC sn) (idx ID L) (k + 1) = cntF SC (lastF SC sn) (idx ID L) k := fun c h0 => cntF_held h0
        have HCy : Hid _ := hcy
        have HCh : Hid _ := hch
        have hcb := cntF_le SC (lastF SC sn) (idx ID L) k
        have hix3 : Hid (∀ b, ix = some b → OwnM wr bm (idx ID L) L.length L.length ∧ b = bm) := fun b hb => by
          obtain ⟨h1, h3⟩ := hix.out b hb
          exact ⟨h3.keep hK (by omega), h1⟩
        generalize cntF SC (lastF SC sn) (idx ID L) k = cn at *
        subst hjk
        clear hj hWd hcy hch T1 hI0 g0 g1 g2 g3 hF4 hS hLm hKw hix
        have hjj : ((k : Int) != k) = false := by simp
        go_wp2_with (first | (at_lookup; refine wpList_mlook rfl _ _ rfl rfl hLk (SC k) rfl hsz ?_; rw [HG.out]) | (at_builtin; refine wpList_push rfl (.tmp 199) (.tmp 201) 22 rfl b0 9 (.string ByteArray.empty) 16 rfl Try.underlying22 Try.info9 _ _ _ rfl (h12.out.ids.alloc _) ⟨wr.heap.size, 0, none⟩ 1 (.string (SC k)) rfl (cell_new_one _ _ 9 rfl) rfl (by omega) (by unfold maxLen; omega) (by simp; omega) ?_))
        intro v1' w2 hown1 hk1 _
        rw [encS_snoc _ _ ((k : Int) + 1)] at hown1
        have hr2 := ownsRow_keep (h12.out.rounds.alloc _) hk1 (rows_apart h12.out.rounds h12.out.ids (by decide))
        have hl1 := h12.out.ids.lt
        have hK2 : Keeps (fun x => b0 ≤ x) w w2 := (hK.alloc _).trans (hk1.mono fun x _ hx => (hl1 x hx).1)
        have hs2 := hK2.size
        have hix4 : Hid (∀ b, ix = some b → OwnM w2 bm (idx ID L) L.length L.length ∧ b = bm) := fun b hb => by
          obtain ⟨h1, h3⟩ := hix3.out b hb
          exact ⟨(h1.keep ((Keeps.refl Nob wr).alloc _) (fun h => h)).keep hk1 (fun hx => by have := (hl1 _ hx).1; omega), h3⟩
        clear h12 hk1 hl1 hK hLk hc hix3 hs
        go_wp2_with (at_builtin; refine wpList_push rfl (.tmp 203) (.tmp 206) 31 rfl b0 3 (.int .i64 0) 8 rfl Try.underlying31 Try.info3 _ _ _ rfl (hr2.alloc _) ⟨w2.heap.size, 0, none⟩ 1 (.int .i64 ((k : Int) + 1)) rfl (cell_new_one _ _ 3 rfl) rfl (by omega) (by unfold maxLen; omega) (by simp; omega) ?_)
        intro v2' w3 hown2 hk2 _
        rw [encR_snoc _ (SC k) _] at hown2
        have hr1 := ownsRow_keep (hown1.alloc _) hk2 (rows_apart hown1 hr2 (by decide))
        have hl2 := hr2.lt
        have hK3 : Keeps (fun x => b0 ≤ x) w w3 := (hK2.alloc _).trans (hk2.mono fun x _ hx => (hl2 x hx).1)
        have hs3 := hK3.size
        have hix5 : Hid (∀ b, ix = some b → OwnM w3 bm (idx ID L) L.length L.length ∧ b = bm) := fun b hb => by
          obtain ⟨h1, h3⟩ := hix4.out b hb
          exact ⟨(h1.keep ((Keeps.refl Nob w2).alloc _) (fun h => h)).keep hk2 (fun hx => by have := (hl2 _ hx).1; omega), h3⟩
        have hWl1 : (W ++ [(SC k, (k : Int) + 1)]).length = W.length + 1 := by simp
        have HT : Hid (Two w3 b0 v1' v2' (W ++ [(SC k, (k : Int) + 1)])) := ⟨by rw [hWl1]; exact hr1, by rw [hWl1]; exact hown2⟩
        clear hk2 hl2 hK2 hix4 hown1 hown2 hr1 hr2 hWl1 hs2
        cases ix with
        | none =>
          have hn0 : n = 0 := by
            rcases Nat.eq_zero_or_pos n with h | h
            · exact h
            · have := (hgood.out.pos h).2.2.2; simp at this
          have hL0 := (hgood.out.zero hn0).1
          have HC : Hid (cntF SC (lastF SC sn) (idx ID L) (k + 1) = cn + 1) := HCy.out (by rw [hL0]; rfl)
          clear hn0 hL0 HCy HCh
          have hlk := look_none (SC k) hsz
          go_wp2
          refine ⟨?rel, ?measure⟩
          case rel => exact ⟨k + 1, hlt, by go_num, by rw [HC.out] <;> rfl, by rw [HL.out]; exact HT, hK3⟩
          case measure => simp [intOf]; omega
        | some b =>
          obtain ⟨hMb, rfl⟩ := hix5.out b rfl
          cases hv : idx ID L (SC k) with
          | none =>
            have HV : Hid (idx ID L (SC k) = none) := hv
            have HC : Hid (cntF SC (lastF SC sn) (idx ID L) (k + 1) = cn + 1) := HCy.out hv
            clear hv HCy HCh
            go_wp2_with (at_lookup; refine wpList_mlook_none rfl _ _ rfl rfl hMb (SC k) rfl hsz HV ?_)
            refine ⟨?rel, ?measure⟩
            case rel => exact ⟨k + 1, hlt, by go_num, by rw [HC.out] <;> rfl, by rw [HL.out]; exact HT, hK3⟩
            case measure => simp [intOf]; omega
          | some c =>
            have HV : Hid (idx ID L (SC k) = some c) := hv
            have HC : Hid (cntF SC (lastF SC sn) (idx ID L) (k + 1) = cn) := HCh.out c hv
            clear hv HCy HCh
            go_wp2_with (at_lookup; refine wpList_mlook_some rfl _ _ rfl rfl hMb (SC k) rfl hsz _ HV ?_)
            refine ⟨?rel, ?measure⟩
            case rel => exact ⟨k + 1, hlt, by go_num, by rw [HC.out] <;> rfl, by rw [HL.out]; exact HT, hK3⟩
            case measure => simp [intOf]; omega
      · have hne : lastF SC sn (SC k) ≠ some (k : Int) := fun h => hjk (by rw [hj] at h; exact Option.some.inj h)
        have HL : Hid (keepA (lastF SC sn) (prs R ID L) ++ lateB SC (lastF SC sn) (k + 1) = W) := by show _ = _; rw [lateB_no hne, hWd]
        have HC : Hid (cntF SC (lastF SC sn) (idx ID L) (k + 1) = cntF SC (lastF SC sn) (idx ID L) k) := cntF_no hne
        have hjj : (j != (k : Int)) = true := by simpa using hjk
        generalize cntF SC (lastF SC sn) (idx ID L) k = cn at *
        clear hj hWd T1 hI0 g0 g1 g2 g3 hF4 hS hLm hKw hix hne hjk
        go_wp2_with (at_lookup; refine wpList_mlook rfl _ _ rfl rfl hLk (SC k) rfl hsz ?_; rw [HG.out])
        refine ⟨?rel, ?measure⟩
        case rel => exact ⟨k + 1, hlt, by go_num, by rw [HC.out], by rw [HL.out]; exact h12, hK⟩
        case measure => simp [intOf]; omega
    · have hkn : k = sn := by omega
      subst hkn
      have j0 := T1 g0 (by omega)
      have j1 := T1 g1 (by omega)
      have j2 := T1 g2 (by omega)
      have j3 := T1 g3 (by omega)
      have jF := T1 hF4 (by omega)
      have jS := T1 hS (by omega)
      have hix3 : Hid (∀ b, ix = some b → b = bm ∧ OwnM wr bm (idx ID L) L.length L.length) := fun b hb => by
        obtain ⟨h1, h3⟩ := hix.out b hb
        exact ⟨h1, h3.keep hK (by omega)⟩
      have hKx : Keeps Nob w0 wr := ⟨hK.os.trans hKw.os, hK.tape.trans hKw.tape, hK.output.trans hKw.output, Nat.le_trans hKw.size hs, fun x hx hn => (hK.block x (Nat.lt_of_lt_of_le hx hKw.size) (by omega)).trans (hKw.block x hx hn)⟩
      have h12' : Two wr b0 _ _ (want SC (prs R ID L) k) := h12.out
      obtain ⟨aw, cw, hv1, -, hF1⟩ := SlF.owns (enc := Value.string) h12'.ids
      obtain ⟨ar, cr, hv2, -, hF2⟩ := SlF.owns (enc := encI) h12'.rounds
      subst hv1; subst hv2
      have hI := (hF1 (fun j => ((want SC (prs R ID L) k).getD j (⟨#[]⟩, 0)).1) (fun j hj => encS_get hj)).wide (show bm + 1 ≤ b0 by omega) (Nat.le_refl _)
      have hR := (hF2 (fun j => ((want SC (prs R ID L) k).getD j (⟨#[]⟩, 0)).2) (fun j hj => encR_get hj)).wide (show bm + 1 ≤ b0 by omega) (Nat.le_refl _)
      obtain ⟨wl, hwl⟩ : ∃ wl, wl = (want SC (prs R ID L) k).length := ⟨_, rfl⟩
      obtain ⟨c, hc⟩ : ∃ c, c = cntF SC (lastF SC k) (idx ID L) k := ⟨_, rfl⟩
      rw [← hwl] at hI hR
      rw [← hwl, ← hc]
      have HWl : Hid (wl = (want SC (prs R ID L) k).length) := hwl
      have HC : Hid (c = cntF SC (lastF SC k) (idx ID L) k) := hc
      clear hwl hc h12 h12' hF1 hF2 T1 g0 g1 g2 g3 hF4 hS hix hKw hK hLm
      go_wp2
      exact law5c hKx h0b (by omega) b6 hgood hID hix3 j0 j1 j2 j3 jF jS hd4 hI hR HWl hSC hnf hn hsn HC
end Go.Proofs.Qxb6619702a
