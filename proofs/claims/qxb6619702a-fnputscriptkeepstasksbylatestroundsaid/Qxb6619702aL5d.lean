import Derived.Test.Qxb6619702aL5e
import Derived.Test.Qxb6619702aGoing
/-! FnPutScriptKeepsTasksByLatestRound: the script put. -/
namespace Go.Proofs.Qxb6619702a
open Go.RowKit
set_option maxHeartbeats 4000000 in
set_option maxRecDepth 100000 in
theorem law5d {w0 : World} {tb bm m n0 nf0 sn cs cw cr wl lo6 e4 q cf : Nat} {d4 ds af aw ar : Option Addr} {M0 : ByteArray → Option Int} {P0 : List (ByteArray × Int)} {SC : Nat → ByteArray} {FR : Nat → Int} {x0 x1 x2 x3 x6 x7 x8 x9 x10 x11 x12 x13 x14 x15 x16 x17 x18 x19 x20 x23 x24 x25 x26 x27 x28 x29 x30 x31 x32 x33 x37 x38 x39 x40 x41 x42 x43 x44 x45 x46 x47 x48 x49 x50 x51 x52 x53 x54 x55 x56 x57 x58 x59 x60 x61 x62 x63 x64 x65 x66 x67 x68 x69 x70 x71 x72 x73 x74 x75 x76 x77 x78 x79 x80 x81 x82 x83 x84 x85 x86 x87 x88 x89 x90 x91 x92 x93 x94 x95 x96 x97 x98 x99 x100 x101 x102 x103 x104 x105 x106 x107 x108 x109 x110 x111 x112 x113 x114 x115 x116 x117 x118 x119 x120 x121 x122 x123 x124 x125 x126 x127 x128 x129 x130 x131 x132 x133 x134 x135 x136 x137 x138 x139 x140 x141 x142 x143 x144 x145 x146 x147 x148 x149 x150 x151 x152 x153 x154 x155 x156 x157 x158 x159 x160 x161 x162 x163 x164 x165 x166 x167 x168 x169 x170 x171 x172 x173 x174 x175 x176 x177 x178 x179 x180 x181 x182 x183 x184 x185 x186 x187 x188 x189 x190 x191 x192 x193 x194 x195 x196 x197 x198 x199 x200 x201 x202 x203 x204 x205 x206 x207 x208 x209 x210 x211 x212 x213 x214 x215 x216 x217 x218 x219 x220 x221 x222 x223 x224 x225 x226 x227 x228 x229 x230 x231 x232 x233 x234 x235 x236 x237 x238 x239 x240 x241 x242 x243 x244 x245 x246 x247 x248 x249 x250 x251 x252 x253 x254 x255 x256 x257 x258 x259 x260 x261 x262 x263 x264 x265 x266 x267 x268 x269 x270 x271 x272 x273 x274 x275 x276 x277 x278 x279 x280 x281 x282 x283 x284 x285 x286 x287 x288 x289 x290 x291 x292 x293 x294 x295 x296 x297 x298 x299 x300 x301 x302 x303 x304 x305 x306 x307 x308 x309 x310 x311 x312 x313 x314 x315 x316 x317 x318 x319 x320 x321 x322 x323 x324 x325 x326 x327 x328 x329 x330 x331 x332 x333 x334 x335 x336 x337 x338 x339 x340 x341 x342 x343 x344 x345 x346 x347 x348 x349 x350 x351 x352 x353 x354 x355 x356 x357 x358 x359 x360 x361 x362 x363 x364 x365 x366 x367 x368 x369 x370 x371 x372 x373 x374 x375 x376 x377 x378 x379 x380 x381 x382 x383 : Value} {w : World}
    (hKw : Keeps Nob w0 w) (hg : Going w tb bm cf af FR n0 nf0 M0 P0 SC 0) (htb : tb < w.heap.size) (hbt : bm ≤ tb) (h0b : w0.heap.size ≤ bm) (hM0 : Hid (∀ s, (M0 s).isSome = true ↔ s ∈ P0.map (·.1)))
    (hI : SlF Value.string w (bm + 1) tb aw wl (fun j => ((want SC P0 sn).getD j (⟨#[]⟩, 0)).1)) (hR : SlF encI w (bm + 1) tb ar wl (fun j => ((want SC P0 sn).getD j (⟨#[]⟩, 0)).2)) (hwl : Hid (wl = (want SC P0 sn).length))
    (hF : SlF encI w (bm + 1) tb af nf0 FR) (hcf : nf0 ≤ cf) (hF4 : SlF encI w lo6 bm d4 nf0 FR) (hS : SlF Value.string w lo6 bm ds sn SC) (hSC : Hid (∀ j, j < sn → (SC j).size ≤ maxLen)) (hnf : nf0 ≤ 65536) (hn : n0 ≤ 65536) (hsn : sn ≤ 65536)
    (hm : Hid (m = lenOf n0 nf0 (cntF SC (lastF SC sn) M0 sn))) (hq : Hid (q = nf0 - min (cntF SC (lastF SC sn) M0 sn) nf0)) :
    Code.wp Try.prog (tailF Try.f5 60) (bodyPost Try.prog Try.f5 fun e w' => e = .returned (.bool true) ∧ Keeps Nob w0 w') ⟨#[x0, x1, x2, x3, .slice d4 nf0 e4, .slice ds sn cs, x6, x7, x8, x9, x10, x11, x12, x13, x14, x15, x16, x17, x18, x19, x20, .slice aw wl cw, .slice ar wl cr, x23, x24, x25, x26, x27, x28, x29, x30, x31, x32, x33, .int .i64 m, .int .i64 q, .pointer (some ⟨tb, 0, none⟩), x37, x38, x39, x40, x41, x42, x43, x44, x45, x46, x47, x48, x49, x50, x51, x52, x53, x54, x55, x56, x57, x58, x59, x60, x61, x62, x63, x64, x65, x66, x67, x68, x69, x70, x71, x72, x73, x74, x75, x76, x77, x78, x79, x80, x81, x82, x83, x84, x85, x86, x87, x88, x89, x90, x91, x92, x93, x94, x95, x96, x97, x98, x99, x100, x101, x102, x103, x104, x105, x106, x107, x108, x109, x110, x111, x112, x113, x114, x115, x116, x117, x118, x119, x120, x121, x122, x123, x124, x125, x126, x127, x128, x129, x130, x131, x132, x133, x134, x135, x136, x137, x138, x139, x140, x141, x142, x143, x144, x145, x146, x147, x148, x149, x150, x151, x152, x153, x154, x155, x156, x157, x158, x159, x160, x161, x162, x163, x164, x165, x166, x167, x168, x169, x170, x171, x172, x173, x174, x175, x176, x177, x178, x179, x180, x181, x182, x183, x184, x185, x186, x187, x188, x189, x190, x191, x192, x193, x194, x195, x196, x197, x198, x199, x200, x201, x202, x203, x204, x205, x206, x207, x208, x209, x210, x211, x212, x213, x214, x215, x216, x217, x218, x219, x220, x221, x222, x223, x224, x225, x226, x227, x228, x229, x230, x231, x232, x233, x234, x235, x236, x237, x238, x239, x240, x241, x242, x243, x244, x245, x246, x247, x248, x249, x250, x251, x252, x253, x254, x255, x256, x257, x258, x259, x260, x261, x262, x263, x264, x265, x266, x267, x268, x269, x270, x271, x272, x273, x274, x275, x276, x277, x278, x279, x280, x281, x282, x283, x284, x285, x286, x287, x288, x289, x290, x291, x292, x293, x294, x295, x296, x297, x298, x299, x300, x301, x302, x303, x304, x305, x306, x307, x308, x309, x310, x311, x312, x313, x314, x315, x316, x317, x318, x319, x320, x321, x322, x323, x324, x325, x326, x327, x328, x329, x330, x331, x332, x333, x334, x335, x336, x337, x338, x339, x340, x341, x342, x343, x344, x345, x346, x347, x348, x349, x350, x351, x352, x353, x354, x355, x356, x357, x358, x359, x360, x361, x362, x363, x364, x365, x366, x367, x368, x369, x370, x371, x372, x373, x374, x375, x376, x377, x378, x379, x380, x381, x382, x383], []⟩ w := by
  rw [tail5_60]
  go_wp2
  conv => arg 2; whnf
  go_wp2
  go_loopw [252] (fun i wr => ∃ k : Nat, k ≤ sn ∧ i = .int .i64 k ∧ Hid (Going wr tb bm cf af FR n0 nf0 M0 P0 SC k) ∧ Keeps (fun x => x = bm ∨ tb ≤ x) w wr) (fun i _ => sn - (intOf i).toNat)
  case atStart => exact ⟨0, Nat.zero_le _, rfl, hg, Keeps.refl _ _⟩
  case round =>
    obtain ⟨k, hk, rfl, hG, hK⟩ := hrel
    have hs := hK.size
    have T1 : ∀ {α : Type} {enc : α → Value} {ao : Option Addr} {N lo hi : Nat} {F : Nat → α}, SlF enc w lo hi ao N F → hi ≤ bm ∨ (bm < lo ∧ hi ≤ tb) → SlF enc wr lo hi ao N F := by
      intro α enc ao N lo hi F h h1
      exact h.keep hK (by omega) (fun x hx1 hx2 => by omega)
    by_cases hlt : k < sn
    · obtain ⟨b1, o1, rfl, -, -, hc⟩ := (T1 hS (.inl (Nat.le_refl _))) (by omega)
      replace hc := hc k hlt
      have hFr := T1 hF (.inr ⟨Nat.lt_succ_self _, Nat.le_refl _⟩)
      have hx := hSC.out k hlt
      clear T1 hKw hg hI hR hF hF4 hS hm hq hwl
      obtain ⟨n, nf, L, R, ID, B, A, hSt, hAl⟩ := hG.out
      obtain ⟨v, ix, hT, hI⟩ := hSt.ix
      have hln : L.length ≤ n := by obtain ⟨_, _, _, -, -, -, -, -, -, h⟩ := hSt.last; exact h
      have hn1 : n ≤ 131073 := by
        have h1 := hAl.len
        have h2 := lenOf_le n0 nf0 (cntF SC (lastF SC k) M0 k)
        have h3 := cntF_le SC (lastF SC k) M0 k
        omega
      have hnf1 : nf ≤ nf0 := by have := hAl.free; omega
      have hstep : ∀ w', Keeps Nob wr w' → Calls Try.prog 28 #[.pointer (some ⟨tb, 0, none⟩), .int .i64 ((idx ID L (SC k)).getD 0), .string (SC k), taskV ((k : Int) + 1) ⟨#[]⟩] w' (StepOut w' tb bm cf af FR n nf L R ID (SC k) ((k : Int) + 1)) := fun w' hK' =>
        step (hSt.keep hK') (by omega) (by omega) ((hFr.keep hK' (by omega) (fun _ _ _ h => h)).less hnf1) (by omega) (by omega) hAl.sizes hx
      obtain ⟨c, hcc⟩ : ∃ c, (idx ID L (SC k)).getD 0 = c := ⟨_, rfl⟩
      obtain ⟨bo, hbo⟩ : ∃ bo, (idx ID L (SC k)).isSome = bo := ⟨_, rfl⟩
      have h17 := zzIndex_ix tb v _ ix _ _ (SC k) wr hT hI hx
      rw [hcc, hbo] at h17
      rw [hcc] at hstep
      have HA : Hid (Along n0 nf0 M0 P0 SC k n nf L R ID) := hAl
      have H17 : Hid (Calls Try.prog 17 #[.pointer (some ⟨tb, 0, none⟩), .string (SC k)] wr fun e w' => e = .returned (.tuple #[.int .i64 c, .bool bo]) ∧ w' = wr) := h17
      have HSt : Hid _ := hstep
      clear hG hcc hbo h17 hT hI hSt hAl hstep hFr hn1 hnf1 hln
      go_wp2_with (go_at_call 17; refine H17.out.mono ?_; rintro e w' ⟨rfl, hw⟩; obtain rfl : wr = w' := hw.symm)
      go_wp2_with (go_at_call 19; refine (zzTask_any _ _ _).mono ?_)
      rintro e w5 ⟨rfl, hK5⟩
      have hs5 := hK5.size
      have h28 := HSt.out (w5.alloc (taskC ((k : Int) + 1) ⟨#[]⟩)) (hK5.alloc _)
      have H28 : Hid _ := h28
      clear h28
      go_wp2_with (go_at_call 18; refine (zzPut_any (R := fun w' => StepRest (w5.alloc (taskC ((k : Int) + 1) ⟨#[]⟩)) tb bm cf af FR n nf L R ID (SC k) ((k : Int) + 1) w') H28.out).mono ?_)
      rintro e w6 ⟨rfl, hK6, n', nf', L', R', ID', B', A', ht, hSt'⟩
      have hs6 := hK6.size
      simp only [World.size_alloc] at hs6
      have hKn : Keeps (fun x => x = bm ∨ tb ≤ x) w w6 := (hK.trans ((hK5.alloc _).mono fun _ _ h => h.elim)).trans (hK6.mono fun _ _ h => h)
      have HG : Hid (Going w6 tb bm cf af FR n0 nf0 M0 P0 SC (k + 1)) := ⟨n', nf', L', R', ID', B', A', hSt', HA.out.step hM0.out ht⟩
      clear hSt' ht HA HSt H28 H17 hK5 hK6 hK
      go_wp2
      refine ⟨?rel, ?measure⟩
      case rel => exact ⟨k + 1, hlt, by go_num, HG, hKn⟩
      case measure => simp [intOf]; omega
    · have hkn : k = sn := by omega
      subst hkn
      have hIr := T1 hI (.inr ⟨Nat.lt_succ_self _, Nat.le_refl _⟩)
      have hRr := T1 hR (.inr ⟨Nat.lt_succ_self _, Nat.le_refl _⟩)
      have hFr := T1 hF (.inr ⟨Nat.lt_succ_self _, Nat.le_refl _⟩)
      have hF4r := T1 hF4 (.inl (Nat.le_refl _))
      have hKx : Keeps Nob w0 wr := ⟨hK.os.trans hKw.os, hK.tape.trans hKw.tape, hK.output.trans hKw.output, Nat.le_trans hKw.size hs, fun x hx hn => (hK.block x (Nat.lt_of_lt_of_le hx hKw.size) (by omega)).trans (hKw.block x hx hn)⟩
      obtain ⟨n, nf, L, R, ID, B, A, hSt, hAl⟩ := hG.out
      obtain ⟨a, c, ix, hT, hown, hM, hr, hW, hWm, hln⟩ := hSt.last
      have hn1 : n ≤ 131073 := by
        have h1 := hAl.len
        have h2 := lenOf_le n0 nf0 (cntF SC (lastF SC k) M0 k)
        have h3 := cntF_le SC (lastF SC k) M0 k
        omega
      obtain rfl : m = n := by rw [hm.out, hAl.len]
      obtain rfl : q = nf := by rw [hq.out, hAl.free]
      have hq0 : q ≤ nf0 := by have := hAl.free; omega
      have hp := hAl.pairs
      rw [← hp] at hIr hRr
      have hwl2 := hwl.out
      rw [← hp] at hwl2
      obtain rfl : wl = L.length := by rw [hwl2]; simp [prs]
      have hget : ∀ j, j < L.length → (prs R ID L).getD j (⟨#[]⟩, 0) = (ID (L.getD j 0), R (L.getD j 0)) := fun j hj => by simp [prs, List.getD_eq_getElem?_getD, List.getElem?_eq_getElem hj]
      have hIn : SlF Value.string wr (bm + 1) tb aw L.length (fun j => ID (L.getD j 0)) := fun h => by
        obtain ⟨b, o, h1, h2, h3, h4⟩ := hIr h
        exact ⟨b, o, h1, h2, h3, fun j hj => by have := h4 j hj; simp only [hget j hj] at this; exact this⟩
      have hRn : SlF encI wr (bm + 1) tb ar L.length (fun j => R (L.getD j 0)) := fun h => by
        obtain ⟨b, o, h1, h2, h3, h4⟩ := hRr h
        exact ⟨b, o, h1, h2, h3, fun j hj => by have := h4 j hj; simp only [hget j hj] at this; exact this⟩
      have HW : Hid (∀ x ∈ L, idx ID L (ID x) = some (x : Int) ∧ (ID x).size ≤ maxLen) := fun x hx => ⟨hW x hx, hAl.sizes x hx⟩
      have HWm : Hid (∀ x ∈ L, x < m) := hWm
      have Hr : Hid (ringF m B A = some L) := hr
      have Hown : Hid _ := hown
      clear T1 hG hg hSt hAl hp hwl hwl2 hget hIr hRr hI hR hF hF4 hS hSC hW hWm hr hown hm hq hM0 hK
      go_wp2
      exact law5e hKx hT Hown.out hM hIn hRn (hFr.less hq0) hF4r hq0 hnf (by omega) Hr HW HWm (by omega) (by omega) (by omega) (by omega)
end Go.Proofs.Qxb6619702a
