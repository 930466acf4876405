import Derived.Test.Qxb6617947aTb
/-! zzMinLimitedCost: the levels. -/
namespace Go.Proofs.Qxb6617947a
open Go.RowKit
set_option linter.unusedVariables false
set_option linter.unusedSimpArgs false
set_option maxHeartbeats 4000000 in
set_option maxRecDepth 100000 in
theorem m16 {w0 : World} {rb b1 b2 n K sd S OPT : Nat} {t s wt : Nat → Nat} {V0 : Tab} {x0 x2 x3 x4 x7 x11 x13 x14 x15 x16 x17 x18 x19 x20 x21 x22 x23 x24 x25 x26 x27 x28 x29 x30 x31 x32 x33 x34 x35 x36 x37 x38 x39 x40 x41 x42 x43 x44 x45 x46 x47 x48 x49 x50 x51 x52 x53 x54 x55 x56 x57 x58 x59 x60 x61 x62 x63 x64 x65 x66 x67 x68 x69 x70 x71 x72 x73 x74 x75 x76 x77 x78 x79 x80 x81 x82 x83 x84 x85 x86 x87 x88 x89 x90 x91 x92 x93 x94 x95 x96 x97 x98 x99 x100 x101 x102 x103 x104 x105 x106 x107 x108 x109 x110 x111 x112 x113 x114 x115 x116 x117 x118 x119 x120 x121 x122 x123 x124 x125 x126 x127 x128 x129 x130 x131 x132 x133 x134 x135 x136 x137 x138 x139 x140 x141 x142 x143 x144 x145 x146 x147 x148 x149 x150 x151 x152 x153 x154 x155 x156 x157 x158 x159 x160 x161 x162 x163 x164 x165 x166 x167 x168 x169 x170 x171 x172 x173 x174 x175 x176 x177 x178 x179 x180 x181 x182 x183 x184 x185 x186 x187 x188 x189 x190 x191 x192 x193 x194 x195 x196 x197 x198 : Value} {w : World}
    (hKw : Keeps Nob w0 w) (hr : Own w rb sd (fun i => .int .u64 (psum wt (n - i) : Nat))) (h1 : Own w b1 S (tabV sd V0)) (h2 : Own w b2 S (fun _ => .int .u64 0)) (hne : b1 ≠ b2) (hr1 : rb ≠ b1) (hr2 : rb ≠ b2) (hnb : w0.heap.size ≤ b1 ∧ w0.heap.size ≤ b2)
    (hn : 2 ≤ n) (hn2 : n ≤ 512) (hK : 1 ≤ K) (hK2 : K ≤ 20) (HSD : Hid (sd = n + 1)) (HSS : Hid (S = sd * sd)) (hsd1 : sd ≤ n + 1) (hsd2 : n + 1 ≤ sd) (hSb : S ≤ 263169)
    (C : Chain n K t s) (hsK : s K = 0) (hw : Hid (Asc wt n)) (hW : Hid (psum wt n < 2 ^ 50)) (hLB0 : Hid (LBs wt n OPT (K - 1) (1 * psum wt n) V0)) (hUB0 : Hid (UB wt n K t s 0 V0 18446744073709551615)) (hO : OPT ≤ 18446744073709551615) (hTot : Hid (psum (fun e => psum wt (s e)) K < INF)) :
    Code.wp Try.prog (tailF Try.f18 16) (bodyPost Try.prog Try.f18 fun e w' => ∃ r : Nat, e = .returned (.int .u64 r) ∧ OPT ≤ r ∧ r ≤ psum (fun e => psum wt (s e)) K ∧ Keeps Nob w0 w') ⟨#[x0, .int .i64 (K : Nat), x2, x3, x4, .int .i64 (n : Nat), .slice (some ⟨rb, 0, none⟩) sd sd, x7, .int .i64 (sd : Nat), .slice (some ⟨b1, 0, none⟩) S S, .slice (some ⟨b2, 0, none⟩) S S, x11, .int .u64 18446744073709551615, x13, x14, x15, x16, x17, x18, x19, x20, x21, x22, x23, x24, x25, x26, x27, x28, x29, x30, x31, x32, x33, x34, x35, x36, x37, x38, x39, x40, x41, x42, x43, x44, x45, x46, x47, x48, x49, x50, x51, x52, x53, x54, x55, x56, x57, x58, x59, x60, x61, x62, x63, x64, x65, x66, x67, x68, x69, x70, x71, x72, x73, x74, x75, x76, x77, x78, x79, x80, x81, x82, x83, x84, x85, x86, x87, x88, x89, x90, x91, x92, x93, x94, x95, x96, x97, x98, x99, x100, x101, x102, x103, x104, x105, x106, x107, x108, x109, x110, x111, x112, x113, x114, x115, x116, x117, x118, x119, x120, x121, x122, x123, x124, x125, x126, x127, x128, x129, x130, x131, x132, x133, x134, x135, x136, x137, x138, x139, x140, x141, x142, x143, x144, x145, x146, x147, x148, x149, x150, x151, x152, x153, x154, x155, x156, x157, x158, x159, x160, x161, x162, x163, x164, x165, x166, x167, x168, x169, x170, x171, x172, x173, x174, x175, x176, x177, x178, x179, x180, x181, x182, x183, x184, x185, x186, x187, x188, x189, x190, x191, x192, x193, x194, x195, x196, x197, x198], []⟩ w := by
  have HC : Hid (Chain n K t s ∧ s K = 0) := ⟨C, hsK⟩
  clear C hsK
  rw [tail18_16]
  go_wp2
  conv => arg 2; whnf
  go_wp2
  go_loopw [9, 10, 12, 13] (fun v9 v10 v12 v13 wr => ∃ (d c x best : Nat) (V : Tab) (X : Nat → Nat), 1 ≤ d ∧ d ≤ K ∧ v9 = .slice (some ⟨c, 0, none⟩) S S ∧ v10 = .slice (some ⟨x, 0, none⟩) S S ∧ v12 = .int .u64 best ∧ v13 = .int .i64 d ∧ ((c = b1 ∧ x = b2) ∨ (c = b2 ∧ x = b1)) ∧
      Keeps (fun b => b = b1 ∨ b = b2) w wr ∧ Own wr c S (tabV sd V) ∧ Own wr x S (fun z => .int .u64 (X z : Nat)) ∧ LBs wt n OPT (K - d) (d * psum wt n) V ∧ UB wt n K t s (d - 1) V best ∧ OPT ≤ best ∧ best ≤ 18446744073709551615) (fun _ _ _ v13 _ => K + 1 - (intOf v13).toNat)
  case atStart => exact ⟨1, b1, b2, 18446744073709551615, V0, fun _ => 0, Nat.le_refl _, hK, rfl, rfl, rfl, rfl, .inl ⟨rfl, rfl⟩, Keeps.refl _ _, h1, h2, hLB0.out, hUB0.out, hO, Nat.le_refl _⟩
  case round =>
    obtain ⟨d, c, x, best, V, X, hd1, hdK, rfl, rfl, rfl, rfl, hcx, hKr, hoc, hox, hLB, hUB, hb1, hb2⟩ := hrel
    have HLB : Hid (LBs wt n OPT (K - d) (d * psum wt n) V) := hLB
    have HUB : Hid (UB wt n K t s (d - 1) V best) := hUB
    have hcx1 : c ≠ x := by omega
    clear hLB hUB
    obtain ⟨wq, rfl⟩ : ∃ wq, wq = wr := ⟨wr, rfl⟩
    go_wp2
    go_loopw [14] (fun v14 wr2 => ∃ (i : Nat) (V1 : Tab), i ≤ n ∧ v14 = .int .i64 i ∧ Keeps (fun b => b = c) wq wr2 ∧ Own wr2 c S (tabV sd V1) ∧ Plc wt n OPT (K - d) (d * psum wt n) V V1 i 1) (fun v14 _ => n - (intOf v14).toNat)
    case atStart => exact ⟨0, V, Nat.zero_le _, rfl, Keeps.refl _ _, hoc, Plc.start HLB.out⟩
    case round =>
      obtain ⟨i, V1, hi, rfl, hKi, hoi, hPi⟩ := hrel
      by_cases hlt : i < n
      · obtain ⟨m0, hm0⟩ : ∃ m0, i * sd = m0 := ⟨_, rfl⟩
        have hrow := row_low HSD.out HSS.out hlt
        rw [hm0] at hrow
        obtain ⟨m1, hm1⟩ : ∃ m1, m0 + sd = m1 := ⟨_, rfl⟩
        have HM0 : Hid (i * sd = m0) := hm0
        have HM1 : Hid ((i + 1) * sd = m1) := by show (i + 1) * sd = m1; rw [Nat.add_mul, hm0, Nat.one_mul, hm1]
        have HM2 : Hid (m0 + sd = m1) := hm1
        have e0 : (i : Int) * (sd : Int) = (m0 : Int) := by rw [← hm0, Int.natCast_mul]
        have e1 : ((i : Int) + 1) * (sd : Int) = (m1 : Int) := by rw [← HM1.out, Int.natCast_mul]; rfl
        have hm1b : m1 ≤ m0 + sd := by omega
        have hm1c : m0 + sd ≤ m1 := by omega
        have hPi0 : Hid (Plc wt n OPT (K - d) (d * psum wt n) V V1 i 1) := hPi
        clear hm0 hm1 hPi
        obtain ⟨wi, rfl⟩ : ∃ wi, wi = wr := ⟨wr, rfl⟩
        go_wp2
        go_loopw [15] (fun v15 wr3 => ∃ (a : Nat) (V2 : Tab), 1 ≤ a ∧ a ≤ n - i + 1 ∧ v15 = .int .i64 a ∧ Keeps (fun b => b = c) wq wr3 ∧ Own wr3 c S (tabV sd V2) ∧ Plc wt n OPT (K - d) (d * psum wt n) V V2 i a) (fun v15 _ => n + 2 - (intOf v15).toNat)
        case atStart => exact ⟨1, V1, Nat.le_refl _, by omega, rfl, hKi, hoi, hPi0.out⟩
        case round =>
          obtain ⟨a, V2, ha1, ha2, rfl, hKa, hoa, hPa⟩ := hrel
          by_cases hal : i + a ≤ n
          · have hv := tab_cell hoa (i := i) (a := a) (by omega) HM0.out (by omega)
            have hu := tab_cell hoa (i := i + 1) (a := a - 1) (by omega) HM1.out (by omega)
            obtain ⟨y, hy⟩ : ∃ y, m1 + (a - 1) = y := ⟨_, rfl⟩
            obtain ⟨x0, hx0⟩ : ∃ x0, m0 + a = x0 := ⟨_, rfl⟩
            rw [hy] at hu
            rw [hx0] at hv
            have ex : (m0 : Int) + (a : Int) = (x0 : Int) := by omega
            have ey : (m1 : Int) + (a : Int) - 1 = (y : Int) := by omega
            have HY : Hid (m1 + (a - 1) = y) := hy
            have hyS : y < S := by omega
            have hxS : x0 < S := by omega
            have hfr := hoa.free y
            have hlb := hPa.lb i a hal
            have hle : (a : Int) ≤ (n : Int) - (i : Int) := by omega
            obtain ⟨v, hve⟩ : ∃ v, V2 i a = v := ⟨_, rfl⟩
            obtain ⟨u, hue⟩ : ∃ u, V2 (i + 1) (a - 1) = u := ⟨_, rfl⟩
            have HV : Hid (V2 i a = v) := hve
            have HU : Hid (V2 (i + 1) (a - 1) = u) := hue
            rw [hve] at hv hlb
            rw [hue] at hu
            have hvI : v ≤ 18446744073709551615 := hlb.1
            have hPa0 : Hid (Plc wt n OPT (K - d) (d * psum wt n) V V2 i a) := hPa
            have huI : u ≤ 18446744073709551615 := by have := (hPa.lb (i + 1) (a - 1) (by omega)).1; rw [hue] at this; exact this
            clear hy hx0 hve hue hlb hPa
            by_cases hvv : v = 18446744073709551615
            · subst hvv
              go_wp2
              go_roundw
              case rel => exact ⟨a + 1, V2, by omega, by omega, by go_num, hKa, hoa, hPa0.out.skip hlt hal (by rw [HV.out, HU.out]; exact huI)⟩
              case measure => simp [intOf]; omega
            · have hvb : ((v : Int) == 18446744073709551615) = false := by simp; omega
              by_cases hvu : v < u
              · have hvu' : (v : Int) < (u : Int) := by omega
                go_wp2
                refine ⟨?rel, ?measure⟩
                case rel =>
                  have hset := tab_set hoa (i := i + 1) (a := a - 1) (by omega) HM1.out (by omega) v
                  rw [HY.out] at hset
                  have hP2 := hPa0.out.put hlt ha1 hal (by rw [HV.out]; unfold INF; omega) (by rw [HV.out, HU.out]; exact hvu)
                  rw [HV.out] at hP2
                  exact ⟨a + 1, updT V2 (i + 1) (a - 1) v, by omega, by omega, by go_num, hKa.setCell (p := ⟨c, y, none⟩) rfl _, hset, hP2⟩
                case measure => simp [intOf]; omega
              · have hvu' : ¬ (v : Int) < (u : Int) := by omega
                go_wp2
                refine ⟨?rel, ?measure⟩
                case rel => exact ⟨a + 1, V2, by omega, by omega, by go_num, hKa, hoa, hPa0.out.skip hlt hal (by rw [HV.out, HU.out]; omega)⟩
                case measure => simp [intOf]; omega
          · have hle : ¬ (a : Int) ≤ (n : Int) - (i : Int) := by omega
            have hPa0 : Hid (Plc wt n OPT (K - d) (d * psum wt n) V V2 i a) := hPa
            clear hPa
            go_wp2
            refine ⟨?rel, ?measure⟩
            case rel => exact ⟨i + 1, V2, by omega, by go_num, hKa, hoa, hPa0.out.row (by omega)⟩
            case measure => simp [intOf]; omega
      · obtain rfl : i = n := by omega
        obtain ⟨mn, hmn⟩ : ∃ mn, i * sd = mn := ⟨_, rfl⟩
        have HMN : Hid (i * sd = mn) := hmn
        have hSmn : mn + sd = S := by rw [HSS.out, ← hmn]; have := HSD.out; subst this; rw [Nat.add_mul i 1, Nat.one_mul]
        have en : (i : Int) * (sd : Int) = (mn : Int) := by rw [← hmn, Int.natCast_mul]
        have hun := tab_cell hoi (i := i) (a := 0) (by omega) hmn (by omega)
        rw [Nat.add_zero] at hun
        have hmnS : mn < S := by omega
        have hlbu := hPi.lb i 0 (by omega)
        have hend := level_end HC.out.1 HC.out.2 hPi (Nat.le_refl _) (e := d - 1) (by omega) HUB.out
        obtain ⟨u, hue⟩ : ∃ u, V1 i 0 = u := ⟨_, rfl⟩
        rw [hue] at hun hlbu hend
        have huI : u ≤ 18446744073709551615 := hlbu.1
        have huO : OPT ≤ u := by
          rcases Nat.lt_or_ge u INF with h | h
          · have h2 := (hlbu.2 h).1
            unfold LB at h2
            have h3 := h2 (by omega)
            rw [show 2 * (i - i - 0) = 0 by omega] at h3
            exact h3
          · unfold INF at h; omega
        have HPI : Hid (Plc wt i OPT (K - d) (d * psum wt i) V V1 i 1) := hPi
        clear hmn hlbu hPi hue hSmn
        by_cases hub : u < best
        · have hub' : (u : Int) < (best : Int) := by omega
          have HEND : Hid ((0 < s (d - 1 + 1) ∧ V1 (i - s (d - 1 + 1)) (s (d - 1) + s (d - 1 + 1) - t (d - 1)) ≤ psum (fun e => psum wt (s e)) (d - 1 + 1)) ∨ u ≤ psum (fun e => psum wt (s e)) K) := by
            rw [Nat.min_eq_left (by omega)] at hend; exact hend
          clear hend
          obtain ⟨n, rfl⟩ : ∃ n, n = i := ⟨i, rfl⟩
          by_cases hdk : d = K
          · have hdb : ((d : Int) == (K : Int)) = true := by simp [hdk]
            have hfin : u ≤ psum (fun e => psum wt (s e)) K := by
              rcases HEND.out with ⟨h0, _⟩ | h0
              · rw [show d - 1 + 1 = K by omega, HC.out.2] at h0; omega
              · exact h0
            have HFIN : Hid (u ≤ psum (fun e => psum wt (s e)) K) := hfin
            clear hfin
            go_wp2
            conv => arg 2; whnf
            go_wp2
            go_ret
            refine ⟨u, rfl, by omega, HFIN.out, ?_⟩
            have h0 := hKw.size
            have h1 := hKr.size
            exact ⟨hKi.os.trans (hKr.os.trans hKw.os), hKi.tape.trans (hKr.tape.trans hKw.tape), hKi.output.trans (hKr.output.trans hKw.output), by have := hKi.size; omega, fun i hi _ => (hKi.block i (by omega) (by show ¬ i = c; omega)).trans ((hKr.block i (by omega) (by show ¬ (i = b1 ∨ i = b2); omega)).trans (hKw.block i hi (fun h => h)))⟩
          · have hdb : ((d : Int) == (K : Int)) = false := by simp; omega
            have hoxi := hox.keep hKi (fun h => hcx1 h.symm)
            obtain ⟨wp, rfl⟩ : ∃ wp, wp = wr := ⟨wr, rfl⟩
            go_wp2
            go_loopw [18] (fun v18 wr2 => ∃ (k : Nat) (X1 : Nat → Nat), k ≤ S ∧ v18 = .int .i64 k ∧ Keeps (fun b => b = x) wp wr2 ∧ Own wr2 x S (fun z => .int .u64 (X1 z : Nat)) ∧ ∀ z, z < k → X1 z = 18446744073709551615) (fun v18 _ => S - (intOf v18).toNat)
            case atStart => exact ⟨0, X, Nat.zero_le _, rfl, Keeps.refl _ _, hoxi, fun z hz => absurd hz (Nat.not_lt_zero _)⟩
            case round =>
              obtain ⟨k, X1, hk, rfl, hKx, hx1, hXk⟩ := hrel
              have HXK : Hid (∀ z, z < k → X1 z = 18446744073709551615) := hXk
              clear hXk
              by_cases hlt : k < S
              · have c2 := hx1.cell k hlt
                have f2 := hx1.free k
                go_wp2
                refine ⟨?rel, ?measure⟩
                case rel =>
                  refine ⟨k + 1, updF X1 k 18446744073709551615, by omega, by go_num, hKx.setCell (p := ⟨x, k, none⟩) rfl _, (hx1.set hlt _).congr fun j _ => ?_, fun z hz => ?_⟩
                  · unfold updV updF; split <;> rfl
                  · unfold updF
                    by_cases h : z = k
                    · rw [if_pos h]
                    · rw [if_neg h]; exact HXK.out z (by omega)
                case measure => simp [intOf]; omega
              · obtain rfl : k = S := by omega
                have hx3 : Own wr x k (tabV sd (fun _ _ => INF)) := hx1.congr fun j hj => by rw [HXK.out j hj]; rfl
                have hc3 := hoi.keep hKx (fun h => hcx1 h)
                have hr3 := ((hr.keep hKr (fun h => by rcases h with h | h; exact hr1 h; exact hr2 h)).keep hKi (fun h => by omega)).keep hKx (fun h => by omega)
                have hD0 : Dwn wt n OPT (K - (d + 1)) ((d + 1) * psum wt n) V1 (fun _ _ => INF) 0 1 := Dwn.start fun _ _ => rfl
                have HD0 : Hid (Dwn wt n OPT (K - (d + 1)) ((d + 1) * psum wt n) V1 (fun _ _ => INF) 0 1) := hD0
                have HLBA : Hid (LBs wt n OPT (K - (d + 1) + 1) (d * psum wt n) V1) := by have := HPI.out.lb; rw [show K - d = K - (d + 1) + 1 by omega] at this; exact this
                have HBW : Hid (d * psum wt n + psum wt n ≤ (d + 1) * psum wt n) := by show _ ≤ _; rw [Nat.add_mul, Nat.one_mul]; exact Nat.le_refl _
                have HBI : Hid ((d + 1) * psum wt n < INF) := by
                  have h5 := Nat.mul_le_mul (show d + 1 ≤ 21 by omega) (Nat.le_of_lt hW.out)
                  have h6 : (21 : Nat) * 2 ^ 50 < INF := by unfold INF; decide
                  exact Nat.lt_of_le_of_lt h5 h6
                have HBV : Hid (d * psum wt n ≤ 22517998136852480) := Nat.mul_le_mul (show d ≤ 20 by omega) (show psum wt n ≤ 1125899906842624 from Nat.le_of_lt hW.out)
                clear hx1 hoi hD0 hoxi hox
                obtain ⟨wz, rfl⟩ : ∃ wz, wz = wr := ⟨wr, rfl⟩
                go_wp2
                go_loopw [19] (fun v19 wr2 => ∃ (i : Nat) (X1 : Tab), i ≤ n ∧ v19 = .int .i64 i ∧ Keeps (fun b => b = x) wz wr2 ∧ Own wr2 x k (tabV sd X1) ∧ Dwn wt n OPT (K - (d + 1)) ((d + 1) * psum wt n) V1 X1 i 1) (fun v19 _ => n - (intOf v19).toNat)
                case atStart => exact ⟨0, _, Nat.zero_le _, rfl, Keeps.refl _ _, hx3, HD0.out⟩
                case round =>
                  obtain ⟨i, X1, hi, rfl, hKi2, hoi2, hDi⟩ := hrel
                  have hDi0 : Hid (Dwn wt n OPT (K - (d + 1)) ((d + 1) * psum wt n) V1 X1 i 1) := hDi
                  clear hDi
                  by_cases hlt : i < n
                  · obtain ⟨m0, hm0⟩ : ∃ m0, i * sd = m0 := ⟨_, rfl⟩
                    have hrow := row_low HSD.out HSS.out hlt
                    rw [hm0] at hrow
                    have HM0 : Hid (i * sd = m0) := hm0
                    have e0 : (i : Int) * (sd : Int) = (m0 : Int) := by rw [← hm0, Int.natCast_mul]
                    obtain ⟨r, hre⟩ : ∃ r, n - i = r := ⟨_, rfl⟩
                    have er : (n : Int) - (i : Int) = (r : Int) := by omega
                    have hr9a : r ≤ n - i := by omega
                    have hr9b : n - i ≤ r := by omega
                    clear hm0 hre
                    obtain ⟨wi, rfl⟩ : ∃ wi, wi = wr := ⟨wr, rfl⟩
                    go_wp2
                    go_loopw [20] (fun v20 wr3 => ∃ (a : Nat) (X2 : Tab), 1 ≤ a ∧ a ≤ n - i + 1 ∧ v20 = .int .i64 a ∧ Keeps (fun b => b = x) wz wr3 ∧ Own wr3 x k (tabV sd X2) ∧ Dwn wt n OPT (K - (d + 1)) ((d + 1) * psum wt n) V1 X2 i a) (fun v20 _ => n + 2 - (intOf v20).toNat)
                    case atStart => exact ⟨1, X1, Nat.le_refl _, by omega, rfl, hKi2, hoi2, hDi0.out⟩
                    case round =>
                      obtain ⟨a, X2, ha1, ha2, rfl, hKa, hoa, hDa⟩ := hrel
                      have hDa0 : Hid (Dwn wt n OPT (K - (d + 1)) ((d + 1) * psum wt n) V1 X2 i a) := hDa
                      clear hDa
                      by_cases hal : i + a ≤ n
                      · have hv := tab_cell (hc3.keep hKa (fun h => hcx1 h)) (i := i) (a := a) (by omega) HM0.out (by omega)
                        have hrr := (hr3.keep hKa (fun h => by omega)).cell i (by omega)
                        obtain ⟨x0, hx0⟩ : ∃ x0, m0 + a = x0 := ⟨_, rfl⟩
                        rw [hx0] at hv
                        have ex : (m0 : Int) + (a : Int) = (x0 : Int) := by omega
                        have hxS : x0 < k := by omega
                        have hlb := HLBA.out i a hal
                        have hle : (a : Int) ≤ (r : Int) := by omega
                        obtain ⟨v, hve⟩ : ∃ v, V1 i a = v := ⟨_, rfl⟩
                        have HV : Hid (V1 i a = v) := hve
                        rw [hve] at hv hlb
                        obtain ⟨R, hRe⟩ : ∃ R, psum wt (n - i) = R := ⟨_, rfl⟩
                        have HR : Hid (psum wt (n - i) = R) := hRe
                        rw [hRe] at hrr
                        have hRb : R ≤ 1125899906842624 := by
                          have h5 := psum_mono (f := wt) (a := n - i) (b := n) (by omega)
                          rw [hRe] at h5
                          exact Nat.le_trans h5 (Nat.le_of_lt hW.out)
                        have hvI : v ≤ 18446744073709551615 := hlb.1
                        have hvB : v < 18446744073709551615 → v ≤ 22517998136852480 := fun h => Nat.le_trans (hlb.2 h).2 HBV.out
                        have HVB : Hid (v < 18446744073709551615 → v ≤ 22517998136852480) := hvB
                        clear hx0 hve hlb hRe hvB
                        by_cases hvv : v = 18446744073709551615
                        · subst hvv
                          go_wp2
                          go_roundw
                          case rel => exact ⟨a + 1, X2, by omega, by omega, by go_num, hKa, hoa, hDa0.out.skip hlt hal (fun h => by rw [HV.out] at h; exact absurd h (Nat.lt_irrefl _))⟩
                          case measure => simp [intOf]; omega
                        · have hvb : ((v : Int) == 18446744073709551615) = false := by simp; omega
                          have hv2 := HVB.out (by omega)
                          obtain ⟨q, hq⟩ : ∃ q, v + R = q := ⟨_, rfl⟩
                          have HQ : Hid (v + R = q) := hq
                          have eq : (v : Int) + (R : Int) = (q : Int) := by omega
                          have hqb : q ≤ 23643898043695104 := by omega
                          obtain ⟨a2, ha2e⟩ : ∃ a2, 2 * a = a2 := ⟨_, rfl⟩
                          have ea : 2 * (a : Int) = (a2 : Int) := by omega
                          have ha2a : a2 ≤ 2 * a := by omega
                          have ha2b : 2 * a ≤ a2 := by omega
                          clear hq ha2e
                          by_cases hbig : a2 > r
                          · have hbg : (a2 : Int) > (r : Int) := by omega
                            obtain ⟨y, hy⟩ : ∃ y, m0 + r = y := ⟨_, rfl⟩
                            have hu := tab_cell hoa (i := i) (a := r) (by omega) HM0.out (by omega)
                            have HMN : Hid (min (2 * a) (n - i) = r) := by show min (2 * a) (n - i) = r; omega
                            rw [hy] at hu
                            have ey : (m0 : Int) + (r : Int) = (y : Int) := by omega
                            have HY : Hid (m0 + r = y) := hy
                            have hyS : y < k := by omega
                            have hfr := hoa.free y
                            have huI0 := (hDa0.out.lb i r (by omega)).1
                            obtain ⟨u, hue⟩ : ∃ u, X2 i r = u := ⟨_, rfl⟩
                            have HU : Hid (X2 i r = u) := hue
                            rw [hue] at hu huI0
                            have huI : u ≤ 18446744073709551615 := huI0
                            clear hy hue huI0
                            by_cases hqu : q < u
                            · have hqu' : (q : Int) < (u : Int) := by omega
                              go_wp2
                              refine ⟨?rel, ?measure⟩
                              case rel =>
                                have hset := tab_set hoa (i := i) (a := r) (by omega) HM0.out (by omega) q
                                rw [HY.out] at hset
                                have hD2 := hDa0.out.put hw.out HLBA.out HBW.out HBI.out hlt ha1 hal (by rw [HV.out]; unfold INF; omega) (by rw [HV.out, HMN.out, HU.out, HR.out]; have := HQ.out; omega)
                                rw [HV.out, HMN.out, HR.out, HQ.out] at hD2
                                exact ⟨a + 1, updT X2 i r q, by omega, by omega, by go_num, hKa.setCell (p := ⟨x, y, none⟩) rfl _, hset, hD2⟩
                              case measure => simp [intOf]; omega
                            · have hqu' : ¬ (q : Int) < (u : Int) := by omega
                              go_wp2
                              refine ⟨?rel, ?measure⟩
                              case rel => exact ⟨a + 1, X2, by omega, by omega, by go_num, hKa, hoa, hDa0.out.skip hlt hal (fun _ => by rw [HV.out, HMN.out, HU.out, HR.out]; have := HQ.out; omega)⟩
                              case measure => simp [intOf]; omega
                          · have hbg : ¬ (a2 : Int) > (r : Int) := by omega
                            obtain ⟨y, hy⟩ : ∃ y, m0 + a2 = y := ⟨_, rfl⟩
                            have hu := tab_cell hoa (i := i) (a := a2) (by omega) HM0.out (by omega)
                            have HMN : Hid (min (2 * a) (n - i) = a2) := by show min (2 * a) (n - i) = a2; omega
                            rw [hy] at hu
                            have ey : (m0 : Int) + (a2 : Int) = (y : Int) := by omega
                            have HY : Hid (m0 + a2 = y) := hy
                            have hyS : y < k := by omega
                            have hfr := hoa.free y
                            have huI0 := (hDa0.out.lb i a2 (by omega)).1
                            obtain ⟨u, hue⟩ : ∃ u, X2 i a2 = u := ⟨_, rfl⟩
                            have HU : Hid (X2 i a2 = u) := hue
                            rw [hue] at hu huI0
                            have huI : u ≤ 18446744073709551615 := huI0
                            clear hy hue huI0
                            by_cases hqu : q < u
                            · have hqu' : (q : Int) < (u : Int) := by omega
                              go_wp2
                              refine ⟨?rel, ?measure⟩
                              case rel =>
                                have hset := tab_set hoa (i := i) (a := a2) (by omega) HM0.out (by omega) q
                                rw [HY.out] at hset
                                have hD2 := hDa0.out.put hw.out HLBA.out HBW.out HBI.out hlt ha1 hal (by rw [HV.out]; unfold INF; omega) (by rw [HV.out, HMN.out, HU.out, HR.out]; have := HQ.out; omega)
                                rw [HV.out, HMN.out, HR.out, HQ.out] at hD2
                                exact ⟨a + 1, updT X2 i a2 q, by omega, by omega, by go_num, hKa.setCell (p := ⟨x, y, none⟩) rfl _, hset, hD2⟩
                              case measure => simp [intOf]; omega
                            · have hqu' : ¬ (q : Int) < (u : Int) := by omega
                              go_wp2
                              refine ⟨?rel, ?measure⟩
                              case rel => exact ⟨a + 1, X2, by omega, by omega, by go_num, hKa, hoa, hDa0.out.skip hlt hal (fun _ => by rw [HV.out, HMN.out, HU.out, HR.out]; have := HQ.out; omega)⟩
                              case measure => simp [intOf]; omega
                      · have hle : ¬ (a : Int) ≤ (r : Int) := by omega
                        go_wp2
                        refine ⟨?rel, ?measure⟩
                        case rel => exact ⟨i + 1, X2, by omega, by go_num, hKa, hoa, hDa0.out.row (by omega)⟩
                        case measure => simp [intOf]; omega
                  · obtain rfl : i = n := by omega
                    go_wp2
                    refine ⟨?rel, ?measure⟩
                    case rel =>
                      have hUBn : UB wt i K t s (d + 1 - 1) X1 u := by
                        rw [show d + 1 - 1 = (d - 1) + 1 by omega]
                        exact next_head HC.out.1 HC.out.2 hTot.out hDi0.out (Nat.le_refl _) (by omega) HEND.out
                      have hKall : Keeps (fun b => b = b1 ∨ b = b2) w wr := ((hKr.trans (hKi.mono fun _ _ h => by rcases hcx with h2 | h2; exact .inl (h.trans h2.1); exact .inr (h.trans h2.1))).trans (hKx.mono fun _ _ h => by rcases hcx with h2 | h2; exact .inr (h.trans h2.2); exact .inl (h.trans h2.2))).trans (hKi2.mono fun _ _ h => by rcases hcx with h2 | h2; exact .inr (h.trans h2.2); exact .inl (h.trans h2.2))
                      exact ⟨d + 1, x, c, u, X1, fun z => V1 (z / sd) (z % sd), by omega, by omega, rfl, rfl, rfl, by go_num, by omega, hKall, hoi2, hc3.keep hKi2 (fun h => hcx1 h), hDi0.out.lb, hUBn, by omega, by omega⟩
                    case measure => simp [intOf]; omega
        · have hub' : ¬ (u : Int) < (best : Int) := by omega
          have HEND : Hid ((0 < s (d - 1 + 1) ∧ V1 (i - s (d - 1 + 1)) (s (d - 1) + s (d - 1 + 1) - t (d - 1)) ≤ psum (fun e => psum wt (s e)) (d - 1 + 1)) ∨ best ≤ psum (fun e => psum wt (s e)) K) := by
            rw [Nat.min_eq_right (by omega)] at hend; exact hend
          clear hend
          obtain ⟨n, rfl⟩ : ∃ n, n = i := ⟨i, rfl⟩
          by_cases hdk : d = K
          · have hdb : ((d : Int) == (K : Int)) = true := by simp [hdk]
            have hfin : best ≤ psum (fun e => psum wt (s e)) K := by
              rcases HEND.out with ⟨h0, _⟩ | h0
              · rw [show d - 1 + 1 = K by omega, HC.out.2] at h0; omega
              · exact h0
            have HFIN : Hid (best ≤ psum (fun e => psum wt (s e)) K) := hfin
            clear hfin
            go_wp2
            conv => arg 2; whnf
            go_wp2
            go_ret
            refine ⟨best, rfl, by omega, HFIN.out, ?_⟩
            have h0 := hKw.size
            have h1 := hKr.size
            exact ⟨hKi.os.trans (hKr.os.trans hKw.os), hKi.tape.trans (hKr.tape.trans hKw.tape), hKi.output.trans (hKr.output.trans hKw.output), by have := hKi.size; omega, fun i hi _ => (hKi.block i (by omega) (by show ¬ i = c; omega)).trans ((hKr.block i (by omega) (by show ¬ (i = b1 ∨ i = b2); omega)).trans (hKw.block i hi (fun h => h)))⟩
          · have hdb : ((d : Int) == (K : Int)) = false := by simp; omega
            have hoxi := hox.keep hKi (fun h => hcx1 h.symm)
            obtain ⟨wp, rfl⟩ : ∃ wp, wp = wr := ⟨wr, rfl⟩
            go_wp2
            go_loopw [18] (fun v18 wr2 => ∃ (k : Nat) (X1 : Nat → Nat), k ≤ S ∧ v18 = .int .i64 k ∧ Keeps (fun b => b = x) wp wr2 ∧ Own wr2 x S (fun z => .int .u64 (X1 z : Nat)) ∧ ∀ z, z < k → X1 z = 18446744073709551615) (fun v18 _ => S - (intOf v18).toNat)
            case atStart => exact ⟨0, X, Nat.zero_le _, rfl, Keeps.refl _ _, hoxi, fun z hz => absurd hz (Nat.not_lt_zero _)⟩
            case round =>
              obtain ⟨k, X1, hk, rfl, hKx, hx1, hXk⟩ := hrel
              have HXK : Hid (∀ z, z < k → X1 z = 18446744073709551615) := hXk
              clear hXk
              by_cases hlt : k < S
              · have c2 := hx1.cell k hlt
                have f2 := hx1.free k
                go_wp2
                refine ⟨?rel, ?measure⟩
                case rel =>
                  refine ⟨k + 1, updF X1 k 18446744073709551615, by omega, by go_num, hKx.setCell (p := ⟨x, k, none⟩) rfl _, (hx1.set hlt _).congr fun j _ => ?_, fun z hz => ?_⟩
                  · unfold updV updF; split <;> rfl
                  · unfold updF
                    by_cases h : z = k
                    · rw [if_pos h]
                    · rw [if_neg h]; exact HXK.out z (by omega)
                case measure => simp [intOf]; omega
              · obtain rfl : k = S := by omega
                have hx3 : Own wr x k (tabV sd (fun _ _ => INF)) := hx1.congr fun j hj => by rw [HXK.out j hj]; rfl
                have hc3 := hoi.keep hKx (fun h => hcx1 h)
                have hr3 := ((hr.keep hKr (fun h => by rcases h with h | h; exact hr1 h; exact hr2 h)).keep hKi (fun h => by omega)).keep hKx (fun h => by omega)
                have hD0 : Dwn wt n OPT (K - (d + 1)) ((d + 1) * psum wt n) V1 (fun _ _ => INF) 0 1 := Dwn.start fun _ _ => rfl
                have HD0 : Hid (Dwn wt n OPT (K - (d + 1)) ((d + 1) * psum wt n) V1 (fun _ _ => INF) 0 1) := hD0
                have HLBA : Hid (LBs wt n OPT (K - (d + 1) + 1) (d * psum wt n) V1) := by have := HPI.out.lb; rw [show K - d = K - (d + 1) + 1 by omega] at this; exact this
                have HBW : Hid (d * psum wt n + psum wt n ≤ (d + 1) * psum wt n) := by show _ ≤ _; rw [Nat.add_mul, Nat.one_mul]; exact Nat.le_refl _
                have HBI : Hid ((d + 1) * psum wt n < INF) := by
                  have h5 := Nat.mul_le_mul (show d + 1 ≤ 21 by omega) (Nat.le_of_lt hW.out)
                  have h6 : (21 : Nat) * 2 ^ 50 < INF := by unfold INF; decide
                  exact Nat.lt_of_le_of_lt h5 h6
                have HBV : Hid (d * psum wt n ≤ 22517998136852480) := Nat.mul_le_mul (show d ≤ 20 by omega) (show psum wt n ≤ 1125899906842624 from Nat.le_of_lt hW.out)
                clear hx1 hoi hD0 hoxi hox
                obtain ⟨wz, rfl⟩ : ∃ wz, wz = wr := ⟨wr, rfl⟩
                go_wp2
                go_loopw [19] (fun v19 wr2 => ∃ (i : Nat) (X1 : Tab), i ≤ n ∧ v19 = .int .i64 i ∧ Keeps (fun b => b = x) wz wr2 ∧ Own wr2 x k (tabV sd X1) ∧ Dwn wt n OPT (K - (d + 1)) ((d + 1) * psum wt n) V1 X1 i 1) (fun v19 _ => n - (intOf v19).toNat)
                case atStart => exact ⟨0, _, Nat.zero_le _, rfl, Keeps.refl _ _, hx3, HD0.out⟩
                case round =>
                  obtain ⟨i, X1, hi, rfl, hKi2, hoi2, hDi⟩ := hrel
                  have hDi0 : Hid (Dwn wt n OPT (K - (d + 1)) ((d + 1) * psum wt n) V1 X1 i 1) := hDi
                  clear hDi
                  by_cases hlt : i < n
                  · obtain ⟨m0, hm0⟩ : ∃ m0, i * sd = m0 := ⟨_, rfl⟩
                    have hrow := row_low HSD.out HSS.out hlt
                    rw [hm0] at hrow
                    have HM0 : Hid (i * sd = m0) := hm0
                    have e0 : (i : Int) * (sd : Int) = (m0 : Int) := by rw [← hm0, Int.natCast_mul]
                    obtain ⟨r, hre⟩ : ∃ r, n - i = r := ⟨_, rfl⟩
                    have er : (n : Int) - (i : Int) = (r : Int) := by omega
                    have hr9a : r ≤ n - i := by omega
                    have hr9b : n - i ≤ r := by omega
                    clear hm0 hre
                    obtain ⟨wi, rfl⟩ : ∃ wi, wi = wr := ⟨wr, rfl⟩
                    go_wp2
                    go_loopw [20] (fun v20 wr3 => ∃ (a : Nat) (X2 : Tab), 1 ≤ a ∧ a ≤ n - i + 1 ∧ v20 = .int .i64 a ∧ Keeps (fun b => b = x) wz wr3 ∧ Own wr3 x k (tabV sd X2) ∧ Dwn wt n OPT (K - (d + 1)) ((d + 1) * psum wt n) V1 X2 i a) (fun v20 _ => n + 2 - (intOf v20).toNat)
                    case atStart => exact ⟨1, X1, Nat.le_refl _, by omega, rfl, hKi2, hoi2, hDi0.out⟩
                    case round =>
                      obtain ⟨a, X2, ha1, ha2, rfl, hKa, hoa, hDa⟩ := hrel
                      have hDa0 : Hid (Dwn wt n OPT (K - (d + 1)) ((d + 1) * psum wt n) V1 X2 i a) := hDa
                      clear hDa
                      by_cases hal : i + a ≤ n
                      · have hv := tab_cell (hc3.keep hKa (fun h => hcx1 h)) (i := i) (a := a) (by omega) HM0.out (by omega)
                        have hrr := (hr3.keep hKa (fun h => by omega)).cell i (by omega)
                        obtain ⟨x0, hx0⟩ : ∃ x0, m0 + a = x0 := ⟨_, rfl⟩
                        rw [hx0] at hv
                        have ex : (m0 : Int) + (a : Int) = (x0 : Int) := by omega
                        have hxS : x0 < k := by omega
                        have hlb := HLBA.out i a hal
                        have hle : (a : Int) ≤ (r : Int) := by omega
                        obtain ⟨v, hve⟩ : ∃ v, V1 i a = v := ⟨_, rfl⟩
                        have HV : Hid (V1 i a = v) := hve
                        rw [hve] at hv hlb
                        obtain ⟨R, hRe⟩ : ∃ R, psum wt (n - i) = R := ⟨_, rfl⟩
                        have HR : Hid (psum wt (n - i) = R) := hRe
                        rw [hRe] at hrr
                        have hRb : R ≤ 1125899906842624 := by
                          have h5 := psum_mono (f := wt) (a := n - i) (b := n) (by omega)
                          rw [hRe] at h5
                          exact Nat.le_trans h5 (Nat.le_of_lt hW.out)
                        have hvI : v ≤ 18446744073709551615 := hlb.1
                        have hvB : v < 18446744073709551615 → v ≤ 22517998136852480 := fun h => Nat.le_trans (hlb.2 h).2 HBV.out
                        have HVB : Hid (v < 18446744073709551615 → v ≤ 22517998136852480) := hvB
                        clear hx0 hve hlb hRe hvB
                        by_cases hvv : v = 18446744073709551615
                        · subst hvv
                          go_wp2
                          go_roundw
                          case rel => exact ⟨a + 1, X2, by omega, by omega, by go_num, hKa, hoa, hDa0.out.skip hlt hal (fun h => by rw [HV.out] at h; exact absurd h (Nat.lt_irrefl _))⟩
                          case measure => simp [intOf]; omega
                        · have hvb : ((v : Int) == 18446744073709551615) = false := by simp; omega
                          have hv2 := HVB.out (by omega)
                          obtain ⟨q, hq⟩ : ∃ q, v + R = q := ⟨_, rfl⟩
                          have HQ : Hid (v + R = q) := hq
                          have eq : (v : Int) + (R : Int) = (q : Int) := by omega
                          have hqb : q ≤ 23643898043695104 := by omega
                          obtain ⟨a2, ha2e⟩ : ∃ a2, 2 * a = a2 := ⟨_, rfl⟩
                          have ea : 2 * (a : Int) = (a2 : Int) := by omega
                          have ha2a : a2 ≤ 2 * a := by omega
                          have ha2b : 2 * a ≤ a2 := by omega
                          clear hq ha2e
                          by_cases hbig : a2 > r
                          · have hbg : (a2 : Int) > (r : Int) := by omega
                            obtain ⟨y, hy⟩ : ∃ y, m0 + r = y := ⟨_, rfl⟩
                            have hu := tab_cell hoa (i := i) (a := r) (by omega) HM0.out (by omega)
                            have HMN : Hid (min (2 * a) (n - i) = r) := by show min (2 * a) (n - i) = r; omega
                            rw [hy] at hu
                            have ey : (m0 : Int) + (r : Int) = (y : Int) := by omega
                            have HY : Hid (m0 + r = y) := hy
                            have hyS : y < k := by omega
                            have hfr := hoa.free y
                            have huI0 := (hDa0.out.lb i r (by omega)).1
                            obtain ⟨u, hue⟩ : ∃ u, X2 i r = u := ⟨_, rfl⟩
                            have HU : Hid (X2 i r = u) := hue
                            rw [hue] at hu huI0
                            have huI : u ≤ 18446744073709551615 := huI0
                            clear hy hue huI0
                            by_cases hqu : q < u
                            · have hqu' : (q : Int) < (u : Int) := by omega
                              go_wp2
                              refine ⟨?rel, ?measure⟩
                              case rel =>
                                have hset := tab_set hoa (i := i) (a := r) (by omega) HM0.out (by omega) q
                                rw [HY.out] at hset
                                have hD2 := hDa0.out.put hw.out HLBA.out HBW.out HBI.out hlt ha1 hal (by rw [HV.out]; unfold INF; omega) (by rw [HV.out, HMN.out, HU.out, HR.out]; have := HQ.out; omega)
                                rw [HV.out, HMN.out, HR.out, HQ.out] at hD2
                                exact ⟨a + 1, updT X2 i r q, by omega, by omega, by go_num, hKa.setCell (p := ⟨x, y, none⟩) rfl _, hset, hD2⟩
                              case measure => simp [intOf]; omega
                            · have hqu' : ¬ (q : Int) < (u : Int) := by omega
                              go_wp2
                              refine ⟨?rel, ?measure⟩
                              case rel => exact ⟨a + 1, X2, by omega, by omega, by go_num, hKa, hoa, hDa0.out.skip hlt hal (fun _ => by rw [HV.out, HMN.out, HU.out, HR.out]; have := HQ.out; omega)⟩
                              case measure => simp [intOf]; omega
                          · have hbg : ¬ (a2 : Int) > (r : Int) := by omega
                            obtain ⟨y, hy⟩ : ∃ y, m0 + a2 = y := ⟨_, rfl⟩
                            have hu := tab_cell hoa (i := i) (a := a2) (by omega) HM0.out (by omega)
                            have HMN : Hid (min (2 * a) (n - i) = a2) := by show min (2 * a) (n - i) = a2; omega
                            rw [hy] at hu
                            have ey : (m0 : Int) + (a2 : Int) = (y : Int) := by omega
                            have HY : Hid (m0 + a2 = y) := hy
                            have hyS : y < k := by omega
                            have hfr := hoa.free y
                            have huI0 := (hDa0.out.lb i a2 (by omega)).1
                            obtain ⟨u, hue⟩ : ∃ u, X2 i a2 = u := ⟨_, rfl⟩
                            have HU : Hid (X2 i a2 = u) := hue
                            rw [hue] at hu huI0
                            have huI : u ≤ 18446744073709551615 := huI0
                            clear hy hue huI0
                            by_cases hqu : q < u
                            · have hqu' : (q : Int) < (u : Int) := by omega
                              go_wp2
                              refine ⟨?rel, ?measure⟩
                              case rel =>
                                have hset := tab_set hoa (i := i) (a := a2) (by omega) HM0.out (by omega) q
                                rw [HY.out] at hset
                                have hD2 := hDa0.out.put hw.out HLBA.out HBW.out HBI.out hlt ha1 hal (by rw [HV.out]; unfold INF; omega) (by rw [HV.out, HMN.out, HU.out, HR.out]; have := HQ.out; omega)
                                rw [HV.out, HMN.out, HR.out, HQ.out] at hD2
                                exact ⟨a + 1, updT X2 i a2 q, by omega, by omega, by go_num, hKa.setCell (p := ⟨x, y, none⟩) rfl _, hset, hD2⟩
                              case measure => simp [intOf]; omega
                            · have hqu' : ¬ (q : Int) < (u : Int) := by omega
                              go_wp2
                              refine ⟨?rel, ?measure⟩
                              case rel => exact ⟨a + 1, X2, by omega, by omega, by go_num, hKa, hoa, hDa0.out.skip hlt hal (fun _ => by rw [HV.out, HMN.out, HU.out, HR.out]; have := HQ.out; omega)⟩
                              case measure => simp [intOf]; omega
                      · have hle : ¬ (a : Int) ≤ (r : Int) := by omega
                        go_wp2
                        refine ⟨?rel, ?measure⟩
                        case rel => exact ⟨i + 1, X2, by omega, by go_num, hKa, hoa, hDa0.out.row (by omega)⟩
                        case measure => simp [intOf]; omega
                  · obtain rfl : i = n := by omega
                    go_wp2
                    refine ⟨?rel, ?measure⟩
                    case rel =>
                      have hUBn : UB wt i K t s (d + 1 - 1) X1 best := by
                        rw [show d + 1 - 1 = (d - 1) + 1 by omega]
                        exact next_head HC.out.1 HC.out.2 hTot.out hDi0.out (Nat.le_refl _) (by omega) HEND.out
                      have hKall : Keeps (fun b => b = b1 ∨ b = b2) w wr := ((hKr.trans (hKi.mono fun _ _ h => by rcases hcx with h2 | h2; exact .inl (h.trans h2.1); exact .inr (h.trans h2.1))).trans (hKx.mono fun _ _ h => by rcases hcx with h2 | h2; exact .inr (h.trans h2.2); exact .inl (h.trans h2.2))).trans (hKi2.mono fun _ _ h => by rcases hcx with h2 | h2; exact .inr (h.trans h2.2); exact .inl (h.trans h2.2))
                      exact ⟨d + 1, x, c, best, X1, fun z => V1 (z / sd) (z % sd), by omega, by omega, rfl, rfl, rfl, by go_num, by omega, hKall, hoi2, hc3.keep hKi2 (fun h => hcx1 h), hDi0.out.lb, hUBn, by omega, by omega⟩
                    case measure => simp [intOf]; omega

end Go.Proofs.Qxb6617947a
