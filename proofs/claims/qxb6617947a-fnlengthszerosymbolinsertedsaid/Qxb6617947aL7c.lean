import Derived.Test.Qxb6617947aRl
import Derived.Test.Qxb6617947aCb
/-! FnLengthsZeroSymbolInserted: the compare. -/
namespace Go.Proofs.Qxb6617947a
open Go.RowKit
set_option linter.unusedVariables false
set_option linter.unusedSimpArgs false
set_option maxHeartbeats 4000000 in
set_option maxRecDepth 100000 in
theorem l7c2 {w0 : World} {ab bb L p : Nat} {A B : Nat → Nat} {x0 x1 x2 x4 x5 x6 x7 x8 x9 x10 x12 x13 x14 x16 x17 x18 x19 x20 x21 x22 x23 x24 x25 x26 x27 x28 x29 x30 x31 x32 x33 x34 x35 x36 x37 x38 x39 x40 x41 x42 x43 x44 x45 x46 x47 x48 x49 x50 x51 x52 x53 x54 x55 x56 x57 x58 x59 x60 x61 x62 x63 x64 x65 x66 x67 x68 x69 x70 x71 x72 x73 x74 x75 x76 x77 x78 x79 x80 x81 x82 x83 x84 x85 x86 x87 x88 x89 x90 x91 x92 x93 x94 x95 x96 x97 x98 x99 x100 x101 x102 x103 x104 x105 x106 x107 x108 x109 x110 x111 x112 x113 x114 x115 x116 x117 x118 x119 x120 x121 x122 x123 x124 x125 x126 x127 x128 x129 x130 x131 x132 x133 x134 x135 x136 x137 x138 x139 x140 x141 x142 x143 x144 x145 x146 x147 x148 x149 x150 x151 x152 x153 x154 x155 x156 x157 x158 x159 x160 x161 x162 x163 x164 x165 x166 x167 x168 x169 x170 x171 x172 x173 x174 x175 x176 x177 x178 x179 x180 x181 x182 x183 x184 x185 x186 : Value} {w : World}
    (hKw : Keeps Nob w0 w) (ha : Own w ab L (fun j => .int .u8 (A j : Nat))) (hb : Own w bb (L + 1) (fun j => .int .u8 (B j : Nat))) (hL : L ≤ 65536) (hpL : p ≤ L) (hA1 : Hid (∀ x, x < p → B x = A x)) (hA2 : Hid (B p = 0)) (hA3 : Hid (∀ x, p ≤ x → B (x + 1) = A x)) :
    Code.wp Try.prog (tailF Try.f7 49) (bodyPost Try.prog Try.f7 fun e w' => e = .returned (.bool true) ∧ Keeps Nob w0 w') ⟨#[x0, x1, x2, .int .i64 (p : Nat), x4, x5, x6, x7, x8, x9, x10, .slice (some ⟨ab, 0, none⟩) L L, x12, x13, x14, .slice (some ⟨bb, 0, none⟩) (L + 1) (L + 1), x16, x17, x18, x19, x20, x21, x22, x23, x24, x25, x26, x27, x28, x29, x30, x31, x32, x33, x34, x35, x36, x37, x38, x39, x40, x41, x42, x43, x44, x45, x46, x47, x48, x49, x50, x51, x52, x53, x54, x55, x56, x57, x58, x59, x60, x61, x62, x63, x64, x65, x66, x67, x68, x69, x70, x71, x72, x73, x74, x75, x76, x77, x78, x79, x80, x81, x82, x83, x84, x85, x86, x87, x88, x89, x90, x91, x92, x93, x94, x95, x96, x97, x98, x99, x100, x101, x102, x103, x104, x105, x106, x107, x108, x109, x110, x111, x112, x113, x114, x115, x116, x117, x118, x119, x120, x121, x122, x123, x124, x125, x126, x127, x128, x129, x130, x131, x132, x133, x134, x135, x136, x137, x138, x139, x140, x141, x142, x143, x144, x145, x146, x147, x148, x149, x150, x151, x152, x153, x154, x155, x156, x157, x158, x159, x160, x161, x162, x163, x164, x165, x166, x167, x168, x169, x170, x171, x172, x173, x174, x175, x176, x177, x178, x179, x180, x181, x182, x183, x184, x185, x186], []⟩ w := by
  rw [tail7_49]
  go_wp2
  conv => arg 2; whnf
  have c0 := hb.cell p (by omega)
  rw [hA2.out] at c0
  have hp1 : (0 : Int) ≤ (p : Int) := by omega
  have hp2 : (p : Int) < (L : Int) + 1 := by omega
  go_wp2
  rw [tail7_51]
  go_wp2
  conv => arg 2; whnf
  go_wp2
  go_loopw [19] (fun v19 wr => ∃ (k : Nat), p ≤ k ∧ k ≤ L ∧ v19 = .int .i64 k ∧ Keeps Nob w wr) (fun v19 _ => L - (intOf v19).toNat)
  case atStart => exact ⟨p, Nat.le_refl _, hpL, rfl, Keeps.refl _ _⟩
  case round =>
    obtain ⟨k, hpk, hk, rfl, hKr⟩ := hrel
    by_cases hlt : k < L
    · have c1 := (ha.keep hKr (fun h => h)).cell k hlt
      have c2 := (hb.keep hKr (fun h => h)).cell (k + 1) (by omega)
      rw [hA3.out k hpk] at c2
      obtain ⟨v, hv⟩ : ∃ v, A k = v := ⟨_, rfl⟩
      rw [hv] at c1 c2
      clear hv c0
      have hvv : ((v : Int) != (v : Int)) = false := by simp
      have hk1 : (0 : Int) ≤ (k : Int) := by omega
      have hk2 : (k : Int) < (L : Int) := by omega
      go_wp2
      go_quiet (fail)
      go_wp2
      refine ⟨?rel, ?measure⟩
      case rel => exact ⟨k + 1, by omega, by omega, by go_num, hKr.drewN _⟩
      case measure => simp [intOf]; omega
    · obtain rfl : k = L := by omega
      go_wp2
      conv => arg 2; whnf
      go_wp2
      go_ret
      exact ⟨rfl, hKw.trans hKr⟩
set_option maxHeartbeats 4000000 in
set_option maxRecDepth 100000 in
theorem l7c1 {w0 : World} {ab bb L p : Nat} {A B : Nat → Nat} {x0 x1 x2 x4 x5 x6 x7 x8 x9 x10 x12 x13 x14 x16 x17 x18 x19 x20 x21 x22 x23 x24 x25 x26 x27 x28 x29 x30 x31 x32 x33 x34 x35 x36 x37 x38 x39 x40 x41 x42 x43 x44 x45 x46 x47 x48 x49 x50 x51 x52 x53 x54 x55 x56 x57 x58 x59 x60 x61 x62 x63 x64 x65 x66 x67 x68 x69 x70 x71 x72 x73 x74 x75 x76 x77 x78 x79 x80 x81 x82 x83 x84 x85 x86 x87 x88 x89 x90 x91 x92 x93 x94 x95 x96 x97 x98 x99 x100 x101 x102 x103 x104 x105 x106 x107 x108 x109 x110 x111 x112 x113 x114 x115 x116 x117 x118 x119 x120 x121 x122 x123 x124 x125 x126 x127 x128 x129 x130 x131 x132 x133 x134 x135 x136 x137 x138 x139 x140 x141 x142 x143 x144 x145 x146 x147 x148 x149 x150 x151 x152 x153 x154 x155 x156 x157 x158 x159 x160 x161 x162 x163 x164 x165 x166 x167 x168 x169 x170 x171 x172 x173 x174 x175 x176 x177 x178 x179 x180 x181 x182 x183 x184 x185 x186 : Value} {w : World}
    (hKw : Keeps Nob w0 w) (ha : Own w ab L (fun j => .int .u8 (A j : Nat))) (hb : Own w bb (L + 1) (fun j => .int .u8 (B j : Nat))) (hL : L ≤ 65536) (hpL : p ≤ L) (hA1 : Hid (∀ x, x < p → B x = A x)) (hA2 : Hid (B p = 0)) (hA3 : Hid (∀ x, p ≤ x → B (x + 1) = A x)) :
    Code.wp Try.prog (tailF Try.f7 44) (bodyPost Try.prog Try.f7 fun e w' => e = .returned (.bool true) ∧ Keeps Nob w0 w') ⟨#[x0, x1, x2, .int .i64 (p : Nat), x4, x5, x6, x7, x8, x9, x10, .slice (some ⟨ab, 0, none⟩) L L, x12, x13, x14, .slice (some ⟨bb, 0, none⟩) (L + 1) (L + 1), x16, x17, x18, x19, x20, x21, x22, x23, x24, x25, x26, x27, x28, x29, x30, x31, x32, x33, x34, x35, x36, x37, x38, x39, x40, x41, x42, x43, x44, x45, x46, x47, x48, x49, x50, x51, x52, x53, x54, x55, x56, x57, x58, x59, x60, x61, x62, x63, x64, x65, x66, x67, x68, x69, x70, x71, x72, x73, x74, x75, x76, x77, x78, x79, x80, x81, x82, x83, x84, x85, x86, x87, x88, x89, x90, x91, x92, x93, x94, x95, x96, x97, x98, x99, x100, x101, x102, x103, x104, x105, x106, x107, x108, x109, x110, x111, x112, x113, x114, x115, x116, x117, x118, x119, x120, x121, x122, x123, x124, x125, x126, x127, x128, x129, x130, x131, x132, x133, x134, x135, x136, x137, x138, x139, x140, x141, x142, x143, x144, x145, x146, x147, x148, x149, x150, x151, x152, x153, x154, x155, x156, x157, x158, x159, x160, x161, x162, x163, x164, x165, x166, x167, x168, x169, x170, x171, x172, x173, x174, x175, x176, x177, x178, x179, x180, x181, x182, x183, x184, x185, x186], []⟩ w := by
  rw [tail7_44]
  go_wp2
  conv => arg 2; whnf
  go_wp2
  go_loopw [18] (fun v18 wr => ∃ (k : Nat), k ≤ p ∧ v18 = .int .i64 k ∧ Keeps Nob w wr) (fun v18 _ => p - (intOf v18).toNat)
  case atStart => exact ⟨0, Nat.zero_le _, rfl, Keeps.refl _ _⟩
  case round =>
    obtain ⟨k, hk, rfl, hKr⟩ := hrel
    by_cases hlt : k < p
    · have c1 := (ha.keep hKr (fun h => h)).cell k (by omega)
      have c2 := (hb.keep hKr (fun h => h)).cell k (by omega)
      rw [hA1.out k hlt] at c2
      obtain ⟨v, hv⟩ : ∃ v, A k = v := ⟨_, rfl⟩
      rw [hv] at c1 c2
      clear hv
      have hvv : ((v : Int) != (v : Int)) = false := by simp
      have hk1 : (0 : Int) ≤ (k : Int) := by omega
      have hk2 : (k : Int) < (L : Int) := by omega
      have hk3 : (k : Int) < (p : Int) := by omega
      go_wp2
      go_quiet (fail)
      go_wp2
      refine ⟨?rel, ?measure⟩
      case rel => exact ⟨k + 1, by omega, by go_num, hKr.drewN _⟩
      case measure => simp [intOf]; omega
    · obtain rfl : k = p := by omega
      go_wp2
      exact l7c2 (hKw.trans hKr) (ha.keep hKr (fun h => h)) (hb.keep hKr (fun h => h)) hL hpL hA1 hA2 hA3

end Go.Proofs.Qxb6617947a
