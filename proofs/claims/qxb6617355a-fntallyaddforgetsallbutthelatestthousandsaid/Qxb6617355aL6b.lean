import Derived.Test.Qxb6617355aL6c
/-! FnTallyAddForgetsAllButTheLatestThousand: the count. -/
namespace Go.Proofs.Qxb6617355a
open Go.RowKit

def ones (O : Nat → Bool) (l j : Nat) : Nat := ((List.range j).filter fun k => O (l - 1 - k)).length
theorem ones_succ (O : Nat → Bool) (l j : Nat) : ones O l (j + 1) = ones O l j + if O (l - 1 - j) = true then 1 else 0 := by
  unfold ones
  rw [List.range_succ, List.filter_append, List.length_append]
  cases h : O (l - 1 - j) <;> simp [h]
theorem ones_le (O : Nat → Bool) (l j : Nat) : ones O l j ≤ j := by
  unfold ones
  exact Nat.le_trans (List.length_filter_le _ _) (by simp)
set_option maxHeartbeats 4000000 in
set_option maxRecDepth 100000 in
theorem law6b {w0 : World} {ao : Option Addr} {l co ga gb na nb lo n2 : Nat} {cnt : Int} {A B : Nat → Nat} {O : Nat → Bool} {x0 x1 x3 x5 x6 x7 x8 x9 x10 x19 x20 x21 x22 x23 x24 x25 x26 x27 x28 x29 x30 x31 x32 x33 x34 x35 x36 x37 x38 x39 x40 x41 x42 x43 x44 x45 x46 x47 x48 x49 x50 x51 x52 x53 x54 x55 x56 x57 x58 x59 x60 x61 x62 x63 x64 x65 x66 x67 x68 x69 x70 x71 x72 x73 x74 x75 x76 x77 x78 x79 x80 x81 x82 x83 x84 x85 x86 x87 x88 x89 x90 x91 x92 x93 x94 x95 x96 x97 x98 x99 x100 x101 x102 x103 x104 x105 x106 x107 x108 x109 x110 x111 x112 x113 x114 x115 x116 x117 x118 x119 x120 x121 x122 x123 x124 x125 x126 x127 x128 x129 x130 x131 x132 x133 x134 x135 x136 x137 x138 x139 x140 x141 x142 x143 x144 x145 x146 x147 x148 x149 x150 x151 x152 x153 x154 x155 x156 x157 x158 x159 x160 x161 x162 x163 x164 x165 x166 x167 x168 x169 x170 x171 x172 x173 x174 x175 x176 x177 x178 x179 x180 x181 x182 x183 x184 x185 x186 : Value} {w : World}
    (hKw : Keeps Nob w0 w) (hO : SlF Value.bool w 0 lo ao l O) (hlo : lo ≤ w.heap.size) (hl : 1000 ≤ l) (hl2 : l ≤ 1048576) (hn2 : n2 < 1000) (hcnt : Hid (cnt = (ones O l 1000 : Nat)))
    (ena : Hid (na = (n2 + l) % 1000)) (enb : Hid (nb = l % 1000))
    (hA : w.rangeAt ga 0 (cellsB A)) (hB : w.rangeAt gb 0 (cellsB B)) (hga : ga < w.heap.size) (hgb : gb < w.heap.size) (hna : na < 1000) (hnb : nb < 1000)
    (bA : Hid (∀ i, A i < 18446744073709551616)) (bB : Hid (∀ i, B i < 18446744073709551616))
    (tA : Hid (∀ j, j < 1000 → O (l - 1 - j) = bit A ((na + 1999 - j) % 1000))) (tB : Hid (∀ j, j < 1000 → O (l - 1 - j) = bit B ((nb + 1999 - j) % 1000))) :
    Code.wp Try.prog (tailF Try.f6 21) (bodyPost Try.prog Try.f6 fun e w' => e = .returned (.bool true) ∧ Keeps Nob w0 w') ⟨#[x0, x1, .int .i64 (n2 : Nat), x3, .slice ao l co, x5, x6, x7, x8, x9, x10, .pointer (some ⟨ga, 0, none⟩), .int .i64 1000, .int .i64 (na : Nat), .int .i64 cnt, .pointer (some ⟨gb, 0, none⟩), .int .i64 1000, .int .i64 (nb : Nat), .int .i64 cnt, x19, x20, x21, x22, x23, x24, x25, x26, x27, x28, x29, x30, x31, x32, x33, x34, x35, x36, x37, x38, x39, x40, x41, x42, x43, x44, x45, x46, x47, x48, x49, x50, x51, x52, x53, x54, x55, x56, x57, x58, x59, x60, x61, x62, x63, x64, x65, x66, x67, x68, x69, x70, x71, x72, x73, x74, x75, x76, x77, x78, x79, x80, x81, x82, x83, x84, x85, x86, x87, x88, x89, x90, x91, x92, x93, x94, x95, x96, x97, x98, x99, x100, x101, x102, x103, x104, x105, x106, x107, x108, x109, x110, x111, x112, x113, x114, x115, x116, x117, x118, x119, x120, x121, x122, x123, x124, x125, x126, x127, x128, x129, x130, x131, x132, x133, x134, x135, x136, x137, x138, x139, x140, x141, x142, x143, x144, x145, x146, x147, x148, x149, x150, x151, x152, x153, x154, x155, x156, x157, x158, x159, x160, x161, x162, x163, x164, x165, x166, x167, x168, x169, x170, x171, x172, x173, x174, x175, x176, x177, x178, x179, x180, x181, x182, x183, x184, x185, x186], []⟩ w := by
  rw [tail6_21]
  go_wp2
  conv => arg 2; whnf
  go_wp2
  rw [tail6_22]
  go_wp2
  conv => arg 2; whnf
  go_wp2
  rw [tail6_23]
  go_wp2
  conv => arg 2; whnf
  go_wp2
  go_loopw [21, 22] (fun c v wr => ∃ j : Nat, j ≤ 1000 ∧ v = .int .i64 j ∧ c = .int .i64 (ones O l j : Nat) ∧ wr = w) (fun _ v _ => 1000 - (intOf v).toNat)
  case atStart => exact ⟨0, Nat.zero_le _, rfl, rfl, rfl⟩
  case round =>
    obtain ⟨j, hj, rfl, rfl, hwr⟩ := hrel
    obtain rfl : w = wr := hwr.symm
    have hon := ones_le O l j
    by_cases hlt : j < 1000
    · have hs1 := ones_succ O l j
      obtain ⟨bo, oo, rfl, -, hbo, hOc⟩ := hO (by omega)
      have hx := hOc (l - 1 - j) (by omega)
      obtain ⟨x, hxe⟩ : ∃ x, O (l - 1 - j) = x := ⟨_, rfl⟩
      rw [hxe] at hx hs1
      obtain ⟨c, hc⟩ : ∃ c, ones O l j = c := ⟨_, rfl⟩
      rw [hc] at hs1 hon
      rw [hc]
      have HS : Hid (_ = _) := hs1
      have hi0 : (0 : Int) ≤ (l : Int) - 1 - (j : Int) := by omega
      have hi3 : (l : Int) - 1 - (j : Int) < (l : Int) := by omega
      clear hs1 hxe hc hOc
      cases x
      all_goals
        go_wp2
        refine ⟨?rel, ?measure⟩
        case rel => exact ⟨j + 1, by omega, by go_num, by rw [HS.out]; rfl, trivial⟩
        case measure => simp [intOf]; omega
    · have hj2 : j = 1000 := by omega
      subst hj2
      go_wp2
      rw [← hcnt.out]
      rw [tail6_28]
      go_wp2
      conv => arg 2; whnf
      go_wp2
      rw [tail6_30]
      go_wp2
      conv => arg 2; whnf
      have hb1 : ((na : Int) != ((n2 : Int) + (l : Int)) % 1000) = false := by have := ena.out; simp; omega
      have hb2 : ((nb : Int) != (l : Int) % 1000) = false := by have := enb.out; simp; omega
      go_wp2
      exact law6c hKw hO hlo hl hl2 hA hB hga hgb hna hnb bA bB tA tB

end Go.Proofs.Qxb6617355a
