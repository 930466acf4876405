import Derived.Test.Qxb6617355aL6y
/-! FnTallyAddForgetsAllButTheLatestThousand: what comes in. -/
namespace Go.Proofs.Qxb6617355a
open Go.RowKit
set_option maxHeartbeats 4000000 in
set_option maxRecDepth 100000 in
theorem law6z {w0 : World} {ao : Option Addr} {l co : Nat} {N nx cnt : Int} {B0 : Nat → Nat} {O : Nat → Bool} {x5 x6 x7 x8 x9 x10 x11 x12 x13 x14 x15 x16 x17 x18 x19 x20 x21 x22 x23 x24 x25 x26 x27 x28 x29 x30 x31 x32 x33 x34 x35 x36 x37 x38 x39 x40 x41 x42 x43 x44 x45 x46 x47 x48 x49 x50 x51 x52 x53 x54 x55 x56 x57 x58 x59 x60 x61 x62 x63 x64 x65 x66 x67 x68 x69 x70 x71 x72 x73 x74 x75 x76 x77 x78 x79 x80 x81 x82 x83 x84 x85 x86 x87 x88 x89 x90 x91 x92 x93 x94 x95 x96 x97 x98 x99 x100 x101 x102 x103 x104 x105 x106 x107 x108 x109 x110 x111 x112 x113 x114 x115 x116 x117 x118 x119 x120 x121 x122 x123 x124 x125 x126 x127 x128 x129 x130 x131 x132 x133 x134 x135 x136 x137 x138 x139 x140 x141 x142 x143 x144 x145 x146 x147 x148 x149 x150 x151 x152 x153 x154 x155 x156 x157 x158 x159 x160 x161 x162 x163 x164 x165 x166 x167 x168 x169 x170 x171 x172 x173 x174 x175 x176 x177 x178 x179 x180 x181 x182 x183 x184 x185 x186 : Value} {w : World}
    (hw : w = w0) (hB : Hid (∀ i, B0 i < 18446744073709551616)) (hO : SlF Value.bool w0 0 w0.heap.size ao l O) (hl : l ≤ maxLen) :
    Code.wp Try.prog (tailF Try.f6 0) (bodyPost Try.prog Try.f6 fun e w' => e = .returned (.bool true) ∧ Keeps Nob w0 w') ⟨#[aggB B0, .int .i64 N, .int .i64 nx, .int .i64 cnt, .slice ao l co, x5, x6, x7, x8, x9, x10, x11, x12, x13, x14, x15, x16, x17, x18, x19, x20, x21, x22, x23, x24, x25, x26, x27, x28, x29, x30, x31, x32, x33, x34, x35, x36, x37, x38, x39, x40, x41, x42, x43, x44, x45, x46, x47, x48, x49, x50, x51, x52, x53, x54, x55, x56, x57, x58, x59, x60, x61, x62, x63, x64, x65, x66, x67, x68, x69, x70, x71, x72, x73, x74, x75, x76, x77, x78, x79, x80, x81, x82, x83, x84, x85, x86, x87, x88, x89, x90, x91, x92, x93, x94, x95, x96, x97, x98, x99, x100, x101, x102, x103, x104, x105, x106, x107, x108, x109, x110, x111, x112, x113, x114, x115, x116, x117, x118, x119, x120, x121, x122, x123, x124, x125, x126, x127, x128, x129, x130, x131, x132, x133, x134, x135, x136, x137, x138, x139, x140, x141, x142, x143, x144, x145, x146, x147, x148, x149, x150, x151, x152, x153, x154, x155, x156, x157, x158, x159, x160, x161, x162, x163, x164, x165, x166, x167, x168, x169, x170, x171, x172, x173, x174, x175, x176, x177, x178, x179, x180, x181, x182, x183, x184, x185, x186], []⟩ w := by
  subst hw
  unfold maxLen at hl
  rw [tail6_0]
  go_wp2
  conv => arg 2; whnf
  go_wp2
  rw [tail6_1]
  go_wp2
  conv => arg 2; whnf
  have hb := heap_alloc_new w (objB B0)
  by_cases hl1 : l ≤ 1048576
  case neg =>
    go_wp2_with (first | (refine wpList_load_row rfl 30 (.tmp 5) rfl w.heap.size rfl 30 _ _ _ hb Try.underlying30 rfl (by kernel_rfl) ?_) | (go_at_call 16; refine (bytes_big hl1).mono ?_; rintro e w' ⟨rfl, hK⟩))
    go_ret
    exact ⟨rfl, ((Keeps.refl Nob w).alloc _).trans (hK.mono fun _ _ h => h)⟩
  go_wp2_with (first | (refine wpList_load_row rfl 30 (.tmp 5) rfl w.heap.size rfl 30 _ _ _ hb Try.underlying30 rfl (by kernel_rfl) ?_) | (go_at_call 16; refine (bytes_small hl1).mono ?_; rintro e w' ⟨rfl, hK1⟩))
  have hb1 : w'.heap[w.heap.size]? = some (objB B0) := (hK1.block _ (by simp) (fun h => h)).trans hb
  have hK : Keeps Nob w w' := ((Keeps.refl Nob w).alloc _).trans (hK1.mono fun _ _ h => h)
  clear hb hK1
  rw [tail6_3]
  go_wp2
  conv => arg 2; whnf
  go_wp2
  rw [tail6_5]
  go_wp2
  conv => arg 2; whnf
  by_cases hN0 : N < 0
  case pos => go_wp2; go_ret; exact ⟨rfl, hK⟩
  by_cases hN1 : N ≤ 1000
  case neg => go_wp2; go_ret; exact ⟨rfl, hK⟩
  by_cases hx0 : nx < 0
  case pos => go_wp2; go_ret; exact ⟨rfl, hK⟩
  by_cases hx1 : nx < 1000
  case neg => go_wp2; go_ret; exact ⟨rfl, hK⟩
  obtain ⟨n, rfl⟩ : ∃ n : Nat, N = n := ⟨N.toNat, by omega⟩
  obtain ⟨x, rfl⟩ : ∃ x : Nat, nx = x := ⟨nx.toNat, by omega⟩
  clear hN0 hx0
  go_wp2
  rw [tail6_7]
  go_wp2
  conv => arg 2; whnf
  by_cases hf1 : (n : Int) < 1000
  · by_cases hf : x = n
    · subst hf
      have hbb : ((x : Int) != (x : Int)) = false := by simp
      go_wp2
      exact law6y hK hb1 (by omega) (by omega) (fun _ => rfl) hB hO hl1
    · have hbb : ((x : Int) != (n : Int)) = true := by simp; omega
      go_wp2
      go_ret
      exact ⟨rfl, hK⟩
  · go_wp2
    exact law6y hK hb1 (by omega) (by omega) (fun h => absurd h (by omega)) hB hO hl1

end Go.Proofs.Qxb6617355a
