import Derived.Test.Qxb6617947aRl
import Derived.Test.Qxb6617947aCb
/-! FnLengthsScaleInvariant: the compare. -/
namespace Go.Proofs.Qxb6617947a
open Go.RowKit
set_option linter.unusedVariables false
set_option linter.unusedSimpArgs false
set_option maxHeartbeats 4000000 in
set_option maxRecDepth 100000 in
theorem l6c {w0 : World} {fb ab bb m L K : Nat} {F A : Nat → Nat} {x1 x3 x4 x5 x6 x7 x8 x9 x10 x11 x12 x13 x16 x17 x18 x19 x20 x21 x22 x23 x24 x25 x26 x27 x28 x29 x30 x31 x32 x33 x34 x35 x36 x37 x38 x39 x40 x41 x42 x43 x44 x45 x46 x47 x48 x49 x50 x51 x52 x53 x54 x55 x56 x57 x58 x59 x60 x61 x62 x63 x64 x65 x66 x67 x68 x69 x70 x71 x72 x73 x74 x75 x76 x77 x78 x79 x80 x81 x82 x83 x84 x85 x86 x87 x88 x89 x90 x91 x92 x93 x94 x95 x96 x97 x98 x99 x100 x101 x102 x103 x104 x105 x106 x107 x108 x109 x110 x111 x112 x113 x114 x115 x116 x117 x118 x119 x120 x121 x122 x123 : Value} {w : World}
    (hKw : Keeps Nob w0 w) (hf : Own w fb m (fun j => .int .u32 (F j : Nat))) (ha : Own w ab L (fun j => .int .u8 (A j : Nat))) (hb : Own w bb L (fun j => .int .u8 (A j : Nat)))
    (hm : m ≤ 512) (hmL : m ≤ L) (hK : 1 ≤ K) (hK2 : K ≤ 20) (hL : L ≤ 65536) (hC : Hid (Complete F A m K)) :
    Code.wp Try.prog (tailF Try.f6 34) (bodyPost Try.prog Try.f6 fun e w' => e = .returned (.bool true) ∧ Keeps Nob w0 w') ⟨#[.slice (some ⟨fb, 0, none⟩) m m, x1, .int .i64 (K : Nat), x3, x4, x5, x6, x7, x8, x9, x10, x11, x12, x13, .slice (some ⟨ab, 0, none⟩) L L, .slice (some ⟨bb, 0, none⟩) L L, x16, x17, x18, x19, x20, x21, x22, x23, x24, x25, x26, x27, x28, x29, x30, x31, x32, x33, x34, x35, x36, x37, x38, x39, x40, x41, x42, x43, x44, x45, x46, x47, x48, x49, x50, x51, x52, x53, x54, x55, x56, x57, x58, x59, x60, x61, x62, x63, x64, x65, x66, x67, x68, x69, x70, x71, x72, x73, x74, x75, x76, x77, x78, x79, x80, x81, x82, x83, x84, x85, x86, x87, x88, x89, x90, x91, x92, x93, x94, x95, x96, x97, x98, x99, x100, x101, x102, x103, x104, x105, x106, x107, x108, x109, x110, x111, x112, x113, x114, x115, x116, x117, x118, x119, x120, x121, x122, x123], []⟩ w := by
  rw [tail6_34]
  go_wp2
  conv => arg 2; whnf
  go_wp2
  go_loopw [16] (fun v16 wr => ∃ (k : Nat), k ≤ L ∧ v16 = .int .i64 k ∧ Keeps Nob w wr) (fun v16 _ => L - (intOf v16).toNat)
  case atStart => exact ⟨0, Nat.zero_le _, rfl, Keeps.refl _ _⟩
  case round =>
    obtain ⟨k, hk, rfl, hKr⟩ := hrel
    by_cases hlt : k < L
    · have c1 := (ha.keep hKr (fun h => h)).cell k hlt
      have c2 := (hb.keep hKr (fun h => h)).cell k hlt
      obtain ⟨v, hv⟩ : ∃ v, A k = v := ⟨_, rfl⟩
      rw [hv] at c1 c2
      clear hv
      have c1' : wr.cell? ⟨ab, 0 + k, none⟩ = some (.int .u8 (v : Nat)) := by rw [Nat.zero_add]; exact c1
      have c2' : wr.cell? ⟨bb, 0 + k, none⟩ = some (.int .u8 (v : Nat)) := by rw [Nat.zero_add]; exact c2
      have hvv : ((v : Int) != (v : Int)) = false := by simp
      go_wp2
      go_quiet (fail)
      go_wp2
      refine ⟨?rel, ?measure⟩
      case rel => exact ⟨k + 1, by omega, by go_num, hKr.drewN _⟩
      case measure => simp [intOf]; omega
    · obtain rfl : k = L := by omega
      go_wp2
      conv => arg 2; whnf
      have hf2 := (hf.keep hKr (fun h => h)).slF (enc := encU32) (F := F) (fun _ => rfl) 0 wr.heap.size (Nat.zero_le _) (hf.keep hKr (fun h => h)).lt
      have ha2 := (ha.keep hKr (fun h => h)).slF (enc := encU8) (F := A) (fun _ => rfl) 0 wr.heap.size (Nat.zero_le _) (ha.keep hKr (fun h => h)).lt
      have hc16 := complete_any (c0 := m) (c1 := k) hf2 ha2 hm hmL (by omega) hK2 hC.out
      go_wp2_with (go_at_call 16; refine hc16.mono ?_; rintro e w' ⟨rfl, rfl⟩)
      go_ret
      exact ⟨rfl, hKw.trans hKr⟩

end Go.Proofs.Qxb6617947a
