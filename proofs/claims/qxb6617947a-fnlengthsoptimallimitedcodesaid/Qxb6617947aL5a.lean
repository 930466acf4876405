import Derived.Test.Qxb6617947aL5b
/-! FnLengthsOptimalLimitedCode: Lengths. -/
namespace Go.Proofs.Qxb6617947a
open Go.RowKit
set_option linter.unusedVariables false
set_option linter.unusedSimpArgs false
set_option maxHeartbeats 4000000 in
set_option maxRecDepth 100000 in
theorem l5a {w0 : World} {fb lb lo m L cap K : Nat} {F O : Nat → Nat} {x3 x4 x5 x6 x7 x8 x9 x10 x11 x12 x13 x14 x15 x16 x17 x18 x19 x20 x21 x22 x23 x24 x25 x26 x27 x28 x29 x30 x31 x32 x33 x34 x35 x36 x37 x38 x39 x40 x41 x42 x43 x44 x45 x46 x47 x48 x49 x50 x51 x52 x53 x54 x55 x56 x57 x58 x59 x60 x61 x62 x63 x64 x65 x66 x67 x68 x69 x70 x71 x72 x73 x74 x75 x76 x77 x78 x79 x80 x81 x82 x83 x84 x85 x86 x87 x88 x89 x90 x91 x92 x93 x94 x95 x96 x97 x98 x99 x100 x101 x102 x103 x104 x105 x106 x107 x108 x109 x110 x111 : Value} {w : World}
    (hKw : Keeps Nob w0 w) (hf : Own w fb m (fun j => .int .u32 (F j : Nat))) (hlc : ∀ j, j < L → w.cell? ⟨lb, lo + j, none⟩ = some (.int .u8 (O j : Nat))) (hm : m ≤ 512) (hmL : m ≤ L) (hK : 1 ≤ K) (hK2 : K ≤ 20) (hL : L ≤ 65536) (hn : Hid (2 ≤ occN F m)) (hnK : Hid (occN F m ≤ 2 ^ K)) (hFb : Hid (∀ i, i < m → F i < 4294967296)) :
    Code.wp Try.prog (tailF Try.f5 18) (bodyPost Try.prog Try.f5 fun e w' => e = .returned (.bool true) ∧ Keeps Nob w0 w') ⟨#[.slice (some ⟨fb, 0, none⟩) m m, .slice (some ⟨lb, lo, none⟩) L cap, .int .i64 (K : Nat), x3, x4, x5, x6, x7, x8, x9, x10, x11, x12, x13, x14, x15, x16, x17, x18, x19, x20, x21, x22, x23, x24, x25, x26, x27, x28, x29, x30, x31, x32, x33, x34, x35, x36, x37, x38, x39, x40, x41, x42, x43, x44, x45, x46, x47, x48, x49, x50, x51, x52, x53, x54, x55, x56, x57, x58, x59, x60, x61, x62, x63, x64, x65, x66, x67, x68, x69, x70, x71, x72, x73, x74, x75, x76, x77, x78, x79, x80, x81, x82, x83, x84, x85, x86, x87, x88, x89, x90, x91, x92, x93, x94, x95, x96, x97, x98, x99, x100, x101, x102, x103, x104, x105, x106, x107, x108, x109, x110, x111], []⟩ w := by
  rw [tail5_18]
  go_wp2
  conv => arg 2; whnf
  go_wp2_with (go_at_call 11; refine (clone_any hlc (by omega)).mono ?_; rintro e w1 ⟨ab, rfl, hab, hK1, ha⟩)
  have hf1 := hf.keep hK1 (fun h => h)
  have hlc1 : ∀ j, j < L → w1.cell? ⟨lb, lo + j, none⟩ = some (.int .u8 (O j : Nat)) := fun j hj => (hK1.cell (p := ⟨lb, lo + j, none⟩) (World.block_lt_of_cell? w _ (hlc j hj)) (fun h => h)).trans (hlc j hj)
  have hs1 := hK1.size
  have hfl := hf.lt
  have c15 := lengths_any (fc := m) (cap := L) (hf1.slF (enc := encU32) (F := F) (fun _ => rfl) 0 w1.heap.size (Nat.zero_le _) hf1.lt) ha hn hm hmL (Nat.le_refl _) (by omega) hK hK2 hnK (by omega) hFb
  rw [tail5_19]
  go_wp2
  conv => arg 2; whnf
  go_wp2_with (go_at_call 15; refine c15.mono ?_; rintro e w3 ⟨rfl, hK3, ha3⟩)
  have hf3 := hf1.keep hK3 (fun h => by omega)
  have ha5 : Own w3 ab L (fun j => .int .u8 (outL F O m K j : Nat)) := ha3
  have hlc3 : ∀ j, j < L → w3.cell? ⟨lb, lo + j, none⟩ = some (.int .u8 (O j : Nat)) := fun j hj => by
    have h3 := World.block_lt_of_cell? w _ (hlc j hj)
    exact (hK3.cell (p := ⟨lb, lo + j, none⟩) (by show lb < _; have h4 : lb < w.heap.size := h3; omega) (by show ¬ lb = ab; have h4 : lb < w.heap.size := h3; omega)).trans (hlc1 j hj)
  have hKz : Keeps Nob w0 w3 := by
    have h0 := hKw.size
    exact ⟨hK3.os.trans (hK1.os.trans hKw.os), hK3.tape.trans (hK1.tape.trans hKw.tape), hK3.output.trans (hK1.output.trans hKw.output), by have := hK3.size; omega, fun i hi _ => (hK3.block i (by omega) (by show ¬ i = ab; omega)).trans ((hK1.block i (by omega) (fun h => h)).trans (hKw.block i hi (fun h => h)))⟩
  clear ha3 hlc1 hlc hf1 ha hf c15
  rw [tail5_20]
  go_wp2
  conv => arg 2; whnf
  go_wp2
  go_loopw [10] (fun v10 wr => ∃ (k : Nat), m ≤ k ∧ k ≤ L ∧ v10 = .int .i64 k ∧ Keeps Nob w3 wr) (fun v10 _ => L - (intOf v10).toNat)
  case atStart => exact ⟨m, Nat.le_refl _, hmL, rfl, Keeps.refl _ _⟩
  case round =>
    obtain ⟨k, hmk, hk, rfl, hKr⟩ := hrel
    by_cases hlt : k < L
    · have c1 := (ha5.keep hKr (fun h => h)).cell k hlt
      rw [out_tail hm hmk] at c1
      have c2 := (hKr.cell (p := ⟨lb, lo + k, none⟩) (World.block_lt_of_cell? w3 _ (hlc3 k hlt)) (fun h => h)).trans (hlc3 k hlt)
      obtain ⟨v, hv⟩ : ∃ v, O k = v := ⟨_, rfl⟩
      rw [hv] at c1 c2
      clear hv
      have hvv : ((v : Int) != (v : Int)) = false := by simp
      have hk1 : (0 : Int) ≤ (k : Int) := by omega
      have hk2 : (k : Int) < (L : Int) := by omega
      go_wp2
      go_quiet (fail)
      go_wp2
      refine ⟨?rel, ?measure⟩
      case rel => exact ⟨k + 1, by omega, by omega, by go_num, hKr.drewN _⟩
      case measure => simp [intOf]; omega
    · obtain rfl : k = L := by omega
      go_wp2
      exact l5b (hKz.trans hKr) (hf3.keep hKr (fun h => h)) (ha5.keep hKr (fun h => h)) hm hmL hK hK2 hL hn hnK hFb

end Go.Proofs.Qxb6617947a
