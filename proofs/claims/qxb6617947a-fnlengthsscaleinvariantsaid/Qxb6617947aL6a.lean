import Derived.Test.Qxb6617947aL6b
/-! FnLengthsScaleInvariant: the scaled frequencies. -/
namespace Go.Proofs.Qxb6617947a
open Go.RowKit
set_option linter.unusedVariables false
set_option linter.unusedSimpArgs false
set_option maxHeartbeats 4000000 in
set_option maxRecDepth 100000 in
theorem l6a2 {w0 : World} {fb lb lo m L cap K c : Nat} {F O : Nat → Nat} {x4 x5 x6 x7 x8 x9 x10 x11 x12 x13 x14 x15 x16 x17 x18 x19 x20 x21 x22 x23 x24 x25 x26 x27 x28 x29 x30 x31 x32 x33 x34 x35 x36 x37 x38 x39 x40 x41 x42 x43 x44 x45 x46 x47 x48 x49 x50 x51 x52 x53 x54 x55 x56 x57 x58 x59 x60 x61 x62 x63 x64 x65 x66 x67 x68 x69 x70 x71 x72 x73 x74 x75 x76 x77 x78 x79 x80 x81 x82 x83 x84 x85 x86 x87 x88 x89 x90 x91 x92 x93 x94 x95 x96 x97 x98 x99 x100 x101 x102 x103 x104 x105 x106 x107 x108 x109 x110 x111 x112 x113 x114 x115 x116 x117 x118 x119 x120 x121 x122 x123 : Value} {w : World}
    (hKw : Keeps Nob w0 w) (hf : Own w fb m (fun j => .int .u32 (F j : Nat))) (hc1 : 1 ≤ c) (hcF : Hid (∀ i, i < m → F i * c < 4294967296))
    (hm : m ≤ 512) (hmL : m ≤ L) (hcap : L ≤ cap) (hcap2 : cap ≤ 9223372036854775807) (hK : 1 ≤ K) (hK2 : K ≤ 20) (hL : L ≤ 65536) (hlc : ∀ j, j < L → w.cell? ⟨lb, lo + j, none⟩ = some (.int .u8 (O j : Nat))) (hn : Hid (2 ≤ occN F m)) (hnK : Hid (occN F m ≤ 2 ^ K)) (hFb : Hid (∀ i, i < m → F i < 4294967296)) :
    Code.wp Try.prog (tailF Try.f6 25) (bodyPost Try.prog Try.f6 fun e w' => e = .returned (.bool true) ∧ Keeps Nob w0 w') ⟨#[.slice (some ⟨fb, 0, none⟩) m m, .slice (some ⟨lb, lo, none⟩) L cap, .int .i64 (K : Nat), .int .u32 (c : Nat), x4, x5, x6, x7, x8, x9, x10, x11, x12, x13, x14, x15, x16, x17, x18, x19, x20, x21, x22, x23, x24, x25, x26, x27, x28, x29, x30, x31, x32, x33, x34, x35, x36, x37, x38, x39, x40, x41, x42, x43, x44, x45, x46, x47, x48, x49, x50, x51, x52, x53, x54, x55, x56, x57, x58, x59, x60, x61, x62, x63, x64, x65, x66, x67, x68, x69, x70, x71, x72, x73, x74, x75, x76, x77, x78, x79, x80, x81, x82, x83, x84, x85, x86, x87, x88, x89, x90, x91, x92, x93, x94, x95, x96, x97, x98, x99, x100, x101, x102, x103, x104, x105, x106, x107, x108, x109, x110, x111, x112, x113, x114, x115, x116, x117, x118, x119, x120, x121, x122, x123], []⟩ w := by
  rw [tail6_25]
  go_wp2
  conv => arg 2; whnf
  go_wp2_with (at_make; refine wpList_make_blk _ rfl _ _ 38 rfl 32 (.int .u32 0) 4 rfl Try.underlying38 info32z _ _ m rfl rfl (by omega) (by unfold maxLen; omega) ?_)
  intro w1 hB hK1
  have hg := Own.rep hB
  have hf1 := hf.keep hK1 (fun h => h)
  have hfl := hf.lt
  obtain ⟨gb, hgb⟩ : ∃ gb, w.heap.size = gb := ⟨_, rfl⟩
  have HG : Hid (w.heap.size = gb) := hgb
  have hnlt : fb ≠ gb := by omega
  rw [hgb] at hg ⊢
  clear hB hgb hfl hf
  go_wp2
  rw [tail6_26]
  go_wp2
  conv => arg 2; whnf
  go_wp2
  go_loopw [13] (fun v13 wr => ∃ (k : Nat), k ≤ m ∧ v13 = .int .i64 k ∧ Keeps (fun b => b = gb) w1 wr ∧ Own wr gb m (fun j => .int .u32 (if j < k then F j * c else 0 : Nat))) (fun v13 _ => m - (intOf v13).toNat)
  case atStart => exact ⟨0, Nat.zero_le _, rfl, Keeps.refl _ _, hg.congr fun j hj => by rw [if_neg (Nat.not_lt_zero _)]; rfl⟩
  case round =>
    obtain ⟨k, hk, rfl, hKr, hgr⟩ := hrel
    by_cases hlt : k < m
    · have hfr := hf1.keep hKr (fun h => hnlt h)
      have c1 := hfr.cell k hlt
      have c2 := hgr.cell k hlt
      have f2 := hgr.free k
      have hFc := hcF.out k hlt
      obtain ⟨v, hv⟩ : ∃ v, F k = v := ⟨_, rfl⟩
      have HV : Hid (F k = v) := hv
      rw [hv] at c1 hFc
      clear hv
      obtain ⟨x, hx⟩ : ∃ x, v * c = x := ⟨_, rfl⟩
      have HX : Hid (v * c = x) := hx
      have hx' : (v : Int) * (c : Int) = (x : Int) := by rw [← hx, Int.natCast_mul]
      rw [hx] at hFc
      clear hx
      go_wp2
      refine ⟨?rel, ?measure⟩
      case rel =>
        refine ⟨k + 1, by omega, by go_num, hKr.setCell (p := ⟨gb, k, none⟩) rfl _, (hgr.set hlt _).congr fun j hj => ?_⟩
        unfold updV
        by_cases h : j = k
        · subst h
          rw [if_pos rfl, if_pos (Nat.lt_succ_self _), HV.out, HX.out]
        · rw [if_neg h]
          show Value.int .u32 ((if j < k then F j * c else 0 : Nat) : Int) = _
          by_cases h2 : j < k
          · rw [if_pos h2, if_pos (by omega)]
          · rw [if_neg h2, if_neg (by omega)]
      case measure => simp [intOf]; omega
    · obtain rfl : k = m := by omega
      have hfr := hf1.keep hKr (fun h => hnlt h)
      have hg9 : Own wr gb k (fun j => .int .u32 (F j * c : Nat)) := hgr.congr fun j hj => by rw [if_pos hj]
      have hK9 : Keeps Nob w0 wr := by
        have h0 := hKw.size
        have h1 := hK1.size
        have h2 := HG.out
        exact ⟨hKr.os.trans (hK1.os.trans hKw.os), hKr.tape.trans (hK1.tape.trans hKw.tape), hKr.output.trans (hK1.output.trans hKw.output), by have := hKr.size; omega, fun i hi _ => (hKr.block i (by omega) (by show ¬ i = gb; omega)).trans ((hK1.block i (by omega) (fun h => h)).trans (hKw.block i hi (fun h => h)))⟩
      have hlc9 : ∀ j, j < L → wr.cell? ⟨lb, lo + j, none⟩ = some (.int .u8 (O j : Nat)) := fun j hj => by
        have h3 := World.block_lt_of_cell? w _ (hlc j hj)
        have h1 := hK1.size
        have h2 := HG.out
        exact (hKr.cell (p := ⟨lb, lo + j, none⟩) (by show lb < _; have h4 : lb < w.heap.size := h3; omega) (by show ¬ lb = gb; have h4 : lb < w.heap.size := h3; omega)).trans ((hK1.cell (p := ⟨lb, lo + j, none⟩) h3 (fun h => h)).trans (hlc j hj))
      go_wp2
      exact l6b hK9 hfr hg9 (by omega) hcF hm hmL hcap hcap2 hK hK2 hL hlc9 hn hnK hFb
set_option maxHeartbeats 4000000 in
set_option maxRecDepth 100000 in
theorem l6a {w0 : World} {fb lb lo m L cap K c : Nat} {F O : Nat → Nat} {x4 x5 x6 x7 x8 x9 x10 x11 x12 x13 x14 x15 x16 x17 x18 x19 x20 x21 x22 x23 x24 x25 x26 x27 x28 x29 x30 x31 x32 x33 x34 x35 x36 x37 x38 x39 x40 x41 x42 x43 x44 x45 x46 x47 x48 x49 x50 x51 x52 x53 x54 x55 x56 x57 x58 x59 x60 x61 x62 x63 x64 x65 x66 x67 x68 x69 x70 x71 x72 x73 x74 x75 x76 x77 x78 x79 x80 x81 x82 x83 x84 x85 x86 x87 x88 x89 x90 x91 x92 x93 x94 x95 x96 x97 x98 x99 x100 x101 x102 x103 x104 x105 x106 x107 x108 x109 x110 x111 x112 x113 x114 x115 x116 x117 x118 x119 x120 x121 x122 x123 : Value} {w : World}
    (hKw : Keeps Nob w0 w) (hf : Own w fb m (fun j => .int .u32 (F j : Nat))) (hcb2 : c < 4294967296)
    (hm : m ≤ 512) (hmL : m ≤ L) (hcap : L ≤ cap) (hcap2 : cap ≤ 9223372036854775807) (hK : 1 ≤ K) (hK2 : K ≤ 20) (hL : L ≤ 65536) (hlc : ∀ j, j < L → w.cell? ⟨lb, lo + j, none⟩ = some (.int .u8 (O j : Nat))) (hn : Hid (2 ≤ occN F m)) (hnK : Hid (occN F m ≤ 2 ^ K)) (hFb : Hid (∀ i, i < m → F i < 4294967296)) :
    Code.wp Try.prog (tailF Try.f6 18) (bodyPost Try.prog Try.f6 fun e w' => e = .returned (.bool true) ∧ Keeps Nob w0 w') ⟨#[.slice (some ⟨fb, 0, none⟩) m m, .slice (some ⟨lb, lo, none⟩) L cap, .int .i64 (K : Nat), .int .u32 (c : Nat), x4, x5, x6, x7, x8, x9, x10, x11, x12, x13, x14, x15, x16, x17, x18, x19, x20, x21, x22, x23, x24, x25, x26, x27, x28, x29, x30, x31, x32, x33, x34, x35, x36, x37, x38, x39, x40, x41, x42, x43, x44, x45, x46, x47, x48, x49, x50, x51, x52, x53, x54, x55, x56, x57, x58, x59, x60, x61, x62, x63, x64, x65, x66, x67, x68, x69, x70, x71, x72, x73, x74, x75, x76, x77, x78, x79, x80, x81, x82, x83, x84, x85, x86, x87, x88, x89, x90, x91, x92, x93, x94, x95, x96, x97, x98, x99, x100, x101, x102, x103, x104, x105, x106, x107, x108, x109, x110, x111, x112, x113, x114, x115, x116, x117, x118, x119, x120, x121, x122, x123], []⟩ w := by
  rw [tail6_18]
  go_wp2
  conv => arg 2; whnf
  by_cases hc0 : c = 0
  case pos =>
    subst hc0
    go_wp2
    go_ret
    exact ⟨rfl, hKw⟩
  have hcb : ((c : Int) == 0) = false := by simp; omega
  go_wp2
  rw [tail6_20]
  go_wp2
  conv => arg 2; whnf
  go_wp2
  go_loopw [11] (fun v11 wr => ∃ (k : Nat), k ≤ m ∧ v11 = .int .i64 k ∧ Keeps Nob w wr ∧ ∀ i, i < k → F i * c < 4294967296) (fun v11 _ => m - (intOf v11).toNat)
  case atStart => exact ⟨0, Nat.zero_le _, rfl, Keeps.refl _ _, fun i hi => absurd hi (Nat.not_lt_zero _)⟩
  case round =>
    obtain ⟨k, hk, rfl, hKr, hFk⟩ := hrel
    by_cases hlt : k < m
    · have c1 := (hf.keep hKr (fun h => h)).cell k hlt
      have hFc := hFb.out k hlt
      have HFk : Hid (∀ i, i < k → F i * c < 4294967296) := hFk
      have HF1 : Hid (F k ≤ 4294967295 / c → ∀ i, i < k + 1 → F i * c < 4294967296) := fun h i hi => by
        rcases Nat.lt_or_ge i k with h1 | h1
        · exact hFk i h1
        · obtain rfl : i = k := by omega
          have := (Nat.le_div_iff_mul_le (by omega : 0 < c)).1 h
          omega
      obtain ⟨v, hv⟩ : ∃ v, F k = v := ⟨_, rfl⟩
      rw [hv] at c1 HF1 hFc
      clear hv hFk
      have c1' : wr.cell? ⟨fb, 0 + k, none⟩ = some (.int .u32 (v : Nat)) := by rw [Nat.zero_add]; exact c1
      have hc3 : ((c : Nat) : Int) ≠ 0 := by omega
      have hcp : (0 : Int) < (c : Int) := by omega
      have hdv : Int.tdiv 4294967295 (c : Int) = ((4294967295 / c : Nat) : Int) := by rw [Int.tdiv_eq_ediv_of_nonneg (by omega)]; rfl
      obtain ⟨d, hd⟩ : ∃ d, 4294967295 / c = d := ⟨_, rfl⟩
      have hdl : d ≤ 4294967295 := by rw [← hd]; exact Nat.div_le_self _ _
      rw [hd] at hdv HF1
      clear hd
      by_cases hvd : v ≤ d
      · have hvd' : ¬ (v : Int) > (d : Int) := by omega
        have HF2 : Hid (∀ i, i < k + 1 → F i * c < 4294967296) := HF1.out hvd
        go_wp2
        go_quiet (fail)
        go_wp2
        refine ⟨?rel, ?measure⟩
        case rel => exact ⟨k + 1, by omega, by go_num, hKr.drewN _, HF2.out⟩
        case measure => simp [intOf]; omega
      · have hvd' : (v : Int) > (d : Int) := by omega
        go_wp2
        go_quiet (fail)
        go_wp2
        go_ret
        exact ⟨rfl, hKw.trans (hKr.drewN _)⟩
    · obtain rfl : k = m := by omega
      have HF2 : Hid (∀ i, i < k → F i * c < 4294967296) := hFk
      clear hFk
      go_wp2
      exact l6a2 (hKw.trans hKr) (hf.keep hKr (fun h => h)) (by omega) HF2 hm hmL hcap hcap2 hK hK2 hL (fun j hj => (hKr.cell (p := ⟨lb, lo + j, none⟩) (World.block_lt_of_cell? w _ (hlc j hj)) (fun h => h)).trans (hlc j hj)) hn hnK hFb

end Go.Proofs.Qxb6617947a
