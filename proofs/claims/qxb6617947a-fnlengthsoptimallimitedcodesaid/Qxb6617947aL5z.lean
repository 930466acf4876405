import Derived.Test.Qxb6617947aL5a
import Derived.WalkSpells
/-! FnLengthsOptimalLimitedCode: the whole. -/
namespace Go.Proofs.Qxb6617947a
open Go.RowKit
set_option linter.unusedVariables false
set_option linter.unusedSimpArgs false
set_option maxHeartbeats 4000000 in
set_option maxRecDepth 100000 in
theorem l5z {a0 a1 : Option Addr} {m c0 L c1 : Nat} {M : Int} {F O : Nat → Nat} {x3 x4 x5 x6 x7 x8 x9 x10 x11 x12 x13 x14 x15 x16 x17 x18 x19 x20 x21 x22 x23 x24 x25 x26 x27 x28 x29 x30 x31 x32 x33 x34 x35 x36 x37 x38 x39 x40 x41 x42 x43 x44 x45 x46 x47 x48 x49 x50 x51 x52 x53 x54 x55 x56 x57 x58 x59 x60 x61 x62 x63 x64 x65 x66 x67 x68 x69 x70 x71 x72 x73 x74 x75 x76 x77 x78 x79 x80 x81 x82 x83 x84 x85 x86 x87 x88 x89 x90 x91 x92 x93 x94 x95 x96 x97 x98 x99 x100 x101 x102 x103 x104 x105 x106 x107 x108 x109 x110 x111 : Value} {w : World}
    (hF : SlF encU32 w 0 w.heap.size a0 m F) (hFb : Hid (∀ i, i < m → F i < 4294967296)) (hO : SlF encU8 w 0 w.heap.size a1 L O) (hm0 : m ≤ 9223372036854775807) (hl0 : L ≤ 9223372036854775807) (hc1 : L ≤ c1) (hc2 : c1 ≤ 9223372036854775807)  :
    Code.wp Try.prog (tailF Try.f5 0) (bodyPost Try.prog Try.f5 fun e w' => e = .returned (.bool true) ∧ Keeps Nob w w') ⟨#[.slice a0 m c0, .slice a1 L c1, .int .i64 M, x3, x4, x5, x6, x7, x8, x9, x10, x11, x12, x13, x14, x15, x16, x17, x18, x19, x20, x21, x22, x23, x24, x25, x26, x27, x28, x29, x30, x31, x32, x33, x34, x35, x36, x37, x38, x39, x40, x41, x42, x43, x44, x45, x46, x47, x48, x49, x50, x51, x52, x53, x54, x55, x56, x57, x58, x59, x60, x61, x62, x63, x64, x65, x66, x67, x68, x69, x70, x71, x72, x73, x74, x75, x76, x77, x78, x79, x80, x81, x82, x83, x84, x85, x86, x87, x88, x89, x90, x91, x92, x93, x94, x95, x96, x97, x98, x99, x100, x101, x102, x103, x104, x105, x106, x107, x108, x109, x110, x111], []⟩ w := by
  rw [tail5_0]
  go_wp2
  conv => arg 2; whnf
  go_wp2
  rw [tail5_1]
  go_wp2
  conv => arg 2; whnf
  by_cases hb : m + L ≤ 1048576
  case neg =>
    have hbd : decide (m + L ≤ 1048576) = false := decide_eq_false hb
    go_wp2_with (go_at_call 13; refine (bytes5 hm0 hl0).mono ?_; rintro e w' ⟨rfl, he⟩; replace he := he.symm; subst he)
    go_ret; exact ⟨rfl, Keeps.refl _ _⟩
  have hbd : decide (m + L ≤ 1048576) = true := decide_eq_true hb
  go_wp2_with (go_at_call 13; refine (bytes5 hm0 hl0).mono ?_; rintro e w' ⟨rfl, he⟩; replace he := he.symm; subst he)
  rw [tail5_3]
  go_wp2
  conv => arg 2; whnf
  by_cases hm : m ≤ 512
  case neg =>
    have h1 : (m : Int) > 512 := by omega
    go_wp2; go_ret; exact ⟨rfl, Keeps.refl _ _⟩
  have h1 : ¬ (m : Int) > 512 := by omega
  go_wp2
  rw [tail5_5]
  go_wp2
  conv => arg 2; whnf
  by_cases hL : L ≤ 65536
  case neg =>
    have h1 : (L : Int) > 65536 := by omega
    go_wp2; go_ret; exact ⟨rfl, Keeps.refl _ _⟩
  have h2 : ¬ (L : Int) > 65536 := by omega
  go_wp2
  rw [tail5_7]
  go_wp2
  conv => arg 2; whnf
  by_cases hK1 : M < 1
  case pos => go_wp2; go_ret; exact ⟨rfl, Keeps.refl _ _⟩
  by_cases hK2 : M > 20
  case pos => go_wp2; go_ret; exact ⟨rfl, Keeps.refl _ _⟩
  obtain ⟨K, rfl⟩ : ∃ K : Nat, M = K := ⟨M.toNat, by omega⟩
  go_wp2
  have hKa : 1 ≤ K := by omega
  have hKb : K ≤ 20 := by omega
  clear hK1 hK2
  rw [tail5_9]
  go_wp2
  conv => arg 2; whnf
  by_cases hmL : m ≤ L
  case neg =>
    have h3 : (L : Int) < (m : Int) := by omega
    go_wp2; go_ret; exact ⟨rfl, Keeps.refl _ _⟩
  have h3 : ¬ (L : Int) < (m : Int) := by omega
  go_wp2
  have hb9 : L ≤ c1 := hc1
  clear hb hbd h1 h2 h3
  rw [tail5_11]
  go_wp2
  conv => arg 2; whnf
  rcases a0 with _ | ad
  case none =>
    obtain rfl : m = 0 := by
      rcases Nat.eq_zero_or_pos m with h | h
      · exact h
      · obtain ⟨b, off, h2, _⟩ := hF h; cases h2
    have hnil := fun w => run_neq_slice_nil_any (P := Try.prog) w 38 32 none 0 c0 0 0 Try.underlying38
    go_wp2
    rw [tail5_15]
    go_wp2
    conv => arg 2; whnf
    go_wp2_with (go_at_call 14; refine (count_any (F := F) hF (by omega)).mono ?_; rintro e w' ⟨rfl, he⟩; replace he := he.symm; subst he)
    rw [tail5_16]
    go_wp2
    conv => arg 2; whnf
    have h0 : ((occN F 0 : Nat) : Int) = 0 := rfl
    go_wp2
    go_ret; exact ⟨rfl, Keeps.refl _ _⟩
  case some =>
    have hnil := fun w => run_neq_slice_nil_any (P := Try.prog) w 38 32 (some ad) m c0 0 0 Try.underlying38
    go_wp2_with (at_make; refine wpList_make_blk _ rfl _ _ 38 rfl 32 (.int .u32 0) 4 rfl Try.underlying38 info32z _ _ m rfl rfl (by omega) (by unfold maxLen; omega) ?_)
    intro w1 hB hK1
    have hsrc : ∀ j v, ((List.range m).map fun i => encU32 (F i))[j]? = some v → w1.cell? (ad.add j) = some v := fun j v hv => by
      obtain ⟨hj, rfl⟩ := list_get encU32 F m j v hv
      obtain ⟨b, off, h2, _, h4, h5⟩ := hF (by omega)
      cases h2
      rw [Addr.add_lit]
      exact (hK1.cell (p := ⟨b, off + j, none⟩) h4 (fun h => h)).trans (h5 j hj)
    go_wp2_with (refine wpList_copy_blk rfl (.tmp 40) (.tmp 41) 38 38 rfl 32 Try.underlying38 size32z w.heap.size m m ad c0 rfl rfl _ 32 hB (by simp) ((List.range m).map fun i => encU32 (F i)) (by simp) hsrc (by intro v hv; simp at hv; obtain ⟨i, hi, rfl⟩ := hv; rfl) ?_)
    intro w2 hB2 hK2a hs2 ho2
    have hf : Own w2 w.heap.size m (fun j => .int .u32 (F j : Nat)) := Own.ofBlk hB2 fun j hj => by simp [hj]
    have hKw : Keeps Nob w w2 := ⟨(hK2a (fun _ => True) trivial).os.trans hK1.os, (hK2a (fun _ => True) trivial).tape.trans hK1.tape, (hK2a (fun _ => True) trivial).output.trans hK1.output, by have := hK1.size; omega, fun k hk _ => (ho2 k (by omega)).trans (hK1.block k hk (fun h => h))⟩
    clear hB2 hK2a ho2 hsrc hK1 hB
    obtain ⟨fb, hfb⟩ : ∃ fb, w.heap.size = fb := ⟨_, rfl⟩
    have HFB : Hid (w.heap.size = fb) := hfb
    rw [hfb] at hf ⊢
    clear hfb hs2
    go_wp2
    rw [tail5_15]
    go_wp2
    conv => arg 2; whnf
    have c14 := count_any (c := m) (hf.slF (enc := encU32) (F := F) (fun _ => rfl) 0 w2.heap.size (Nat.zero_le _) hf.lt) (by omega)
    obtain ⟨n, hn⟩ : ∃ n, occN F m = n := ⟨_, rfl⟩
    have HN : Hid (occN F m = n) := hn
    rw [hn] at c14
    have hnm := occN_le F m
    rw [hn] at hnm
    clear hn
    go_wp2_with (go_at_call 14; refine c14.mono ?_; rintro e w' ⟨rfl, he⟩; replace he := he.symm; subst he)
    rw [tail5_16]
    go_wp2
    conv => arg 2; whnf
    by_cases hn2 : n < 2
    case pos =>
      have h5 : (n : Int) < 2 := by omega
      go_wp2; go_ret; exact ⟨rfl, hKw⟩
    have h5 : ¬ (n : Int) < 2 := by omega
    obtain ⟨p2, hp2⟩ : ∃ p2 : Nat, 2 ^ K = p2 := ⟨_, rfl⟩
    have hp3 : (2 : Int) ^ K = (p2 : Int) := by rw [← hp2, Int.natCast_pow]; rfl
    have hp4 : p2 ≤ 1048576 := by rw [← hp2]; exact Nat.pow_le_pow_right (n := 2) (j := 20) (by decide) hKb
    have hp5 : IntKind.i64.wrap ((2 : Int) ^ K) = (p2 : Int) := by rw [hp3, IntKind.wrap_i64]; omega
    have HP : Hid (2 ^ K = p2) := hp2
    clear hp2
    by_cases hn3 : n ≤ p2
    case neg =>
      have h6 : (n : Int) > (p2 : Int) := by omega
      go_wp2; go_ret; exact ⟨rfl, hKw⟩
    have h6 : ¬ (n : Int) > (p2 : Int) := by omega
    go_wp2
    obtain ⟨lb, lo, rfl, _, h9, h10⟩ := hO (by omega)
    have hlc : ∀ j, j < L → w2.cell? ⟨lb, lo + j, none⟩ = some (.int .u8 (O j : Nat)) := fun j hj => (hKw.cell (p := ⟨lb, lo + j, none⟩) h9 (fun h => h)).trans (h10 j hj)
    exact l5a hKw hf hlc hm hmL hKa hKb hL (show 2 ≤ occN F m by rw [HN.out]; omega) (show occN F m ≤ 2 ^ K by rw [HN.out, HP.out]; exact hn3) hFb

set_option maxHeartbeats 4000000 in
set_option maxRecDepth 100000 in
theorem law5 {a0 a1 : Option Addr} {m c0 L c1 : Nat} {M : Int} {F O : Nat → Nat} {w : World} (hF : SlF encU32 w 0 w.heap.size a0 m F) (hFb : ∀ i, i < m → F i < 4294967296) (hO : SlF encU8 w 0 w.heap.size a1 L O) (hm0 : m ≤ 9223372036854775807) (hl0 : L ≤ 9223372036854775807) (hc1 : L ≤ c1) (hc2 : c1 ≤ 9223372036854775807)  :
    Calls Try.prog 5 #[.slice a0 m c0, .slice a1 L c1, .int .i64 M] w fun e w' => e = .returned (.bool true) ∧ Keeps Nob w w' := by
  refine calls_of_wp Try.func5 body5 ?_
  simp only [Try.ntmps5, List.size_toArray, List.length_cons, List.length_nil, Nat.reduceAdd, Nat.reduceSub, Array.replicate_succ,
    Array.replicate_zero, List.push_toArray, List.append_toArray, List.nil_append, List.cons_append]
  exact l5z hF hFb hO hm0 hl0 hc1 hc2 

end Go.Proofs.Qxb6617947a
