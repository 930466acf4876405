import Derived.Test.Qxb6617947aWd
import Derived.Test.Qxb6617947aRk
import Derived.Test.Qxb6617947aMn
/-! FnLengthsOptimalLimitedCode: from the checks on. -/
namespace Go.Proofs.Qxb6617947a
open Go.RowKit
set_option linter.unusedVariables false
set_option linter.unusedSimpArgs false

theorem out_rank {F O : Nat → Nat} {m K : Nat} (hm : m ≤ 512) {t s : Nat → Nat} (hlv : ∀ i, i < occN F m → lv (wtF F m) (occN F m) K i = lenOf s K i) :
    ∀ a b, a < m → b < m → 0 < F a → 0 < F b → (F a < F b ∨ (F a = F b ∧ a < b)) → outL F O m K b ≤ outL F O m K a := fun a b ha hb h0 h1 hl => by
  obtain ⟨i, hi, ei⟩ := sym_surj (F := F) (m := m) (by omega) ha h0
  obtain ⟨j, hj, ej⟩ := sym_surj (F := F) (m := m) (by omega) hb h1
  have k1 := (Kf_sym (F := F) (m := m) (by omega) hi).2.2.2
  have k2 := (Kf_sym (F := F) (m := m) (by omega) hj).2.2.2
  rw [ei] at k1
  rw [ej] at k2
  have hij : i ≤ j := by
    rcases Nat.lt_or_ge j i with h | h
    · exfalso
      have h2 := Kf_asc (F := F) (m := m) (Nat.le_of_lt h) hi
      rw [k1, k2] at h2
      unfold keyOf at h2
      rcases hl with h3 | ⟨h3, h4⟩
      · omega
      · rw [h3] at h2; omega
    · exact h
  rw [← ei, ← ej, out_sym hm hi, out_sym hm hj, hlv i hi, hlv j hj]
  exact lenOf_anti hij K
theorem out_cost {F O : Nat → Nat} {m K : Nat} (hm : m ≤ 512) {s : Nat → Nat} (hsn : ∀ e, e < K → s e ≤ occN F m) (hlv : ∀ i, i < occN F m → lv (wtF F m) (occN F m) K i = lenOf s K i) :
    psum (fun x => F x * outL F O m K x) m = psum (fun e => psum (wtF F m) (s e)) K := by
  rw [← cost_levels (wtF F m) (occN F m) s K hsn]
  rw [psum_congr (g := fun x => if 0 < F x then F x * outL F O m K x else 0) (fun x _ => by
    show F x * outL F O m K x = _
    by_cases h : 0 < F x
    · rw [if_pos h]
    · rw [if_neg h, show F x = 0 by omega, Nat.zero_mul])]
  rw [by_rank hm (fun x => F x * outL F O m K x)]
  refine psum_congr fun i hi => ?_
  show F (symF F m i) * outL F O m K (symF F m i) = wtF F m i * lenOf s K i
  rw [out_sym hm hi, hlv i hi, (Kf_sym (F := F) (m := m) (by omega) hi).2.2.1]
theorem opt_le {wt : Nat → Nat} {n K : Nat} (hn : 2 ≤ n) (hK : 1 ≤ K) (hK2 : K ≤ 20) (hnK : n ≤ 2 ^ K) (hW : psum wt n < 2 ^ 50) : pS wt n K (2 * n - 2) ≤ 22517998136852480 := by
  have h1 := pm_cost (w := wt) hn hK hnK K (Nat.le_refl _)
  rw [Nat.sub_self] at h1
  have h2 : pS wt n 0 (tk wt n K K) = 0 := psum_zero _
  rw [h1, h2, Nat.add_zero]
  have h3 := psum_le (f := fun e => psum wt (sk wt n K e)) (a := 0) (b := K) (k := 1125899906842624) (Nat.zero_le _) (fun e _ he => by
    have h5 := psum_mono (f := wt) (sk_le (w := wt) hn hK hnK he).1
    exact Nat.le_trans h5 (Nat.le_of_lt hW))
  have h4 : psum (fun e => psum wt (sk wt n K e)) 0 = 0 := rfl
  rw [h4, Nat.zero_add, Nat.sub_zero] at h3
  exact Nat.le_trans h3 (Nat.mul_le_mul_right 1125899906842624 hK2)
theorem out_tail {F O : Nat → Nat} {m K x : Nat} (hm : m ≤ 512) (hx : m ≤ x) : outL F O m K x = O x := by
  unfold outL
  rw [outF_off (fun i hi e => by have := (Kf_sym (F := F) (m := m) (by omega) hi).1; omega)]
  exact if_neg (by omega)
set_option maxHeartbeats 4000000 in
set_option maxRecDepth 100000 in
theorem l5b {w0 : World} {fb ab m L K : Nat} {F O : Nat → Nat} {x1 x3 x4 x5 x6 x7 x8 x10 x11 x12 x13 x14 x15 x16 x17 x18 x19 x20 x21 x22 x23 x24 x25 x26 x27 x28 x29 x30 x31 x32 x33 x34 x35 x36 x37 x38 x39 x40 x41 x42 x43 x44 x45 x46 x47 x48 x49 x50 x51 x52 x53 x54 x55 x56 x57 x58 x59 x60 x61 x62 x63 x64 x65 x66 x67 x68 x69 x70 x71 x72 x73 x74 x75 x76 x77 x78 x79 x80 x81 x82 x83 x84 x85 x86 x87 x88 x89 x90 x91 x92 x93 x94 x95 x96 x97 x98 x99 x100 x101 x102 x103 x104 x105 x106 x107 x108 x109 x110 x111 : Value} {w : World}
    (hKw : Keeps Nob w0 w) (hf : Own w fb m (fun j => .int .u32 (F j : Nat))) (ha : Own w ab L (fun j => .int .u8 (outL F O m K j : Nat))) (hm : m ≤ 512) (hmL : m ≤ L) (hK : 1 ≤ K) (hK2 : K ≤ 20) (hL : L ≤ 65536) (hn : Hid (2 ≤ occN F m)) (hnK : Hid (occN F m ≤ 2 ^ K)) (hFb : Hid (∀ i, i < m → F i < 4294967296)) :
    Code.wp Try.prog (tailF Try.f5 25) (bodyPost Try.prog Try.f5 fun e w' => e = .returned (.bool true) ∧ Keeps Nob w0 w') ⟨#[.slice (some ⟨fb, 0, none⟩) m m, x1, .int .i64 (K : Nat), x3, x4, x5, x6, x7, x8, .slice (some ⟨ab, 0, none⟩) L L, x10, x11, x12, x13, x14, x15, x16, x17, x18, x19, x20, x21, x22, x23, x24, x25, x26, x27, x28, x29, x30, x31, x32, x33, x34, x35, x36, x37, x38, x39, x40, x41, x42, x43, x44, x45, x46, x47, x48, x49, x50, x51, x52, x53, x54, x55, x56, x57, x58, x59, x60, x61, x62, x63, x64, x65, x66, x67, x68, x69, x70, x71, x72, x73, x74, x75, x76, x77, x78, x79, x80, x81, x82, x83, x84, x85, x86, x87, x88, x89, x90, x91, x92, x93, x94, x95, x96, x97, x98, x99, x100, x101, x102, x103, x104, x105, x106, x107, x108, x109, x110, x111], []⟩ w := by
  obtain ⟨t, s, C, hsK, hlv, hcost⟩ := lv_chain (w := wtF F m) hn.out (wt_asc (F := F) (m := m)) (wt_pos (by omega)) (wt_sum hm hFb.out) hK hK2 hnK.out
  have hopt := opt_le (wt := wtF F m) hn.out hK hK2 hnK.out (wt_sum hm hFb.out)
  have HC : Hid (Chain (occN F m) K t s ∧ s K = 0) := ⟨C, hsK⟩
  have HR := out_rank (O := O) hm (t := t) hlv
  have HCO := out_cost (O := O) hm C.sn hlv
  have HT : Hid (psum (fun e => psum (wtF F m) (s e)) K ≤ pS (wtF F m) (occN F m) K (2 * occN F m - 2) ∧ pS (wtF F m) (occN F m) K (2 * occN F m - 2) ≤ 22517998136852480) := ⟨hcost, hopt⟩
  have hC := out_complete (O := O) hm hFb.out hn.out hK hK2 hnK.out
  have hone : ∀ x, x < m → outL F O m K x ≤ 20 := fun x hx => by
    rcases Nat.eq_zero_or_pos (F x) with h | h
    · rw [hC.zero x hx h]; omega
    · exact Nat.le_trans (hC.one x hx h).2 hK2
  have HONE : Hid (∀ x, x < m → outL F O m K x ≤ 20) := hone
  have hf5 := hf.slF (enc := encU32) (F := F) (fun _ => rfl) 0 w.heap.size (Nat.zero_le _) hf.lt
  have ha6 := ha.slF (enc := encU8) (F := outL F O m K) (fun _ => rfl) 0 w.heap.size (Nat.zero_le _) ha.lt
  have hc16 := complete_any (c0 := m) (c1 := L) hf5 ha6 hm hmL (by omega) hK2 hC
  have hc17 := rank_any (c0 := m) (c1 := L) hf5 ha6 hm hmL (by omega) HR
  have HCOST : Hid (psum (fun x => F x * outL F O m K x) m = psum (fun e => psum (wtF F m) (s e)) K) := HCO
  clear C hsK hlv hcost hopt HR HCO hC hone hf5 ha6
  rw [tail5_25]
  go_wp2
  conv => arg 2; whnf
  go_wp2_with (go_at_call 16; refine hc16.mono ?_; rintro e w' ⟨rfl, he⟩; replace he := he.symm; subst he)
  rw [tail5_27]
  go_wp2
  conv => arg 2; whnf
  go_wp2_with (go_at_call 17; refine hc17.mono ?_; rintro e w1 ⟨rfl, hK1⟩)
  have hf1 := hf.keep hK1 (fun h => h)
  have ha1 := ha.keep hK1 (fun h => h)
  have hKw1 := hKw.trans hK1
  clear hc16 hc17 hf ha hKw hK1
  rw [tail5_29]
  go_wp2
  conv => arg 2; whnf
  go_wp2
  rw [tail5_30]
  go_wp2
  conv => arg 2; whnf
  go_wp2
  go_loopw [11, 12] (fun v11 v12 wr => ∃ k : Nat, k ≤ m ∧ v12 = .int .i64 k ∧ v11 = .int .u64 (psum (fun x => F x * outL F O m K x) k : Nat) ∧ Keeps Nob w1 wr) (fun _ v12 _ => m - (intOf v12).toNat)
  case atStart => exact ⟨0, Nat.zero_le _, rfl, rfl, Keeps.refl _ _⟩
  case round =>
    obtain ⟨k, hk, rfl, rfl, hKr⟩ := hrel
    by_cases hlt : k < m
    · have c1 := (hf1.keep hKr (fun h => h)).cell k hlt
      have c2 := (ha1.keep hKr (fun h => h)).cell k (by omega)
      have hb1 := hFb.out k hlt
      have hb2 := HONE.out k hlt
      have hs : psum (fun x => F x * outL F O m K x) (k + 1) = psum (fun x => F x * outL F O m K x) k + F k * outL F O m K k := rfl
      have hmx : psum (fun x => F x * outL F O m K x) (k + 1) ≤ 22517998136852480 := by
        have h1 := psum_mono (f := fun x => F x * outL F O m K x) (a := k + 1) (b := m) (by omega)
        rw [HCOST.out] at h1
        exact Nat.le_trans h1 (Nat.le_trans HT.out.1 HT.out.2)
      obtain ⟨x, hx⟩ : ∃ x, F k = x := ⟨_, rfl⟩
      obtain ⟨y, hy⟩ : ∃ y, outL F O m K k = y := ⟨_, rfl⟩
      obtain ⟨c, hc⟩ : ∃ c, psum (fun x => F x * outL F O m K x) k = c := ⟨_, rfl⟩
      rw [hx, hy, hc] at hs
      rw [hx] at c1 hb1
      rw [hy] at c2 hb2
      rw [hs] at hmx
      rw [hc]
      obtain ⟨z, hz⟩ : ∃ z, x * y = z := ⟨_, rfl⟩
      rw [hz] at hs hmx
      have ez : (x : Int) * (y : Int) = (z : Int) := by rw [← hz, Int.natCast_mul]
      have HS : Hid (psum (fun x => F x * outL F O m K x) (k + 1) = c + z) := hs
      have ew1 : IntKind.u64.wrap (x : Int) = (x : Int) := by rw [IntKind.wrap_u64]; omega
      have ew2 : IntKind.u64.wrap (y : Int) = (y : Int) := by rw [IntKind.wrap_u64]; omega
      have hzb : z ≤ 22517998136852480 := by omega
      have hcb : c ≤ 22517998136852480 := by omega
      have hk1 : (0 : Int) ≤ (k : Int) := by omega
      have hk2 : (k : Int) < (m : Int) := by omega
      have hk3 : (k : Int) < (L : Int) := by omega
      clear hs hx hy hc hz
      go_wp2
      go_quiet (fail)
      go_wp2
      refine ⟨?rel, ?measure⟩
      case rel => exact ⟨k + 1, by omega, by go_num, by rw [HS.out]; go_num, hKr.drewN _⟩
      case measure => simp [intOf]; omega
    · obtain rfl : k = m := by omega
      have hf2 := hf1.keep hKr (fun h => h)
      have hf5 := hf2.slF (enc := encU32) (F := F) (fun _ => rfl) 0 wr.heap.size (Nat.zero_le _) hf2.lt
      have c19 := desc_any (c0 := k) hf5 hm hFb hn
      have hn9 : 2 ≤ occN F k := hn.out
      have hn8 : occN F k ≤ 512 := Nat.le_trans (occN_le F k) hm
      obtain ⟨cost, hcoste⟩ : ∃ cost, psum (fun x => F x * outL F O k K x) k = cost := ⟨_, rfl⟩
      rw [hcoste]
      have HCC : Hid (cost = psum (fun e => psum (wtF F k) (s e)) K) := by rw [← hcoste]; exact HCOST.out
      obtain ⟨n, hne⟩ : ∃ n, occN F k = n := ⟨_, rfl⟩
      rw [hne] at c19 hn9 hn8
      have HN : Hid (occN F k = n) := hne
      clear hcoste hf5 hf2 hne
      go_wp2
      conv => arg 2; whnf
      go_wp2_with (first | (go_at_call 19; refine c19.mono ?_; rintro e w2 ⟨g, rfl, hK2a, hg⟩))
      have c18 : Calls Try.prog 18 #[.slice (some ⟨g, 0, none⟩) n k, .int .i64 (K : Nat)] w2 (fun e w' => e = .returned (.int .u64 (cost : Nat)) ∧ Keeps Nob w2 w') := by
        have e := HN.out
        subst e
        refine (min_any (wt := wtF F k) (t := t) (s := s) hg hn9 hn8 hK hK2 HC (wt_asc (F := F) (m := k)) (wt_sum hm hFb.out) (Nat.le_trans HT.out.2 (by decide)) (Nat.lt_of_le_of_lt (Nat.le_trans HT.out.1 HT.out.2) (by unfold INF; decide))).mono ?_
        rintro e w' ⟨r, rfl, h1, h2, h3⟩
        have e2 : r = cost := by have := HT.out.1; have := HCC.out; omega
        rw [e2]
        exact ⟨rfl, h3⟩
      first
      | (refine c18.mono ?_; rintro e w3 ⟨rfl, hK3⟩)
      | (go_wp2_with (go_at_call 18; refine c18.mono ?_; rintro e w3 ⟨rfl, hK3⟩))
      have hbb : ((cost : Int) == (cost : Int)) = true := by simp
      go_wp2
      go_ret
      exact ⟨rfl, ((hKw1.trans hKr).trans hK2a).trans hK3⟩

end Go.Proofs.Qxb6617947a
