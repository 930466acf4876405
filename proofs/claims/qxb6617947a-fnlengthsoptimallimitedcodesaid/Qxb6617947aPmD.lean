import Derived.Test.Qxb6617947aPs
/-! packageMerge: the lists. -/
namespace Go.Proofs.Qxb6617947a
open Go.RowKit
set_option linter.unusedVariables false
set_option maxHeartbeats 4000000 in
set_option maxRecDepth 100000 in
theorem pmD {w0 : World} {kb ob wb ib lb n L K cap : Nat} {Kf O sym wt Wt LV0 : Nat → Nat} {IV0 : Nat → Bool} {x4 x5 x6 x7 x9 x10 x14 x15 x16 x17 x18 x19 x20 x21 x22 x23 x24 x25 x26 x27 x28 x29 x30 x31 x32 x33 x34 x35 x36 x37 x38 x39 x40 x41 x42 x43 x44 x45 x46 x47 x48 x49 x50 x51 x52 x53 x54 x55 x56 x57 x58 x59 x60 x61 x62 x63 x64 x65 x66 x67 x68 x69 x70 x71 x72 x73 x74 x75 x76 x77 x78 x79 x80 x81 x82 x83 x84 x85 x86 x87 x88 x89 x90 x91 x92 x93 x94 x95 x96 x97 x98 x99 x100 x101 x102 x103 x104 x105 x106 x107 x108 x109 x110 x111 x112 x113 x114 x115 x116 x117 x118 x119 x120 x121 x122 x123 x124 x125 x126 x127 x128 x129 x130 x131 x132 x133 x134 x135 x136 x137 x138 x139 x140 x141 x142 x143 x144 x145 x146 x147 x148 x149 x150 x151 x152 x153 x154 x155 x156 x157 x158 x159 x160 x161 x162 x163 x164 x165 x166 : Value} {w : World}
    (hKw : Keeps (fun b => b = ob) w0 w) (hk : Own w kb 512 (fun j => .int .u64 (Kf j))) (hw : Own w wb 512 (fun j => .int .u64 (Wt j))) (hi : Own w ib 20480 (fun j => .bool (IV0 j))) (hl : Own w lb 2048 (fun j => .int .u64 (LV0 j))) (ho : Own w ob L (fun j => .int .u8 (O j)))
    (d1 : kb ≠ ob) (d2 : ib ≠ ob) (d3 : kb ≠ lb ∧ kb ≠ ib ∧ ob ≠ lb ∧ wb ≠ lb ∧ wb ≠ ib) (hne : lb ≠ ib) (hlb : w0.heap.size ≤ lb) (hib : w0.heap.size ≤ ib) (hn : 2 ≤ n) (hn2 : n ≤ 512) (hK : 1 ≤ K) (hK2 : K ≤ 20) (hnK : Hid (n ≤ 2 ^ K)) (hL : L ≤ 1048576)
    (hI : Hid (∀ j, j < n → IV0 j = true)) (hLV : Hid (∀ j, j < n → LV0 j = wt j)) (hWt : Hid (∀ j, j < n → Wt j = wt j)) (hwb : Hid (∀ i, i < n → wt i ≤ 4294967296))
    (hsym : Hid (∀ i, i < n → sym i = Kf i % 65536 ∧ sym i < L ∧ O (sym i) = 0)) (hinj : Hid (∀ i j, i < n → j < n → sym i = sym j → i = j)) :
    Code.wp Try.prog (tailF Try.f23 14) (bodyPost Try.prog Try.f23 fun e w' => e = .returned (.tuple #[]) ∧ Keeps (fun b => b = ob) w0 w' ∧ Own w' ob L (fun j => .int .u8 (outF O sym n (lenOf (sk wt n K) K) j : Nat))) ⟨#[.pointer (some ⟨kb, 0, none⟩), .int .i64 (n : Nat), .slice (some ⟨ob, 0, none⟩) L cap, .int .i64 (K : Nat), x4, x5, x6, x7, .pointer (some ⟨wb, 0, none⟩), x9, x10, .pointer (some ⟨ib, 0, none⟩), .pointer (some ⟨lb, 0, none⟩), .slice (some ⟨lb, 0, none⟩) n 1024, x14, x15, x16, x17, x18, x19, x20, x21, x22, x23, x24, x25, x26, x27, x28, x29, x30, x31, x32, x33, x34, x35, x36, x37, x38, x39, x40, x41, x42, x43, x44, x45, x46, x47, x48, x49, x50, x51, x52, x53, x54, x55, x56, x57, x58, x59, x60, x61, x62, x63, x64, x65, x66, x67, x68, x69, x70, x71, x72, x73, x74, x75, x76, x77, x78, x79, x80, x81, x82, x83, x84, x85, x86, x87, x88, x89, x90, x91, x92, x93, x94, x95, x96, x97, x98, x99, x100, x101, x102, x103, x104, x105, x106, x107, x108, x109, x110, x111, x112, x113, x114, x115, x116, x117, x118, x119, x120, x121, x122, x123, x124, x125, x126, x127, x128, x129, x130, x131, x132, x133, x134, x135, x136, x137, x138, x139, x140, x141, x142, x143, x144, x145, x146, x147, x148, x149, x150, x151, x152, x153, x154, x155, x156, x157, x158, x159, x160, x161, x162, x163, x164, x165, x166], []⟩ w := by
  rw [tail23_14]
  go_wp2
  conv => arg 2; whnf
  go_wp2
  go_loopw [13, 15] (fun v13 v15 wr => ∃ (kp : Nat) (LV : Nat → Nat) (IV : Nat → Bool), kp + 1 ≤ K ∧ v15 = .int .i64 (kp + 1 : Nat) ∧ v13 = .slice (some ⟨lb, (kp % 2) * 1024, none⟩) (pmL wt n kp).len 1024 ∧ Keeps (fun b => b = lb ∨ b = ib) w wr ∧
      Own wr lb 2048 (fun x => .int .u64 (LV x : Nat)) ∧ Own wr ib 20480 (fun x => .bool (IV x)) ∧ (∀ i, i < (pmL wt n kp).len → LV ((kp % 2) * 1024 + i) = (pmL wt n kp).x i) ∧ (∀ k' i, k' < kp + 1 → i < (pmL wt n k').len → IV (k' * 1024 + i) = flag wt n k' i)) (fun _ v15 _ => K - (intOf v15).toNat)
  case atStart =>
    refine ⟨0, LV0, IV0, hK, rfl, ?_, Keeps.refl _ _, hl, hi, fun i hi2 => ?_, fun k' i hk' hi2 => ?_⟩
    · show _ = Value.slice (some ⟨lb, 0 % 2 * 1024, none⟩) n 1024
      rfl
    · show LV0 (0 % 2 * 1024 + i) = wt i
      rw [show 0 % 2 * 1024 + i = i by omega]
      exact hLV.out i hi2
    · obtain rfl : k' = 0 := by omega
      rw [show 0 * 1024 + i = i by omega]
      exact hI.out i hi2
  case round =>
    obtain ⟨kp, LV, IV, hkp, rfl, rfl, hKp, hOl, hOi, hold, hflo⟩ := hrel
    obtain ⟨wq, rfl⟩ : ∃ wq, wq = wr := ⟨wr, rfl⟩
    have hpl := pmL_len_hi (w := wt) (n := n) (by omega) kp
    have hlens : Hid (∀ k', (pmL wt n k').len ≤ 1024) := fun k' => by have := (pmL_len_hi (w := wt) (n := n) (by omega) k').2; omega
    rcases Nat.lt_or_ge (kp + 1) K with hlt | hge
    · obtain ⟨k, hk1⟩ : ∃ k, k = kp + 1 := ⟨_, rfl⟩
      obtain ⟨q, hq1⟩ : ∃ q, q = kp % 2 := ⟨_, rfl⟩
      obtain ⟨r, hr1⟩ : ∃ r, r = (kp + 1) % 2 := ⟨_, rfl⟩
      have hr2 : r < 2 := by omega
      have hq2 : q < 2 := by omega
      have hrq : r ≠ q := by omega
      have hkr : (k : Int) % 2 = (r : Int) := by omega
      have hk20 : k < 20 := by omega
      have hkK : k < K := by omega
      have bd : Hid (∀ j, j < (pmL wt n kp).len → (pmL wt n kp).x j ≤ 2 ^ 52) := fun j hj => by
        refine Nat.le_trans (pmL_bd hwb.out kp j hj) ?_
        have : 2 ^ kp ≤ 2 ^ 20 := Nat.pow_le_pow_right (by decide) (by omega)
        have h2 : 2 ^ kp * 4294967296 ≤ 2 ^ 20 * 4294967296 := Nat.mul_le_mul_right _ this
        exact h2
      have hnext : Hid (pmL wt n k = nextL wt n (pmL wt n kp)) := by rw [hk1]; rfl
      have hflagk : Hid (∀ i, flag wt n k i = !takesPair wt n (pmL wt n kp) i (cnt wt n (pmL wt n kp) i)) := fun i => by rw [hk1]; rfl
      rw [← hq1] at hold
      rw [← hk1] at hflo
      rw [← hq1, ← hk1]
      have HQ : Hid (q = kp % 2) := hq1
      have HR : Hid (r = (kp + 1) % 2) := hr1
      have HK1 : Hid (k = kp + 1) := hk1
      obtain ⟨l, hl1⟩ : ∃ l, pmL wt n kp = l := ⟨_, rfl⟩
      rw [hl1] at hold hpl bd hnext hflagk
      rw [hl1]
      have HL1 : Hid (pmL wt n kp = l) := hl1
      clear hq1 hr1 hk1 hkp hlt hl1
      have hP0 : PS wq wq lb ib n k r q wt l 0 LV IV := ⟨Keeps.refl _ _, hOl, hOi, hold, fun i hi => absurd hi (Nat.not_lt_zero _), hflo, fun i hi => absurd hi (Nat.not_lt_zero _)⟩
      have HP0 : Hid (PS wq wq lb ib n k r q wt l 0 LV IV) := hP0
      have hlbq := hOl.lt
      have hibq := hOi.lt
      have hwq := hw.keep hKp (fun h => by rcases h with h | h; exact d3.2.2.2.1 h; exact d3.2.2.2.2 h)
      have HWq : Hid (Own wq wb 512 (fun j => .int .u64 (Wt j))) := hwq
      clear hP0 hOl hOi hold hflo hwq
      have hr0 : (0 : Int) ≤ (r : Int) := by omega
      have hr22 : (r : Int) < 2 := by omega
      have hk0 : (0 : Int) ≤ (k : Int) := by omega
      have hk22 : (k : Int) < 20 := by omega
      go_wp2
      go_quiet (fail)
      go_wp2
      clear hkr
      go_loopw [16, 17, 18, 19] (fun v16 v17 v18 v19 wr => ∃ (j c p : Nat) (LV : Nat → Nat) (IV : Nat → Bool), j ≤ n + l.len / 2 ∧ c = cnt wt n l j ∧ j = c + p ∧ v16 = .slice (some ⟨lb, r * 1024, none⟩) j 1024 ∧ v17 = .slice (some ⟨ib, k * 1024, none⟩) j 1024 ∧ v18 = .int .i64 c ∧ v19 = .int .i64 (2 * p : Nat) ∧
        PS wq wr lb ib n k r q wt l j LV IV) (fun _ _ v18 v19 _ => 2 * (n + l.len / 2) - (2 * (intOf v18).toNat + (intOf v19).toNat))
      case atStart => exact ⟨0, 0, 0, LV, IV, Nat.zero_le _, rfl, rfl, rfl, rfl, rfl, rfl, HP0.out.drewN _⟩
      case round =>
        obtain ⟨j, c, p, LV2, IV2, hj, hc, hjc, rfl, rfl, rfl, rfl, hP⟩ := hrel
        have hin := nextL_le (w := wt) (n := n) (l := l) hj
        rw [← hc] at hin
        have HC : Hid (c = cnt wt n l j) := hc
        obtain ⟨h1, h2, h3⟩ := hin
        have hp3 : p ≤ l.len / 2 := by omega
        have HJ : Hid (j = c + p) := hjc
        have hjc' : j - c = p := by omega
        have hj1 : j < 1024 := by omega
        clear hc h2 h3
        have hij : Hid (takesPair wt n l j (cnt wt n l j) = (decide (p < l.len / 2) && (decide (c = n) || decide (l.P p < wt c)))) := by
          show takesPair wt n l j (cnt wt n l j) = _
          rw [← HC.out]
          unfold takesPair
          rw [hjc']
        have hcs : Hid (cnt wt n l (j + 1) = if takesPair wt n l j (cnt wt n l j) = true then c else c + 1) := by
          show (if takesPair wt n l j (cnt wt n l j) = true then cnt wt n l j else cnt wt n l j + 1) = _
          rw [← HC.out]
        have hit : Hid (item wt n l j = if takesPair wt n l j (cnt wt n l j) = true then l.P p else wt c) := by
          show (if takesPair wt n l j (cnt wt n l j) = true then l.P (j - cnt wt n l j) else wt (cnt wt n l j)) = _
          rw [← HC.out, hjc']
        have hsz := hP.kw.size
        obtain ⟨ii, hii⟩ : ∃ ii, 2 * p = ii := ⟨_, rfl⟩
        rw [hii]
        have HII : Hid (2 * p = ii) := hii
        clear hjc' hjc
        rcases Nat.lt_or_ge p (l.len / 2) with hpl2 | hpl2
        · -- a pair is left
          have hiA : (ii : Int) + 1 < (l.len : Int) := by omega
          have hiA0 : (ii : Int) < (l.len : Int) := by omega
          have hii0 : (0 : Int) ≤ (ii : Int) := by omega
          have hc0 := hP.ol.cell (q * 1024 + ii) (by omega)
          have hc1 := hP.ol.cell (q * 1024 + (ii + 1)) (by omega)
          have o0 := hP.old ii (by omega)
          have o1 := hP.old (ii + 1) (by omega)
          have b0 := bd.out ii (by omega)
          have b1 := bd.out (ii + 1) (by omega)
          rw [o0] at hc0
          rw [o1] at hc1
          have hPp : l.P p = l.x ii + l.x (ii + 1) := by unfold Lst.P; rw [hii]
          obtain ⟨X0, e0⟩ : ∃ X, l.x ii = X := ⟨_, rfl⟩
          obtain ⟨X1, e1⟩ : ∃ X, l.x (ii + 1) = X := ⟨_, rfl⟩
          rw [e0] at hc0 b0 hPp
          rw [e1] at hc1 b1 hPp
          have HPP : Hid (l.P p = X0 + X1) := hPp
          have b0' : X0 ≤ 4503599627370496 := b0
          have b1' : X1 ≤ 4503599627370496 := b1
          clear o0 o1 e0 e1 hPp hii b0 b1
          have hc1' := hc1
          rw [show q * 1024 + (ii + 1) = q * 1024 + ii + 1 by omega] at hc1'
          have hii1 : (0 : Int) ≤ (ii : Int) + 1 := by omega
          by_cases hcn : c = n
          · have hb : ((c : Int) == (n : Int)) = true := by simp [hcn]
            have hcz : ¬ (c : Int) < (n : Int) := by omega
            have HT : Hid (takesPair wt n l j (cnt wt n l j) = true) := by
              show _ = true
              rw [hij.out, decide_eq_true hpl2, decide_eq_true hcn]; rfl
            obtain rfl : n = c := hcn.symm
            go_wp2
            go_quiet (fail)
            have hP := hP.drewN nq
            go_wp2_with (first | (at_builtin; refine wpList_append_mid rfl (.tmp 103) (.tmp 105) 44 rfl 24 Try.underlying44 info24 lb (r * 1024) j 1024 rfl ⟨(wr.drewN nq).heap.size, 0, none⟩ 1 1 rfl [.int .u64 ((X0 : Int) + (X1 : Int))] rfl (news1 (wr.drewN nq) _ 24) (one1 _ rfl) (by omega) ((hP.ol.alloc _).there (by omega)) ?_) | (at_builtin; refine wpList_append_mid rfl (.tmp 107) (.tmp 108) 55 rfl 4 Try.underlying55 info4 ib (k * 1024) j 1024 rfl _ 1 1 rfl [.bool false] rfl (news1 _ _ 4) (one1 _ rfl) (by omega) ((((hP.oi.alloc _).setCells_other hne _ _).alloc _).there (by omega)) ?_))
            have hst := hP.step (.cells #[.int .u64 ((X0 : Int) + (X1 : Int))] 24) (.cells #[.bool false] 4) hne hr2 hq2 hrq hk20 hj1 (by omega) hlens.out hlbq hibq (x := X0 + X1) (z := false) (by rw [hit.out, HT.out, if_pos rfl, HPP.out]) (by rw [HT.out]; rfl)
            unfold stepW at hst
            rw [Int.natCast_add] at hst
            go_wp2
            go_roundw
            case rel =>
              refine ⟨j + 1, n, p + 1, updF LV2 (r * 1024 + j) (X0 + X1), updB IV2 (k * 1024 + j) false, by have := HJ.out; omega, by rw [hcs.out, HT.out]; rfl, by have := HJ.out; omega, by go_num, by go_num, by go_num, by have := HII.out; go_num, ?_⟩
              exact hst
            case measure => have := HII.out; simp [intOf]; omega
          · have hb : ((c : Int) == (n : Int)) = false := by simp; omega
            have hcl : (c : Int) < (n : Int) := by omega
            have hcw := ((HWq.out.keep hP.kw (fun h => by rcases h with h | h; exact d3.2.2.2.1 h; exact d3.2.2.2.2 h)).cell c (by omega))
            rw [hWt.out c (by omega)] at hcw
            have hwl := hwb.out c (by omega)
            obtain ⟨Wc, hWc⟩ : ∃ Wc, wt c = Wc := ⟨_, rfl⟩
            rw [hWc] at hcw hwl
            have HWC : Hid (wt c = Wc) := hWc
            clear hWc
            by_cases hpw : X0 + X1 < Wc
            · have hpw' : (X0 : Int) + (X1 : Int) < (Wc : Int) := by omega
              have HT : Hid (takesPair wt n l j (cnt wt n l j) = true) := by
                show _ = true
                rw [hij.out, decide_eq_true hpl2, HPP.out, HWC.out, decide_eq_true hpw, Bool.or_true]; rfl
              go_wp2
              go_quiet (fail)
              have hP := hP.drewN nq
              go_wp2_with (first | (at_builtin; refine wpList_append_mid rfl (.tmp 103) (.tmp 105) 44 rfl 24 Try.underlying44 info24 lb (r * 1024) j 1024 rfl ⟨(wr.drewN nq).heap.size, 0, none⟩ 1 1 rfl [.int .u64 ((X0 : Int) + (X1 : Int))] rfl (news1 (wr.drewN nq) _ 24) (one1 _ rfl) (by omega) ((hP.ol.alloc _).there (by omega)) ?_) | (at_builtin; refine wpList_append_mid rfl (.tmp 107) (.tmp 108) 55 rfl 4 Try.underlying55 info4 ib (k * 1024) j 1024 rfl _ 1 1 rfl [.bool false] rfl (news1 _ _ 4) (one1 _ rfl) (by omega) ((((hP.oi.alloc _).setCells_other hne _ _).alloc _).there (by omega)) ?_))
              have hst := hP.step (.cells #[.int .u64 ((X0 : Int) + (X1 : Int))] 24) (.cells #[.bool false] 4) hne hr2 hq2 hrq hk20 hj1 (by omega) hlens.out hlbq hibq (x := X0 + X1) (z := false) (by rw [hit.out, HT.out, if_pos rfl, HPP.out]) (by rw [HT.out]; rfl)
              unfold stepW at hst
              rw [Int.natCast_add] at hst
              go_wp2
              go_roundw
              case rel =>
                refine ⟨j + 1, c, p + 1, updF LV2 (r * 1024 + j) (X0 + X1), updB IV2 (k * 1024 + j) false, by have := HJ.out; omega, by rw [hcs.out, HT.out]; rfl, by have := HJ.out; omega, by go_num, by go_num, by go_num, by have := HII.out; go_num, ?_⟩
                exact hst
              case measure => have := HII.out; simp [intOf]; omega
            · have hpw' : ¬ (X0 : Int) + (X1 : Int) < (Wc : Int) := by omega
              have HT : Hid (takesPair wt n l j (cnt wt n l j) = false) := by
                show _ = false
                rw [hij.out, decide_eq_true hpl2, HPP.out, HWC.out, decide_eq_false hpw, decide_eq_false hcn]; rfl
              go_wp2
              go_quiet (fail)
              have hP := hP.drewN nq
              go_wp2_with (first | (at_builtin; refine wpList_append_mid rfl (.tmp 112) (.tmp 116) 44 rfl 24 Try.underlying44 info24 lb (r * 1024) j 1024 rfl ⟨(wr.drewN nq).heap.size, 0, none⟩ 1 1 rfl [.int .u64 (Wc : Int)] rfl (news1 (wr.drewN nq) _ 24) (one1 _ rfl) (by omega) ((hP.ol.alloc _).there (by omega)) ?_) | (at_builtin; refine wpList_append_mid rfl (.tmp 118) (.tmp 119) 55 rfl 4 Try.underlying55 info4 ib (k * 1024) j 1024 rfl _ 1 1 rfl [.bool true] rfl (news1 _ _ 4) (one1 _ rfl) (by omega) ((((hP.oi.alloc _).setCells_other hne _ _).alloc _).there (by omega)) ?_))
              have hst := hP.step (.cells #[.int .u64 (Wc : Int)] 24) (.cells #[.bool true] 4) hne hr2 hq2 hrq hk20 hj1 (by omega) hlens.out hlbq hibq (x := Wc) (z := true) (by rw [hit.out, HT.out, HWC.out]; rfl) (by rw [HT.out]; rfl)
              unfold stepW at hst
              go_wp2
              go_roundw
              case rel =>
                refine ⟨j + 1, c + 1, p, updF LV2 (r * 1024 + j) Wc, updB IV2 (k * 1024 + j) true, by have := HJ.out; omega, by rw [hcs.out, HT.out]; rfl, by have := HJ.out; omega, by go_num, by go_num, by go_num, by have := HII.out; go_num, ?_⟩
                exact hst
              case measure => have := HII.out; simp [intOf]; omega
        · -- no pair is left
          have hpe : p = l.len / 2 := by omega
          have hiA : ¬ (ii : Int) + 1 < (l.len : Int) := by omega
          by_cases hcn : c = n
          · obtain rfl : n = c := hcn.symm
            have hjT : j = n + l.len / 2 := by have := HJ.out; omega
            have hcz : ¬ (n : Int) < (n : Int) := by omega
            go_wp2
            refine ⟨⟨k, LV2, IV2, by omega, by go_num, ?_, hKp.trans hP.kw, hP.ol, hP.oi, ?_, ?_⟩, by simp [intOf]; omega⟩
            · rw [hnext.out, hjT, show k % 2 = r by have := HK1.out; have := HR.out; omega]
              rfl
            · intro i hi2
              rw [hnext.out] at hi2 ⊢
              rw [show k % 2 = r by have := HK1.out; have := HR.out; omega]
              exact hP.new i (by rw [hjT]; exact hi2)
            · intro k' i hk' hi2
              rcases Nat.lt_or_ge k' k with h9 | h9
              · exact hP.flo k' i h9 hi2
              · obtain rfl : k' = k := by omega
                rw [hnext.out] at hi2
                rw [hflagk.out i]
                exact hP.fln i (by rw [hjT]; exact hi2)
          · have hcl : (c : Int) < (n : Int) := by omega
            have hcw := ((HWq.out.keep hP.kw (fun h => by rcases h with h | h; exact d3.2.2.2.1 h; exact d3.2.2.2.2 h)).cell c (by omega))
            rw [hWt.out c (by omega)] at hcw
            have hwl := hwb.out c (by omega)
            obtain ⟨Wc, hWc⟩ : ∃ Wc, wt c = Wc := ⟨_, rfl⟩
            rw [hWc] at hcw hwl
            have HWC : Hid (wt c = Wc) := hWc
            have HT : Hid (takesPair wt n l j (cnt wt n l j) = false) := by
              show _ = false
              rw [hij.out, decide_eq_false (by omega)]; rfl
            clear hWc
            go_wp2_with (first | (at_builtin; refine wpList_append_mid rfl (.tmp 112) (.tmp 116) 44 rfl 24 Try.underlying44 info24 lb (r * 1024) j 1024 rfl ⟨wr.heap.size, 0, none⟩ 1 1 rfl [.int .u64 (Wc : Int)] rfl (news1 wr _ 24) (one1 _ rfl) (by omega) ((hP.ol.alloc _).there (by omega)) ?_) | (at_builtin; refine wpList_append_mid rfl (.tmp 118) (.tmp 119) 55 rfl 4 Try.underlying55 info4 ib (k * 1024) j 1024 rfl _ 1 1 rfl [.bool true] rfl (news1 _ _ 4) (one1 _ rfl) (by omega) ((((hP.oi.alloc _).setCells_other hne _ _).alloc _).there (by omega)) ?_))
            have hst := hP.step (.cells #[.int .u64 (Wc : Int)] 24) (.cells #[.bool true] 4) hne hr2 hq2 hrq hk20 hj1 (by omega) hlens.out hlbq hibq (x := Wc) (z := true) (by rw [hit.out, HT.out, HWC.out]; rfl) (by rw [HT.out]; rfl)
            unfold stepW at hst
            go_wp2
            go_roundw
            case rel =>
              refine ⟨j + 1, c + 1, p, updF LV2 (r * 1024 + j) Wc, updB IV2 (k * 1024 + j) true, by have := HJ.out; omega, by rw [hcs.out, HT.out]; rfl, by have := HJ.out; omega, by go_num, by go_num, by go_num, by have := HII.out; go_num, ?_⟩
              exact hst
            case measure => have := HII.out; simp [intOf]; omega
    · have hKe : Hid (K = kp + 1) := by show _ = _; omega
      have hKz : ¬ ((kp : Int) + 1 < (K : Int)) := by omega
      have hk9 := hk.keep hKp (fun h => by rcases h with h | h; exact d3.1 h; exact d3.2.1 h)
      have ho9 := ho.keep hKp (fun h => by rcases h with h | h; exact d3.2.2.1 h; exact d2 h.symm)
      have hK9 := keeps_new hKw hKp (fun b hb => by rcases hb with h | h <;> omega)
      have hI9 : Hid (∀ k j, k < K → j < (pmL wt n k).len → IV (k * 1024 + j) = flag wt n k j) := fun k j hk hj => hflo k j (by have := hKe.out; omega) hj
      clear hflo hold
      go_wp2
      rw [tail23_29]
      go_wp2
      conv => arg 2; whnf
      go_wp2
      rw [show (2 * (n : Int) - 2) = ((2 * n - 2 : Nat) : Int) by omega]
      exact pmE hK9 hk9 hOi ho9 d1 d2 hn hn2 hK hK2 hnK hL hI9 hsym hinj

end Go.Proofs.Qxb6617947a
