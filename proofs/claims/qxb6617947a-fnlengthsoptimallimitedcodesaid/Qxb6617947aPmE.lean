import Derived.Test.Qxb6617947aCut
/-! packageMerge: the lengths out of the lists. -/
namespace Go.Proofs.Qxb6617947a
set_option linter.unusedVariables false
open Go.RowKit

theorem flagN_le (w : Nat → Nat) (n k : Nat) : ∀ j, flagN w n k j ≤ j
  | 0 => Nat.le_refl _
  | j + 1 => by
    have := flagN_le w n k j
    show flagN w n k j + (if flag w n k j = true then 1 else 0) ≤ j + 1
    split <;> omega
theorem keep_ob {w0 w : World} {ob : Nat} (h : Keeps (fun b => b = ob) w0 w) (v : Value) (i : Nat) : Keeps (fun b => b = ob) w0 (w.setCell ⟨ob, i, none⟩ v) := h.setCell (p := ⟨ob, i, none⟩) rfl v
set_option maxHeartbeats 4000000 in
set_option maxRecDepth 100000 in
theorem pmE {w0 : World} {kb ob ib n L K cap : Nat} {Kf O sym wt : Nat → Nat} {IV : Nat → Bool} {x4 x5 x6 x7 x8 x9 x10 x12 x13 x14 x15 x16 x17 x18 x19 x20 x22 x23 x24 x25 x26 x27 x28 x29 x30 x31 x32 x33 x34 x35 x36 x37 x38 x39 x40 x41 x42 x43 x44 x45 x46 x47 x48 x49 x50 x51 x52 x53 x54 x55 x56 x57 x58 x59 x60 x61 x62 x63 x64 x65 x66 x67 x68 x69 x70 x71 x72 x73 x74 x75 x76 x77 x78 x79 x80 x81 x82 x83 x84 x85 x86 x87 x88 x89 x90 x91 x92 x93 x94 x95 x96 x97 x98 x99 x100 x101 x102 x103 x104 x105 x106 x107 x108 x109 x110 x111 x112 x113 x114 x115 x116 x117 x118 x119 x120 x121 x122 x123 x124 x125 x126 x127 x128 x129 x130 x131 x132 x133 x134 x135 x136 x137 x138 x139 x140 x141 x142 x143 x144 x145 x146 x147 x148 x149 x150 x151 x152 x153 x154 x155 x156 x157 x158 x159 x160 x161 x162 x163 x164 x165 x166 : Value} {w : World}
    (hKw : Keeps (fun b => b = ob) w0 w) (hk : Own w kb 512 (fun j => .int .u64 (Kf j))) (hi : Own w ib 20480 (fun j => .bool (IV j))) (ho : Own w ob L (fun j => .int .u8 (O j)))
    (d1 : kb ≠ ob) (d2 : ib ≠ ob) (hn : 2 ≤ n) (hn2 : n ≤ 512) (hK : 1 ≤ K) (hK2 : K ≤ 20) (hnK : Hid (n ≤ 2 ^ K)) (hL : L ≤ 1048576)
    (hI : Hid (∀ k j, k < K → j < (pmL wt n k).len → IV (k * 1024 + j) = flag wt n k j)) (hsym : Hid (∀ i, i < n → sym i = Kf i % 65536 ∧ sym i < L ∧ O (sym i) = 0)) (hinj : Hid (∀ i j, i < n → j < n → sym i = sym j → i = j)) :
    Code.wp Try.prog (tailF Try.f23 30) (bodyPost Try.prog Try.f23 fun e w' => e = .returned (.tuple #[]) ∧ Keeps (fun b => b = ob) w0 w' ∧ Own w' ob L (fun j => .int .u8 (outF O sym n (lenOf (sk wt n K) K) j : Nat))) ⟨#[.pointer (some ⟨kb, 0, none⟩), .int .i64 (n : Nat), .slice (some ⟨ob, 0, none⟩) L cap, .int .i64 (K : Nat), x4, x5, x6, x7, x8, x9, x10, .pointer (some ⟨ib, 0, none⟩), x12, x13, x14, x15, x16, x17, x18, x19, x20, .int .i64 (2 * n - 2 : Nat), x22, x23, x24, x25, x26, x27, x28, x29, x30, x31, x32, x33, x34, x35, x36, x37, x38, x39, x40, x41, x42, x43, x44, x45, x46, x47, x48, x49, x50, x51, x52, x53, x54, x55, x56, x57, x58, x59, x60, x61, x62, x63, x64, x65, x66, x67, x68, x69, x70, x71, x72, x73, x74, x75, x76, x77, x78, x79, x80, x81, x82, x83, x84, x85, x86, x87, x88, x89, x90, x91, x92, x93, x94, x95, x96, x97, x98, x99, x100, x101, x102, x103, x104, x105, x106, x107, x108, x109, x110, x111, x112, x113, x114, x115, x116, x117, x118, x119, x120, x121, x122, x123, x124, x125, x126, x127, x128, x129, x130, x131, x132, x133, x134, x135, x136, x137, x138, x139, x140, x141, x142, x143, x144, x145, x146, x147, x148, x149, x150, x151, x152, x153, x154, x155, x156, x157, x158, x159, x160, x161, x162, x163, x164, x165, x166], []⟩ w := by
  conv => arg 2; whnf
  go_wp2
  go_loopw [21, 22] (fun v21 v22 wr => ∃ (e : Nat) (z : Int), e ≤ K ∧ z = (K : Int) - 1 - e ∧ v22 = .int .i64 z ∧ v21 = .int .i64 (tk wt n K e : Nat) ∧ Keeps (fun b => b = ob) w wr ∧ Own wr ob L (fun j => .int .u8 (outF O sym n (lenOf (sk wt n K) e) j : Nat))) (fun _ v22 _ => (intOf v22 + 1).toNat)
  case atStart => exact ⟨0, (K : Int) - 1, Nat.zero_le _, by omega, rfl, rfl, Keeps.refl _ _, by
    have e1 : lenOf (sk wt n K) 0 = fun _ => 0 := rfl
    rw [e1, outF_zero]; exact ho⟩
  case round =>
    obtain ⟨e, z, he, hz, rfl, rfl, hK1, hO1⟩ := hrel
    obtain ⟨wq, rfl⟩ : ∃ wq, wq = wr := ⟨wr, rfl⟩
    rcases Nat.lt_or_ge e K with hlt | hge
    · obtain ⟨kk, hkk⟩ : ∃ kk, K = kk + e + 1 := ⟨K - 1 - e, by omega⟩
      obtain rfl : z = (kk : Int) := by omega
      have hkK : kk < K := by omega
      have ht := tk_le (w := wt) (n := n) hn hK hnK.out e hlt
      have hl2 := (pmL_len_hi (w := wt) (n := n) (by omega) (K - 1 - e)).2
      have hsk := sk_le (w := wt) (n := n) hn hK hnK.out hlt
      have hske : sk wt n K e = flagN wt n kk (tk wt n K e) := by
        rw [flagN_eq]
        unfold sk
        rw [show K - 1 - e = kk by omega]
      have htk1 : tk wt n K (e + 1) = 2 * (tk wt n K e - sk wt n K e) := rfl
      have hIr : ∀ j, j < tk wt n K e → IV (kk * 1024 + j) = flag wt n kk j := fun j hj => hI.out kk j hkK (by
        rw [show K - 1 - e = kk by omega] at ht
        omega)
      obtain ⟨t, het⟩ : ∃ t, tk wt n K e = t := ⟨_, rfl⟩
      rw [het] at ht hsk hske htk1 hIr
      rw [het]
      obtain ⟨s, hes⟩ : ∃ s, sk wt n K e = s := ⟨_, rfl⟩
      rw [hes] at hsk hske htk1
      have HTK : Hid (tk wt n K (e + 1) = 2 * (t - s)) := htk1
      have HSK : Hid (s = flagN wt n kk t) := hske
      have HES : Hid (sk wt n K e = s) := hes
      have HIR : Hid (∀ j, j < t → IV (kk * 1024 + j) = flag wt n kk j) := hIr
      have htl : t ≤ 1023 := by omega
      have hsn : s ≤ n := hsk.1
      have hst : s ≤ t := hsk.2
      have HKK : Hid (K = kk + e + 1) := hkk
      have hkk20 : kk < 20 := by omega
      clear het hes htk1 hske hIr ht hl2 hsk hz hkk
      have hA : (t : Int) ≤ 1024 := by omega
      have hA0 : (0 : Int) ≤ (t : Int) := by omega
      go_wp2
      go_loopw [23, 138] (fun v23 v138 wr2 => ∃ j : Nat, j ≤ t ∧ v138 = .int .i64 j ∧ v23 = .int .i64 (flagN wt n kk j : Nat) ∧ wr2 = wq) (fun _ v138 _ => t - (intOf v138).toNat)
      case atStart => exact ⟨0, Nat.zero_le _, rfl, rfl, rfl⟩
      case round =>
        obtain ⟨j, hj, rfl, rfl, hwr⟩ := hrel
        obtain rfl : wq = wr := hwr.symm
        have hfj : flagN wt n kk j ≤ j := flagN_le wt n kk j
        by_cases hjt : j < t
        · have hf := HIR.out j hjt
          have hc := (hi.keep hK1 (fun h => d2 h)).cell (kk * 1024 + j) (by omega)
          have hs : flagN wt n kk (j + 1) = flagN wt n kk j + (if flag wt n kk j = true then 1 else 0) := rfl
          rw [hf] at hc
          obtain ⟨q, hq⟩ : ∃ q, flagN wt n kk j = q := ⟨_, rfl⟩
          obtain ⟨x, hx⟩ : ∃ x, flag wt n kk j = x := ⟨_, rfl⟩
          rw [hq, hx] at hs
          rw [hx] at hc
          rw [hq] at hfj ⊢
          have HS : Hid (flagN wt n kk (j + 1) = q + (if x = true then 1 else 0)) := hs
          clear hf hs hq hx
          cases x
          all_goals
            go_wp2
            refine ⟨?rel, ?measure⟩
            case rel => exact ⟨j + 1, by omega, by go_num, by rw [HS.out]; first | rfl | go_num, trivial⟩
            case measure => simp [intOf]; omega
        · obtain rfl : j = t := by omega
          rw [← HSK.out]
          clear hfj
          have hA2 : (s : Int) ≤ 512 := by omega
          have hA3 : (0 : Int) ≤ (s : Int) := by omega
          go_wp2
          go_loopw [151] (fun v151 wr2 => ∃ j : Nat, j ≤ s ∧ v151 = .int .i64 j ∧ Keeps (fun b => b = ob) wq wr2 ∧ Own wr2 ob L (fun x => .int .u8 (outF O sym n (fun i => lenOf (sk wt n K) e i + if i < j then 1 else 0) x : Nat))) (fun v151 _ => s - (intOf v151).toNat)
          case atStart => exact ⟨0, Nat.zero_le _, rfl, Keeps.refl _ _, by
            rw [outF_congr (g' := lenOf (sk wt n K) e) (fun i _ => by simp)]; exact hO1⟩
          case round =>
            obtain ⟨j2, hj2, rfl, hK2, hO2⟩ := hrel
            have hK3 := hK1.trans hK2
            by_cases hjs : j2 < s
            · obtain ⟨y1, y2, y3⟩ := hsym.out j2 (by omega)
              have hck := (hk.keep hK3 (fun h => d1 h)).cell j2 (by omega)
              have hco := hO2.cell (sym j2) y2
              have hfo := hO2.free (sym j2)
              have hle := lenOf_le (sk wt n K) e j2
              have hat := outF_at (O := O) (g := fun i => lenOf (sk wt n K) e i + if i < j2 then 1 else 0) hinj.out (show j2 < n by omega)
              rw [y3, if_neg (by omega)] at hat
              have hstep := outF_step (O := O) (sym := sym) (n := n) (g := fun i => lenOf (sk wt n K) e i + if i < j2 then 1 else 0) (j := j2) (by omega)
              obtain ⟨v, hv⟩ : ∃ v, outF O sym n (fun i => lenOf (sk wt n K) e i + if i < j2 then 1 else 0) (sym j2) = v := ⟨_, rfl⟩
              rw [hv] at hco hat
              have hv20 : v ≤ 20 := by omega
              obtain ⟨X, hX⟩ : ∃ X, Kf j2 = X := ⟨_, rfl⟩
              rw [hX] at hck y1
              obtain ⟨Y, hY⟩ : ∃ Y, sym j2 = Y := ⟨_, rfl⟩
              rw [hY] at hco hfo y2 y1
              have Y1 : Hid (sym j2 = Y) := hY
              have hwX : IntKind.u16.wrap (X : Int) = (Y : Int) := by rw [IntKind.wrap_u16]; omega
              have HV : Hid (outF O sym n (fun i => lenOf (sk wt n K) e i + if i < j2 then 1 else 0) (sym j2) = v) := hv
              have HST : Hid (∀ x, outF O sym n (fun i => lenOf (sk wt n K) e i + (if i < j2 then 1 else 0) + if i = j2 then 1 else 0) x = if x = sym j2 then outF O sym n (fun i => lenOf (sk wt n K) e i + if i < j2 then 1 else 0) (sym j2) + 1 else outF O sym n (fun i => lenOf (sk wt n K) e i + if i < j2 then 1 else 0) x) := fun x => by
                rw [hstep x]
                by_cases hxx : x = sym j2
                · rw [if_pos hxx, if_pos hxx, hxx]
                · rw [if_neg hxx, if_neg hxx]
              clear y1 y3 hat hv hX hstep hle hY
              have hy2 : (Y : Int) < (L : Int) := by omega
              go_wp2
              refine ⟨?rel, ?measure⟩
              case rel =>
                refine ⟨j2 + 1, by omega, by go_num, keep_ob hK2 _ _, ?_⟩
                refine (hO2.set y2 _).congr fun x _ => ?_
                rw [outF_congr (g := fun i => lenOf (sk wt n K) e i + if i < j2 + 1 then 1 else 0) (g' := fun i => lenOf (sk wt n K) e i + (if i < j2 then 1 else 0) + if i = j2 then 1 else 0) (fun i _ => by
                  show lenOf (sk wt n K) e i + (if i < j2 + 1 then 1 else 0) = lenOf (sk wt n K) e i + (if i < j2 then 1 else 0) + if i = j2 then 1 else 0
                  split <;> split <;> split <;> omega), HST.out x]
                unfold updV
                rw [HV.out, Y1.out]
                by_cases hxx : x = Y
                · rw [if_pos hxx, if_pos hxx]
                  go_num
                · rw [if_neg hxx, if_neg hxx]
              case measure => simp [intOf]; omega
            · obtain rfl : j2 = s := by omega
              go_wp2
              refine ⟨?rel, ?measure⟩
              case rel =>
                refine ⟨e + 1, (kk : Int) - 1, by omega, by have := HKK.out; omega, rfl, ?_, hK3, ?_⟩
                · rw [HTK.out]
                  congr 1
                  omega
                · have e1 : outF O sym n (lenOf (sk wt n K) (e + 1)) = outF O sym n (fun i => lenOf (sk wt n K) e i + if i < j2 then 1 else 0) := outF_congr fun i _ => by
                    show lenOf (sk wt n K) e i + (if i < sk wt n K e then 1 else 0) = _
                    rw [HES.out]
                  rw [e1]; exact hO2
              case measure => simp [intOf]
    · obtain rfl : e = K := by omega
      have hz0 : z < 0 := by omega
      have hz1 : ¬ (0 : Int) ≤ z := by omega
      go_wp2
      exact Go.Great.bodyPost_end0 rfl rfl ⟨rfl, hKw.trans hK1, hO1⟩

end Go.Proofs.Qxb6617947a
