import Derived.Test.Qxb6617947aKy
import Derived.Test.Qxb6617947aSm2
import Derived.Test.Qxb6617947aLz
/-! The lengths make a complete code; they do not hang on the frequencies' scale, nor on symbols that do not occur. -/
namespace Go.Proofs.Qxb6617947a

theorem psum_comm (f : Nat → Nat → Nat) (m : Nat) : ∀ n, psum (fun i => psum (fun s => f i s) m) n = psum (fun s => psum (fun i => f i s) n) m
  | 0 => by
    show 0 = psum (fun s => 0) m
    rw [psum_zero]
  | n + 1 => by
    show psum (fun i => psum (fun s => f i s) m) n + psum (fun s => f n s) m = psum (fun s => psum (fun i => f i s) n + f n s) m
    rw [psum_comm f m n, psum_add]
theorem by_rank {F : Nat → Nat} {m : Nat} (hm : m ≤ 512) (h : Nat → Nat) : psum (fun s => if 0 < F s then h s else 0) m = psum (fun i => h (symF F m i)) (occN F m) := by
  have e1 : ∀ s, s < m → (fun s => if 0 < F s then h s else 0) s = (fun s => psum (fun i => if symF F m i = s then h s else 0) (occN F m)) s := fun s hs => by
    show (if 0 < F s then h s else 0) = psum (fun i => if symF F m i = s then h s else 0) (occN F m)
    by_cases h0 : 0 < F s
    · obtain ⟨i, hi, e⟩ := sym_surj (F := F) (m := m) (by omega) hs h0
      have : psum (fun i => if symF F m i = s then h s else 0) (occN F m) = h s :=
        psum_one hi (fun j hj hne => by
          show (if symF F m j = s then h s else 0) = 0
          rw [if_neg (fun e2 => hne (sym_inj (by omega) j i hj hi (by rw [e2, e])))]) (by
          show (if symF F m i = s then h s else 0) = h s
          rw [if_pos e])
      rw [if_pos h0, this]
    · rw [if_neg h0, psum_congr (g := fun _ => 0) (fun i hi => if_neg (fun e => h0 (by rw [← e]; exact (Kf_sym (by omega) hi).2.1))), psum_zero]
  rw [psum_congr e1, ← psum_comm]
  refine psum_congr fun i hi => ?_
  show psum (fun s => if symF F m i = s then h s else 0) m = h (symF F m i)
  exact psum_one (Kf_sym (by omega) hi).1 (fun s _ hne => if_neg (fun e => hne e.symm)) (if_pos rfl)

theorem mxD_ge {g : Nat → Nat} : ∀ {n i : Nat}, i < n → g i ≤ mxD g n
  | 0, i, h => by omega
  | n + 1, i, h => by
    show g i ≤ max (mxD g n) (g n)
    rcases Nat.lt_or_ge i n with h1 | h1
    · have := mxD_ge (g := g) h1; omega
    · obtain rfl : i = n := by omega
      omega
theorem kraft_down {n N K : Nat} {t s : Nat → Nat} (hKN : K ≤ N) (C : Chain n N t s) (D : Nat → Nat) (hD : ∀ i, D i = lenOf s N i) (hle : ∀ i, i < n → D i ≤ K) : psum (fun i => 2 ^ (K - D i)) n = 2 ^ K := by
  have hk := C.kraft
  have e2 : psum (fun i => 2 ^ (N - lenOf s N i)) n = 2 ^ (N - K) * psum (fun i => 2 ^ (K - D i)) n := by
    rw [← psum_mul]
    refine psum_congr fun i hi => ?_
    show 2 ^ (N - lenOf s N i) = 2 ^ (N - K) * 2 ^ (K - D i)
    rw [← hD, ← Nat.pow_add]
    have := hle i hi
    congr 1
    omega
  have e3 : (2 : Nat) ^ N = 2 ^ (N - K) * 2 ^ K := by rw [← Nat.pow_add]; congr 1; omega
  rw [e2, e3] at hk
  exact Nat.eq_of_mul_eq_mul_left (Nat.two_pow_pos _) hk
/-- The lengths by rank: Kraft's sum is one; each lies in 1 .. K. -/
theorem lv_ok {w : Nat → Nat} {n K : Nat} (hn : 2 ≤ n) (hw : Asc w n) (hp : ∀ i, i < n → 1 ≤ w i) (hs : psum w n < 2 ^ 50) (hK : 1 ≤ K) (hK2 : K ≤ 20) (hnK : n ≤ 2 ^ K) :
    (∀ i, i < n → 1 ≤ lv w n K i ∧ lv w n K i ≤ K) ∧ psum (fun i => 2 ^ (K - lv w n K i)) n = 2 ^ K := by
  by_cases hb : K < mxD (hD w n) n
  · have e : ∀ i, lv w n K i = lenOf (sk w n K) K i := fun i => if_pos hb
    have C := pm_chain hn hK hnK hw hp
    refine ⟨fun i hi => ?_, ?_⟩
    · rw [e]; exact ⟨C.pos hi, lenOf_le _ _ _⟩
    · rw [psum_congr (g := fun i => 2 ^ (K - lenOf (sk w n K) K i)) (fun i _ => by show 2 ^ (K - lv w n K i) = _; rw [e])]
      exact C.kraft
  · have e : ∀ i, lv w n K i = hD w n i := fun i => if_neg hb
    have C := h_chain hn hw (ht_end hn hw hp hs)
    have hle : ∀ i, i < n → hD w n i ≤ K := fun i hi => by have := mxD_ge (g := hD w n) hi; omega
    refine ⟨fun i hi => ?_, ?_⟩
    · rw [e]; exact ⟨C.pos hi, hle i hi⟩
    · rw [psum_congr (g := fun i => 2 ^ (K - hD w n i)) (fun i _ => by show 2 ^ (K - lv w n K i) = _; rw [e])]
      exact kraft_down (by omega) C (hD w n) (fun _ => rfl) hle

/-- What Lengths leaves. -/
def outL (F O : Nat → Nat) (m K : Nat) : Nat → Nat := outF (clr O m) (symF F m) (occN F m) (lv (wtF F m) (occN F m) K)
theorem out_sym {F O : Nat → Nat} {m K i : Nat} (hm : m ≤ 512) (hi : i < occN F m) : outL F O m K (symF F m i) = lv (wtF F m) (occN F m) K i := by
  unfold outL
  rw [outF_at (sym_inj (by omega)) hi]
  have := (Kf_sym (F := F) (m := m) (by omega) hi).1
  unfold clr
  rw [if_pos this, Nat.zero_add]
theorem out_complete {F O : Nat → Nat} {m K : Nat} (hm : m ≤ 512) (hF : ∀ i, i < m → F i < 4294967296) (hn : 2 ≤ occN F m) (hK : 1 ≤ K) (hK2 : K ≤ 20) (hnK : occN F m ≤ 2 ^ K) : Complete F (outL F O m K) m K := by
  obtain ⟨l1, l2⟩ := lv_ok hn (wt_asc (F := F) (m := m)) (wt_pos (by omega)) (wt_sum hm hF) hK hK2 hnK
  refine ⟨fun s hs h0 => ?_, fun s hs h0 => ?_, ?_⟩
  · unfold outL
    rw [outF_off (fun i hi e => by have := (Kf_sym (F := F) (m := m) (by omega) hi).2.1; rw [e] at this; omega)]
    exact if_pos hs
  · obtain ⟨i, hi, e⟩ := sym_surj (F := F) (m := m) (by omega) hs h0
    rw [← e, out_sym hm hi]
    exact l1 i hi
  · rw [by_rank hm (fun s => 2 ^ (K - outL F O m K s))]
    rw [psum_congr (g := fun i => 2 ^ (K - lv (wtF F m) (occN F m) K i)) (fun i hi => by show 2 ^ (K - outL F O m K (symF F m i)) = _; rw [out_sym hm hi])]
    exact l2
end Go.Proofs.Qxb6617947a
