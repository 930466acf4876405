import Derived.Test.Qxb6617947aOp
/-! The search over the levels: plain laws. -/
namespace Go.Proofs.Qxb6617947a
open Go.RowKit
set_option linter.unusedVariables false
set_option linter.unusedSimpArgs false

section
variable {n K : Nat} {t s : Nat → Nat} (C : Chain n K t s)
include C
theorem Chain.even : ∀ e, e ≤ K → ∃ h, t e = 2 * h
  | 0, _ => ⟨n - 1, by rw [C.t0]; omega⟩
  | e + 1, h => ⟨t e - s e, C.next e (by omega)⟩
theorem Chain.grow {e : Nat} (h1 : 0 < t e) (h2 : 2 * s e ≤ t e) : ∀ f, e + f ≤ K → e + f < K → t e ≤ t (e + f) ∧ 2 * s (e + f) ≤ t (e + f)
  | 0, _, _ => ⟨Nat.le_refl _, h2⟩
  | f + 1, h3, h4 => by
    obtain ⟨g1, g2⟩ := Chain.grow h1 h2 f (by omega) (by omega)
    have a := C.next (e + f) (by omega)
    have b := C.nest (e + f) (by omega)
    rw [show e + (f + 1) = e + f + 1 by omega]
    omega
theorem Chain.tight {e : Nat} (he : e < K) : (t e = 0 ∧ s e = 0) ∨ (t e + 2 ≤ 2 * s e ∧ 0 < s e) := by
  have h1 := C.st e he
  obtain ⟨h, hh⟩ := C.even e (by omega)
  rcases Nat.eq_zero_or_pos (t e) with h0 | h0
  · left; omega
  · right
    rcases Nat.lt_or_ge (t e) (2 * s e) with h2 | h2
    · omega
    · exfalso
      obtain ⟨f, hf⟩ : ∃ f, K = e + f + 1 := ⟨K - e - 1, by omega⟩
      obtain ⟨g1, g2⟩ := C.grow h0 h2 f (by omega) (by omega)
      have a := C.next (e + f) (by omega)
      have d := C.done
      rw [hf] at d
      omega
theorem Chain.s0 (hK : 1 ≤ K) : s 0 = n := by
  have h1 := C.tight (e := 0) (by omega)
  have h2 := C.sn 0 (by omega)
  have h3 := C.t0
  have h4 := C.n2
  omega
/-- Behind level e: what is free there is what the next level asks for, halved. -/
theorem Chain.fits {e : Nat} (he : e < K) (hs : s K = 0) : s (e + 1) ≤ s e ∧ t (e + 1) = 2 * (t e - s e) ∧ t e ≤ s e + s (e + 1) ∧ (s (e + 1) = 0 → t e = s e) := by
  have h1 := C.st e he
  have h2 := C.next e he
  rcases Nat.lt_or_ge (e + 1) K with h | h
  · have h3 := C.nest e h
    have h4 := C.tight h
    omega
  · obtain e1 : e + 1 = K := by omega
    have h3 := C.done
    rw [e1, hs]
    rw [e1] at h2
    omega
end

theorem zero_up {w : Nat → Nat} {n : Nat} (hn : 2 ≤ n) (e : Nat) (h : Qxb6617947a.hs w n e = 0) (hw : Asc w n) : ∀ f, ht w n (e + f + 1) = 2 ^ (f + 1) * ht w n e ∧ Qxb6617947a.hs w n (e + f) = 0
  | 0 => ⟨by show 2 * (ht w n e - Qxb6617947a.hs w n e) = _; rw [h]; omega, h⟩
  | f + 1 => by
    obtain ⟨h1, h2⟩ := zero_up hn e h hw f
    have h3 := hs_anti hn hw (e + f)
    have h4 : Qxb6617947a.hs w n (e + f + 1) = 0 := by omega
    refine ⟨?_, h4⟩
    show 2 * (ht w n (e + f + 1) - Qxb6617947a.hs w n (e + f + 1)) = _
    rw [h4, h1, Nat.pow_succ 2 (f + 1), Nat.mul_comm (2 ^ (f + 1)) 2, Nat.mul_assoc]
    omega
theorem h_case {w : Nat → Nat} {n K N : Nat} (hn : 2 ≤ n) (hw : Asc w n) (hKN : K < N) (hN : ht w n N = 0) (D : Nat → Nat) (hD : ∀ i, D i = lenOf (Qxb6617947a.hs w n) N i) (hle : ∀ i, i < n → D i ≤ K) (hlv : ∀ i, lv w n K i = D i) (hK : 1 ≤ K) (hnK : n ≤ 2 ^ K) :
    ∃ t s, Chain n K t s ∧ s K = 0 ∧ (∀ i, i < n → lv w n K i = lenOf s K i) ∧ psum (fun e => psum w (s e)) K ≤ pS w n K (2 * n - 2) := by
  have C := h_chain hn hw hN
  have hsK : Qxb6617947a.hs w n K = 0 := by
    rcases Nat.eq_zero_or_pos (Qxb6617947a.hs w n K) with h | h
    · exact h
    · exfalso
      have h1 := C.full hKN h (K + 1) (Nat.le_refl _)
      have h2 : ∀ g, lenOf (Qxb6617947a.hs w n) (K + 1) 0 ≤ lenOf (Qxb6617947a.hs w n) (K + 1 + g) 0 := fun g => psum_mono (by omega)
      have h3 := h2 (N - (K + 1))
      rw [show K + 1 + (N - (K + 1)) = N by omega, ← hD] at h3
      have := hle 0 (by omega)
      omega
  have hz := zero_up hn K hsK hw
  have htK : ht w n K = 0 := by
    have h1 := (hz (N - K - 1)).1
    rw [show K + (N - K - 1) + 1 = N by omega, hN] at h1
    have h2 : 0 < 2 ^ (N - K - 1 + 1) := Nat.two_pow_pos _
    rcases Nat.eq_zero_or_pos (ht w n K) with h | h
    · exact h
    · have := Nat.mul_pos h2 h; omega
  refine ⟨ht w n, Qxb6617947a.hs w n, h_chain hn hw htK, hsK, fun i hi => ?_, ?_⟩
  · rw [hlv, hD]
    have h2 : ∀ g, lenOf (Qxb6617947a.hs w n) (K + g) i = lenOf (Qxb6617947a.hs w n) K i := fun g => by
      induction g with
      | zero => rfl
      | succ g ih =>
        show lenOf (Qxb6617947a.hs w n) (K + g) i + (if i < Qxb6617947a.hs w n (K + g) then 1 else 0) = _
        rw [ih, (hz g).2]
        rfl
    have := h2 (N - K)
    rwa [show K + (N - K) = N by omega] at this
  · have h1 := h_cost hn hw K
    have h2 := tk_le (w := w) hn hK hnK 0 (by omega)
    have h3 : 2 * n - 2 ≤ (pmL w n (K - 1)).len := h2
    have h4 := h_least hn hw (K - 1) (2 * n - 2) h3 (Nat.le_refl _)
    obtain ⟨j, rfl⟩ : ∃ j, K = j + 1 := ⟨K - 1, by omega⟩
    show _ ≤ psum (pmL w n j).x (2 * n - 2)
    have h5 : psum (hT w n) (2 * n - 2) ≤ psum (pmL w n j).x (2 * n - 2) := h4
    omega
/-- The lengths that Lengths sets are those of a chain that costs least. -/
theorem lv_chain {w : Nat → Nat} {n K : Nat} (hn : 2 ≤ n) (hw : Asc w n) (hp : ∀ i, i < n → 1 ≤ w i) (hs : psum w n < 2 ^ 50) (hK : 1 ≤ K) (hK2 : K ≤ 20) (hnK : n ≤ 2 ^ K) :
    ∃ t s, Chain n K t s ∧ s K = 0 ∧ (∀ i, i < n → lv w n K i = lenOf s K i) ∧ psum (fun e => psum w (s e)) K ≤ pS w n K (2 * n - 2) := by
  by_cases hb : K < mxD (hD w n) n
  · have C := pm_chain hn hK hnK hw hp
    refine ⟨tk w n K, fun e => if e < K then sk w n K e else 0, ⟨C.n2, C.t0, fun e he => ?_, fun e he => ?_, fun e he => ?_, fun e he => ?_, C.done⟩, if_neg (Nat.lt_irrefl _), fun i hi => ?_, ?_⟩
    · rw [if_pos he]; exact C.st e he
    · rw [if_pos he]; exact C.sn e he
    · rw [if_pos he]; exact C.next e he
    · rw [if_pos he, if_pos (show e < K by omega)]; exact C.nest e he
    · have e2 : lv w n K i = lenOf (sk w n K) K i := if_pos hb
      rw [e2]
      unfold lenOf
      exact psum_congr fun e he => by show (if i < sk w n K e then 1 else 0) = (if i < (if e < K then sk w n K e else 0) then 1 else 0); rw [if_pos he]
    · have h1 := pm_cost (w := w) hn hK hnK K (Nat.le_refl _)
      have h2 : psum (fun e => psum w ((fun e => if e < K then sk w n K e else 0) e)) K = psum (fun e => psum w (sk w n K e)) K := psum_congr fun e he => by show psum w (if e < K then sk w n K e else 0) = _; rw [if_pos he]
      rw [h2]
      omega
  · have h100 := ht_end hn hw hp hs
    exact h_case hn hw (N := 100) (by omega) h100 (hD w n) (fun _ => rfl) (fun i hi => by have := mxD_ge (g := hD w n) hi; omega) (fun i => if_neg hb) hK hnK

end Go.Proofs.Qxb6617947a
