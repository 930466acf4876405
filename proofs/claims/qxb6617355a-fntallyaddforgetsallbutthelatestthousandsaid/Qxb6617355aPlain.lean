import Derived.Test.Qxb6617355aZz
/-! What a tally holds behind one more outcome. -/
namespace Go.Proofs.Qxb6617355a

def last (L : List Bool) : List Bool := L.drop (L.length - 1000)
theorem last_len (L : List Bool) : (last L).length = min L.length 1000 := by unfold last; simp; omega

theorem held_len (B : Nat → Nat) (N next k : Nat) : (held B N next k).length = k := by simp [held]
theorem held_get {B : Nat → Nat} {N next k j : Nat} (hj : j < k) : (held B N next k)[j]? = some (bit B (pos N next j)) := by simp [held, hj]

structure TOk (B : Nat → Nat) (N next : Nat) (cnt : Int) (L : List Bool) : Prop where
  hN : N ≤ 1000
  hn : next < 1000
  hf : N < 1000 → next = N
  hB : ∀ i, B i < 18446744073709551616
  hH : held B N next N = last L
  hc : cnt = ((last L).count true : Nat)

theorem TOk.len {B : Nat → Nat} {N next : Nat} {cnt : Int} {L : List Bool} (h : TOk B N next cnt L) : N = min L.length 1000 := by
  have := congrArg List.length h.hH
  rwa [held_len, last_len] at this
theorem TOk.cnt {B : Nat → Nat} {N next : Nat} {cnt : Int} {L : List Bool} (h : TOk B N next cnt L) : 0 ≤ cnt ∧ cnt ≤ 1000 := by
  have h1 := h.hc
  have h2 : (last L).count true ≤ (last L).length := List.count_le_length
  rw [last_len] at h2
  omega

theorem held_full (B : Nat → Nat) (next : Nat) (o : Bool) (hn : next < 1000) : held (setB B next o) 1000 ((next + 1) % 1000) 1000 = (held B 1000 next 1000).drop 1 ++ [o] := by
  apply List.ext_getElem?
  intro j
  rcases Nat.lt_or_ge j 1000 with hj | hj
  · rw [held_get hj]
    unfold pos
    simp only [if_true]
    rw [setB_bit]
    rcases Nat.lt_or_ge j 999 with h9 | h9
    · rw [List.getElem?_append_left (by simp [held_len]; omega), List.getElem?_drop, held_get (by omega), if_neg (by omega)]
      unfold pos
      simp only [if_true]
      congr 2
      omega
    · obtain rfl : j = 999 := by omega
      rw [if_pos (by omega), List.getElem?_append_right (by simp [held_len])]
      simp [held_len]
  · rw [List.getElem?_eq_none (by simp [held_len]; omega), List.getElem?_eq_none (by simp [held_len]; omega)]

theorem held_more (B : Nat → Nat) (N : Nat) (o : Bool) (hN : N < 1000) : held (setB B N o) (N + 1) ((N + 1) % 1000) (N + 1) = held B N N N ++ [o] := by
  apply List.ext_getElem?
  intro j
  have hp : ∀ {j : Nat}, j < N + 1 → pos (N + 1) ((N + 1) % 1000) j = j := fun {j} hj => by
    unfold pos
    split <;> omega
  rcases Nat.lt_or_ge j (N + 1) with hj | hj
  · rw [held_get hj, hp hj, setB_bit]
    rcases Nat.lt_or_ge j N with h9 | h9
    · rw [List.getElem?_append_left (by simpa [held_len] using h9), held_get h9, if_neg (by omega)]
      unfold pos
      rw [if_neg (by omega)]
    · obtain rfl : j = N := by omega
      rw [if_pos rfl, List.getElem?_append_right (by simp [held_len])]
      simp [held_len]
  · rw [List.getElem?_eq_none (by simpa [held_len] using hj), List.getElem?_eq_none (by simpa [held_len] using hj)]

theorem last_more {L : List Bool} (o : Bool) (h : L.length < 1000) : last (L ++ [o]) = last L ++ [o] := by
  unfold last
  rw [show (L ++ [o]).length - 1000 = 0 by simp; omega, show L.length - 1000 = 0 by omega]
  simp
theorem last_full {L : List Bool} (o : Bool) (h : 1000 ≤ L.length) : last (L ++ [o]) = (last L).drop 1 ++ [o] := by
  unfold last
  have e : (L ++ [o]).length - 1000 = L.length - 1000 + 1 := by rw [List.length_append]; simp only [List.length_cons, List.length_nil]; omega
  rw [List.drop_drop, e, List.drop_append_of_le_length (by omega)]

theorem TOk.step {B : Nat → Nat} {N next : Nat} {cnt : Int} {L : List Bool} (h : TOk B N next cnt L) (o : Bool) :
    TOk (setB B next o) (nextN N) ((next + 1) % 1000) (cnt - dropped B N next + gained o) (L ++ [o]) := by
  have hl := h.len
  have hg : (([o].count true : Nat) : Int) = gained o := by cases o <;> rfl
  by_cases hN : N = 1000
  · have e1 : nextN N = 1000 := if_pos hN
    have hH := h.hH
    rw [hN] at hH
    refine ⟨by rw [e1]; exact Nat.le_refl _, Nat.mod_lt _ (by decide), fun h => by omega, setB_lt h.hB, ?_, ?_⟩
    · rw [e1, held_full B next o h.hn, last_full o (by omega), hH]
    · rw [last_full o (by omega), List.count_append]
      have h0 : (last L)[0]? = some (bit B (pos 1000 next 0)) := by rw [← hH]; exact held_get (by decide)
      have hp : pos 1000 next 0 = next := by
        have := h.hn
        unfold pos
        simp only [if_true]
        omega
      rw [hp] at h0
      have hd : dropped B N next = if bit B next = true then 1 else 0 := if_pos hN
      have hc := h.hc
      cases e : last L with
      | nil => rw [e] at h0; simp at h0
      | cons x t =>
        rw [e] at h0 hc
        simp at h0
        subst h0
        rw [hd, hc]
        rw [List.drop_succ_cons, List.drop_zero, List.count_cons]
        generalize [o].count true = g at hg ⊢
        generalize t.count true = n
        cases bit B next <;> simp <;> omega
  · have e1 : nextN N = N + 1 := if_neg hN
    have hlt : N < 1000 := by have := h.hN; omega
    have hnx := h.hf hlt
    subst hnx
    refine ⟨by rw [e1]; omega, Nat.mod_lt _ (by decide), fun h => by rw [e1] at h ⊢; omega, setB_lt h.hB, ?_, ?_⟩
    · rw [e1, held_more B _ o hlt, last_more o (by omega), h.hH]
    · have hd : dropped B next next = 0 := if_neg hN
      rw [last_more o (by omega), List.count_append, hd, h.hc]
      push_cast
      rw [hg]
      omega

/-- What stands behind a thousand outcomes and more. -/
theorem last_tail {H O : List Bool} (h : 1000 ≤ O.length) : last (H ++ O) = O.drop (O.length - 1000) := by
  unfold last
  have e : (H ++ O).length - 1000 = H.length + (O.length - 1000) := by rw [List.length_append]; omega
  rw [e, ← List.drop_drop, List.drop_left]
/-- A well-counted tally. -/
theorem TOk.begin {B : Nat → Nat} {N next : Nat} (hN : N ≤ 1000) (hn : next < 1000) (hf : N < 1000 → next = N) (hB : ∀ i, B i < 18446744073709551616) :
    TOk B N next ((held B N next N).count true : Nat) (held B N next N) := by
  have e : last (held B N next N) = held B N next N := by
    unfold last
    rw [held_len, show N - 1000 = 0 by omega]; rfl
  exact ⟨hN, hn, hf, hB, e.symm, by rw [e]⟩
theorem TOk.bit {B : Nat → Nat} {next : Nat} {cnt : Int} {H O : List Bool} (h : TOk B 1000 next cnt (H ++ O)) (hO : 1000 ≤ O.length) {j : Nat} (hj : j < 1000) :
    O[O.length - 1 - j]? = some (Qxb6617355a.bit B ((next + 1999 - j) % 1000)) := by
  have hH := h.hH
  rw [last_tail hO] at hH
  have h1 := held_get (B := B) (N := 1000) (next := next) (k := 1000) (j := 999 - j) (by omega)
  rw [hH, List.getElem?_drop] at h1
  have e : O.length - 1000 + (999 - j) = O.length - 1 - j := by omega
  rw [e] at h1
  have e2 : pos 1000 next (999 - j) = (next + 1999 - j) % 1000 := by
    unfold pos
    rw [if_pos rfl]
    omega
  rw [h1, e2]
end Go.Proofs.Qxb6617355a
