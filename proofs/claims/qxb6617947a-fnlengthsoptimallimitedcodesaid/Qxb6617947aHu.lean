import Derived.Test.Qxb6617947aPl
/-! Huffman's two queues: plain laws. -/
namespace Go.Proofs.Qxb6617947a

def updF (f : Nat → Nat) (i v : Nat) : Nat → Nat := fun j => if j = i then v else f j
/-- Behind j takes: how many symbols are taken; what each take weighed. -/
def hst (w : Nat → Nat) (n : Nat) : Nat → Nat × (Nat → Nat)
  | 0 => (0, fun _ => 0)
  | j + 1 =>
    if (hst w n j).1 < n ∧ (j / 2 ≤ j - (hst w n j).1 ∨ w (hst w n j).1 ≤ (hst w n j).2 (2 * (j - (hst w n j).1)) + (hst w n j).2 (2 * (j - (hst w n j).1) + 1)) then ((hst w n j).1 + 1, updF (hst w n j).2 j (w (hst w n j).1))
    else ((hst w n j).1, updF (hst w n j).2 j ((hst w n j).2 (2 * (j - (hst w n j).1)) + (hst w n j).2 (2 * (j - (hst w n j).1) + 1)))
def hc (w : Nat → Nat) (n j : Nat) : Nat := (hst w n j).1
def hT (w : Nat → Nat) (n i : Nat) : Nat := (hst w n (i + 1)).2 i
/-- Node q's weight. -/
def hW (w : Nat → Nat) (n q : Nat) : Nat := hT w n (2 * q) + hT w n (2 * q + 1)
/-- Does take j take a symbol? -/
def hS (w : Nat → Nat) (n j : Nat) : Prop := hc w n j < n ∧ (j / 2 ≤ j - hc w n j ∨ w (hc w n j) ≤ hW w n (j - hc w n j))

theorem hst_old (w : Nat → Nat) (n : Nat) {i : Nat} : ∀ {j : Nat}, i < j → (hst w n j).2 i = hT w n i
  | 0, h => by omega
  | j + 1, h => by
    rcases Nat.lt_or_ge i j with h1 | h1
    · have ih := hst_old w n (j := j) h1
      rw [← ih]
      show (if _ then (_, updF _ j _) else (_, updF _ j _)).2 i = _
      split
      · exact if_neg (by omega)
      · exact if_neg (by omega)
    · obtain rfl : i = j := by omega
      rfl

section
variable {w : Nat → Nat} {n : Nat}
theorem hW_old {j : Nat} (h : j - hc w n j < j / 2) : (hst w n j).2 (2 * (j - (hst w n j).1)) + (hst w n j).2 (2 * (j - (hst w n j).1) + 1) = hW w n (j - hc w n j) := by
  unfold hW
  unfold hc at h ⊢
  rw [hst_old w n (by omega), hst_old w n (by omega)]
theorem hst_yes {j : Nat} (hs : hS w n j) : hc w n (j + 1) = hc w n j + 1 ∧ hT w n j = w (hc w n j) := by
  have hd : hst w n (j + 1) = ((hst w n j).1 + 1, updF (hst w n j).2 j (w (hst w n j).1)) := by
    show (if _ then _ else _) = _
    rw [if_pos]
    refine ⟨hs.1, ?_⟩
    rcases Nat.lt_or_ge (j - hc w n j) (j / 2) with h1 | h1
    · rw [hW_old h1]
      exact .inr (hs.2.resolve_left (by omega))
    · exact .inl h1
  constructor
  · show (hst w n (j + 1)).1 = _; rw [hd]; rfl
  · show (hst w n (j + 1)).2 j = _; rw [hd]; exact if_pos rfl
theorem hst_no {j : Nat} (hs : ¬ hS w n j) (hq : j - hc w n j < j / 2) : hc w n (j + 1) = hc w n j ∧ hT w n j = hW w n (j - hc w n j) := by
  have hd : hst w n (j + 1) = ((hst w n j).1, updF (hst w n j).2 j (hW w n (j - hc w n j))) := by
    show (if _ then _ else _) = _
    rw [hW_old hq, if_neg]
    exact fun h => hs h
  constructor
  · show (hst w n (j + 1)).1 = _; rw [hd]; rfl
  · show (hst w n (j + 1)).2 j = _; rw [hd]; exact if_pos rfl

theorem h_inv (hn : 2 ≤ n) : ∀ {j : Nat}, j ≤ 2 * n - 2 → hc w n j ≤ n ∧ hc w n j ≤ j ∧ j - hc w n j ≤ j / 2
  | 0, _ => by show 0 ≤ n ∧ 0 ≤ 0 ∧ 0 - 0 ≤ 0; omega
  | j + 1, h => by
    obtain ⟨h1, h2, h3⟩ := h_inv hn (j := j) (by omega)
    by_cases hs : hS w n j
    · rw [(hst_yes hs).1]
      have := hs.1
      omega
    · have hq : j - hc w n j < j / 2 := by
        rcases Nat.lt_or_ge (hc w n j) n with h4 | h4
        · rcases Nat.lt_or_ge (j - hc w n j) (j / 2) with h5 | h5
          · exact h5
          · exact absurd ⟨h4, .inl h5⟩ hs
        · omega
      rw [(hst_no hs hq).1]
      omega
theorem h_node (hn : 2 ≤ n) {j : Nat} (hj : j < 2 * n - 2) (hs : ¬ hS w n j) : j - hc w n j < j / 2 := by
  obtain ⟨h1, h2, h3⟩ := h_inv (w := w) hn (j := j) (by omega)
  rcases Nat.lt_or_ge (hc w n j) n with h4 | h4
  · rcases Nat.lt_or_ge (j - hc w n j) (j / 2) with h5 | h5
    · exact h5
    · exact absurd ⟨h4, .inl h5⟩ hs
  · omega

theorem hT_up (hn : 2 ≤ n) (hw : Asc w n) : ∀ j, ∀ i, i + 1 ≤ j → j < 2 * n - 2 → hT w n i ≤ hT w n (i + 1)
  | 0, i, h, _ => by omega
  | j + 1, i, h, hj => by
    rcases Nat.lt_or_ge (i + 1) (j + 1) with h0 | h0
    · exact hT_up hn hw j i (by omega) (by omega)
    · obtain rfl : i = j := by omega
      have ih := hT_up hn hw i
      obtain ⟨h1, h2, h3⟩ := h_inv (w := w) hn (j := i) (by omega)
      by_cases a : hS w n i <;> by_cases b : hS w n (i + 1)
      · rw [(hst_yes a).2, (hst_yes b).2]
        exact hw _ _ (by have := (hst_yes a).1; omega) b.1
      · have hq := h_node hn hj b
        rw [(hst_yes a).2, (hst_no b hq).2]
        have hc1 := (hst_yes a).1
        rw [show i + 1 - hc w n (i + 1) = i - hc w n i by omega] at hq ⊢
        rcases a.2 with a2 | a2
        · have e : 2 * (i - hc w n i) = i ∨ 2 * (i - hc w n i) + 1 = i := by omega
          rw [← (hst_yes a).2]
          unfold hW
          rcases e with e | e
          · rw [e]; omega
          · rw [e]; omega
        · exact a2
      · have hq := h_node hn (by omega) a
        rw [(hst_no a hq).2, (hst_yes b).2]
        have hc1 := (hst_no a hq).1
        have b1 := b.1
        rw [hc1] at b1 ⊢
        rcases Nat.lt_or_ge (hW w n (i - hc w n i)) (w (hc w n i)) with h5 | h5
        · omega
        · exact absurd ⟨b1, .inr h5⟩ a
      · have hq := h_node hn (by omega) a
        have hq2 := h_node hn hj b
        rw [(hst_no a hq).2, (hst_no b hq2).2]
        have hc1 := (hst_no a hq).1
        rw [show i + 1 - hc w n (i + 1) = i - hc w n i + 1 by omega] at hq2 ⊢
        obtain ⟨q, hqe⟩ : ∃ q, i - hc w n i = q := ⟨_, rfl⟩
        rw [hqe] at hq2 ⊢
        unfold hW
        have e1 := ih (2 * q) (by omega) (by omega)
        have e2 : hT w n (2 * q + 1) ≤ hT w n (2 * q + 2) := ih (2 * q + 1) (by omega) (by omega)
        have e3 : hT w n (2 * q + 2) ≤ hT w n (2 * q + 2 + 1) := ih (2 * q + 2) (by omega) (by omega)
        rw [show 2 * (q + 1) = 2 * q + 2 by omega]
        omega
theorem hT_asc (hn : 2 ≤ n) (hw : Asc w n) : Asc (hT w n) (2 * n - 2) := asc_of fun i hi => hT_up hn hw (i + 1) i (Nat.le_refl _) hi
theorem hW_asc (hn : 2 ≤ n) (hw : Asc w n) : Asc (hW w n) (n - 1) := asc_of fun i hi => by
  have h := hT_asc hn hw
  have e1 := h (2 * i) (2 * (i + 1)) (by omega) (by omega)
  have e2 := h (2 * i + 1) (2 * (i + 1) + 1) (by omega) (by omega)
  unfold hW
  omega
theorem h_merge (hn : 2 ≤ n) (_hw : Asc w n) : Merge w n (hW w n) (n - 1) (hc w n) (hT w n) (2 * n - 2) where
  c0 := rfl
  step j hj := by
    obtain ⟨h1, h2, h3⟩ := h_inv (w := w) hn (j := j) (by omega)
    by_cases hs : hS w n j
    · left
      refine ⟨(hst_yes hs).1, hs.1, (hst_yes hs).2, fun hp => ?_⟩
      rcases hs.2 with a2 | a2
      · have e : 2 * (j - hc w n j) = j ∨ 2 * (j - hc w n j) + 1 = j := by omega
        rw [← (hst_yes hs).2]
        unfold hW
        rcases e with e | e
        · rw [e]; omega
        · rw [e]; omega
      · exact a2
    · right
      have hq := h_node hn hj hs
      refine ⟨(hst_no hs hq).1, by omega, (hst_no hs hq).2, fun hc1 => ?_⟩
      rcases Nat.lt_or_ge (hW w n (j - hc w n j)) (w (hc w n j)) with h5 | h5
      · exact h5
      · exact absurd ⟨hc1, .inr h5⟩ hs
theorem psum_hW : ∀ q, psum (hW w n) q = psum (hT w n) (2 * q)
  | 0 => rfl
  | q + 1 => by
    show psum (hW w n) q + (hT w n (2 * q) + hT w n (2 * q + 1)) = psum (hT w n) (2 * q + 1 + 1)
    rw [psum_hW q]
    simp only [psum]
    omega
/-- No node outweighs all. -/
theorem hW_le (hn : 2 ≤ n) (hw : Asc w n) {q : Nat} (hq : q < n - 1) : hW w n q ≤ psum w n := by
  have M := h_merge hn hw
  have hs := M.sum (j := 2 * q + 2) (by omega)
  have hb := M.bd (j := 2 * q + 2) (by omega)
  have h1 := psum_hW (w := w) (n := n) q
  have h2 := psum_mono (f := w) hb.1
  have h3 : 2 * q + 2 - hc w n (2 * q + 2) ≤ q := by
    obtain ⟨a1, a2, a3⟩ := h_inv (w := w) hn (j := 2 * q + 1) (by omega)
    by_cases hsS : hS w n (2 * q + 1)
    · have := (hst_yes hsS).1
      rw [show 2 * q + 1 + 1 = 2 * q + 2 by omega] at this
      omega
    · have hq2 := h_node hn (by omega) hsS
      have := (hst_no hsS hq2).1
      rw [show 2 * q + 1 + 1 = 2 * q + 2 by omega] at this
      omega
  have h4 := psum_mono (f := hW w n) h3
  have h5 : psum (hT w n) (2 * q + 2) = psum (hT w n) (2 * q) + hW w n q := by
    show psum (hT w n) (2 * q) + hT w n (2 * q) + hT w n (2 * q + 1) = _
    unfold hW
    omega
  omega

/-! ### Depths -/
def ht (w : Nat → Nat) (n : Nat) : Nat → Nat
  | 0 => 2 * n - 2
  | e + 1 => 2 * (ht w n e - hc w n (ht w n e))
def hs (w : Nat → Nat) (n e : Nat) : Nat := hc w n (ht w n e)
theorem ht_le (hn : 2 ≤ n) : ∀ e, ht w n e ≤ 2 * n - 2
  | 0 => Nat.le_refl _
  | e + 1 => by
    have h1 := ht_le hn e
    have h2 := h_inv (w := w) hn h1
    show 2 * (ht w n e - hc w n (ht w n e)) ≤ _
    omega
theorem ht_down (hn : 2 ≤ n) (e : Nat) (h : 0 < ht w n (e + 1)) : ht w n (e + 1) + 1 ≤ ht w n e := by
  have h1 := ht_le (w := w) hn e
  have e1 : ht w n (e + 1) = 2 * (ht w n e - hc w n (ht w n e)) := rfl
  have h2 := h_inv (w := w) hn h1
  -- the last node taken was made before
  obtain ⟨q, hq⟩ : ∃ q, ht w n e - hc w n (ht w n e) = q + 1 := ⟨ht w n e - hc w n (ht w n e) - 1, by omega⟩
  rcases Nat.lt_or_ge (ht w n (e + 1)) (ht w n e) with h3 | h3
  · exact h3
  · exfalso
    have h4 : ∀ j, j ≤ 2 * n - 2 → 1 ≤ j → 2 * (j - hc w n j) + 1 ≤ j := by
      intro j
      induction j with
      | zero => intro _ h; omega
      | succ j ih =>
        intro hj _
        obtain ⟨a1, a2, a3⟩ := h_inv (w := w) hn (j := j) (by omega)
        by_cases hsS : hS w n j
        · have := (hst_yes hsS).1
          rcases Nat.eq_zero_or_pos j with h0 | h0
          · subst h0
            have h00 : hc w n 0 = 0 := rfl
            omega
          · have := ih (by omega) h0
            omega
        · have hq2 := h_node hn (by omega) hsS
          have := (hst_no hsS hq2).1
          omega
    have := h4 (ht w n e) h1 (by omega)
    omega
theorem ht_fib (hn : 2 ≤ n) (hw : Asc w n) (e : Nat) (h : 0 < ht w n (e + 2)) : 2 * hT w n (ht w n (e + 2) - 1) ≤ hT w n (ht w n e - 1) := by
  have M := h_merge hn hw
  have hA := hT_asc hn hw
  have h1 : ht w n (e + 2) + 1 ≤ ht w n (e + 1) := ht_down (w := w) hn (e + 1) h
  have h2 := ht_down (w := w) hn e (by omega)
  have hl := ht_le (w := w) hn e
  have e1 : ht w n (e + 1) = 2 * (ht w n e - hc w n (ht w n e)) := rfl
  obtain ⟨q, hq⟩ : ∃ q, ht w n e - hc w n (ht w n e) = q + 1 := ⟨ht w n e - hc w n (ht w n e) - 1, by omega⟩
  obtain ⟨k, k1, _, _, k2, _⟩ := M.pair (j := ht w n e) hl (q := q) (by omega)
  have h3 := hA k (ht w n e - 1) (by omega) (by omega)
  have h4 := hA (ht w n (e + 2) - 1) (2 * q) (by omega) (by omega)
  have h5 := hA (2 * q) (2 * q + 1) (by omega) (by omega)
  rw [k2] at h3
  unfold hW at h3
  omega
theorem hT_pos (hn : 2 ≤ n) (hw : Asc w n) (hp : ∀ i, i < n → 1 ≤ w i) : ∀ {j : Nat}, j < 2 * n - 2 → 1 ≤ hT w n j := by
  have M := h_merge hn hw
  have hA := hT_asc hn hw
  intro j hj
  have h0 := hA 0 j (Nat.zero_le _) hj
  have hs0 : hS w n 0 := ⟨by show 0 < n; omega, .inl (by show 0 / 2 ≤ 0 - 0; omega)⟩
  have h1 := (hst_yes hs0).2
  have h2 := hp (hc w n 0) (by show 0 < n; omega)
  omega
theorem ht_big (hn : 2 ≤ n) (hw : Asc w n) (hp : ∀ i, i < n → 1 ≤ w i) : ∀ r e, 0 < ht w n (e + 2 * r) → 2 ^ r ≤ hT w n (ht w n e - 1)
  | 0, e, h => by
    have h1 := ht_le (w := w) hn e
    have h2 : 0 < ht w n e := h
    have h3 := hT_pos hn hw hp (j := ht w n e - 1) (by omega)
    simpa using h3
  | r + 1, e, h => by
    have h1 := ht_big hn hw hp r (e + 2) (by rwa [show e + 2 + 2 * r = e + 2 * (r + 1) by omega])
    have hpos : ∀ k, 0 < ht w n (e + 2 + k) → 0 < ht w n (e + 2) := by
      intro k
      induction k with
      | zero => exact id
      | succ k ih =>
        intro hk
        have := ht_down (w := w) hn (e + 2 + k) hk
        exact ih (by omega)
    have h2 := ht_fib hn hw e (hpos (2 * r) (by rwa [show e + 2 + 2 * r = e + 2 * (r + 1) by omega]))
    rw [Nat.pow_succ]
    omega
/-- No code is longer than a hundred. -/
theorem ht_end (hn : 2 ≤ n) (hw : Asc w n) (hp : ∀ i, i < n → 1 ≤ w i) (hs : psum w n < 2 ^ 50) : ht w n 100 = 0 := by
  rcases Nat.eq_zero_or_pos (ht w n 100) with h | h
  · exact h
  · exfalso
    have h1 := ht_big hn hw hp 50 0 (by simpa using h)
    have h2 : hT w n (ht w n 0 - 1) ≤ hW w n (n - 2) := by
      show hT w n (2 * n - 2 - 1) ≤ hT w n (2 * (n - 2)) + hT w n (2 * (n - 2) + 1)
      rw [show 2 * n - 2 - 1 = 2 * (n - 2) + 1 by omega]
      omega
    have h3 := hW_le hn hw (q := n - 2) (by omega)
    omega

theorem hs_anti (hn : 2 ≤ n) (hw : Asc w n) (e : Nat) : hs w n (e + 1) ≤ hs w n e := by
  have M := h_merge hn hw
  have h1 := ht_le (w := w) hn e
  rcases Nat.eq_zero_or_pos (ht w n (e + 1)) with h | h
  · unfold hs; rw [h]; exact Nat.zero_le _
  · have := ht_down (w := w) hn e h
    exact (M.mono (i := ht w n (e + 1)) (j := ht w n e) (by omega) h1).1
theorem h_chain (hn : 2 ≤ n) (hw : Asc w n) {K : Nat} (hK : ht w n K = 0) : Chain n K (ht w n) (hs w n) where
  n2 := hn
  t0 := rfl
  st e _ := (h_inv hn (ht_le hn e)).2.1
  sn e _ := (h_inv hn (ht_le hn e)).1
  next _ _ := rfl
  nest e _ := hs_anti hn hw e
  done := hK

/-- A symbol's depth; a node's. -/
def hD (w : Nat → Nat) (n i : Nat) : Nat := lenOf (hs w n) 100 i
def hN (w : Nat → Nat) (n q : Nat) : Nat := lenOf (fun e => ht w n e - hs w n e) 100 q
theorem dep_pos (h100 : ht w n 100 = 0) {j : Nat} (hj : j < 2 * n - 2) : psum (fun e => if j < ht w n e then 1 else 0) 100 = hN w n (j / 2) + 1 := by
  have hgen : ∀ m, psum (fun e => if j < ht w n e then 1 else 0) (m + 1) = psum (fun e => if j / 2 < ht w n e - hs w n e then 1 else 0) m + 1 := by
    intro m
    induction m with
    | zero =>
      show 0 + (if j < ht w n 0 then 1 else 0) = 0 + 1
      rw [if_pos (show j < ht w n 0 from hj)]
    | succ m ih =>
      show psum _ (m + 1) + (if j < ht w n (m + 1) then 1 else 0) = (psum _ m + (if j / 2 < ht w n m - hs w n m then 1 else 0)) + 1
      rw [ih]
      have e1 : ht w n (m + 1) = 2 * (ht w n m - hs w n m) := rfl
      by_cases h : j / 2 < ht w n m - hs w n m
      · rw [if_pos h, if_pos (by omega)]
      · rw [if_neg h, if_neg (by omega)]
  rw [hgen 99]
  show _ = (psum (fun e => if j / 2 < ht w n e - hs w n e then 1 else 0) 99 + (if j / 2 < ht w n 99 - hs w n 99 then 1 else 0)) + 1
  have e2 : 2 * (ht w n 99 - hs w n 99) = 0 := h100
  rw [if_neg (by omega)]
theorem hD_eq (hn : 2 ≤ n) (hw : Asc w n) (h100 : ht w n 100 = 0) {j : Nat} (hj : j < 2 * n - 2) (hS' : hS w n j) : hD w n (hc w n j) = hN w n (j / 2) + 1 := by
  have M := h_merge hn hw
  rw [← dep_pos h100 hj]
  refine psum_congr fun e _ => ?_
  show (if hc w n j < hs w n e then 1 else 0) = (if j < ht w n e then 1 else 0)
  have hl := ht_le (w := w) hn e
  by_cases h : j < ht w n e
  · have h1 := (M.mono (i := j + 1) (j := ht w n e) h hl).1
    have h2 := (hst_yes hS').1
    rw [if_pos h, if_pos (by unfold hs; omega)]
  · have h1 := (M.mono (i := ht w n e) (j := j) (by omega) (by omega)).1
    rw [if_neg h, if_neg (by unfold hs; omega)]
theorem hN_eq (hn : 2 ≤ n) (hw : Asc w n) (h100 : ht w n 100 = 0) {j : Nat} (hj : j < 2 * n - 2) (hS' : ¬ hS w n j) : hN w n (j - hc w n j) = hN w n (j / 2) + 1 := by
  have M := h_merge hn hw
  rw [← dep_pos h100 hj]
  refine psum_congr fun e _ => ?_
  show (if j - hc w n j < ht w n e - hs w n e then 1 else 0) = (if j < ht w n e then 1 else 0)
  have hl := ht_le (w := w) hn e
  by_cases h : j < ht w n e
  · have h1 := (M.mono (i := j + 1) (j := ht w n e) h hl).2
    have h2 := (hst_no hS' (h_node hn hj hS')).1
    have h3 := (h_inv (w := w) hn (j := j) (by omega)).2.1
    rw [if_pos h, if_pos (by unfold hs; omega)]
  · have h1 := (M.mono (i := ht w n e) (j := j) (by omega) (by omega)).2
    rw [if_neg h, if_neg (by unfold hs; omega)]
theorem hN_root (hn : 2 ≤ n) (hw : Asc w n) : hN w n (n - 2) = 0 := by
  unfold hN lenOf
  rw [psum_congr (g := fun _ => 0) (fun e _ => ?_), psum_zero]
  show (if n - 2 < ht w n e - hs w n e then 1 else 0) = 0
  have hl := ht_le (w := w) hn e
  have M := h_merge hn hw
  have h1 := (M.mono (i := ht w n e) (j := 2 * n - 2) hl (Nat.le_refl _)).2
  have h2 : 2 * n - 2 - hc w n (2 * n - 2) ≤ n - 2 := by
    obtain ⟨a1, a2, a3⟩ := h_inv (w := w) hn (j := 2 * n - 3) (by omega)
    rw [show 2 * n - 2 = 2 * n - 3 + 1 by omega]
    by_cases hsS : hS w n (2 * n - 3)
    · have := (hst_yes hsS).1
      omega
    · have hq2 := h_node hn (by omega) hsS
      have := (hst_no hsS hq2).1
      omega
  rw [if_neg (by unfold hs; omega)]
end
end Go.Proofs.Qxb6617947a
