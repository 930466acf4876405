/-! Two ascending sequences merged: plain laws. -/
namespace Go.Proofs.Qxb6617947a

def psum (f : Nat → Nat) : Nat → Nat
  | 0 => 0
  | n + 1 => psum f n + f n
theorem psum_congr {f g : Nat → Nat} : ∀ {n : Nat}, (∀ i, i < n → f i = g i) → psum f n = psum g n
  | 0, _ => rfl
  | n + 1, h => by
    show psum f n + f n = psum g n + g n
    rw [psum_congr (n := n) (fun i hi => h i (by omega)), h n (by omega)]
theorem psum_mono {f : Nat → Nat} {a b : Nat} (h : a ≤ b) : psum f a ≤ psum f b := by
  induction b with
  | zero => rw [Nat.le_zero.1 h]; exact Nat.le_refl _
  | succ b ih =>
    rcases Nat.lt_or_ge a (b + 1) with h1 | h1
    · exact Nat.le_trans (ih (by omega)) (Nat.le_add_right _ _)
    · rw [Nat.le_antisymm h h1]; exact Nat.le_refl _
theorem psum_add (f g : Nat → Nat) : ∀ n, psum (fun i => f i + g i) n = psum f n + psum g n
  | 0 => rfl
  | n + 1 => by
    have := psum_add f g n
    simp only [psum] at this ⊢
    omega
theorem psum_mul (k : Nat) (f : Nat → Nat) : ∀ n, psum (fun i => k * f i) n = k * psum f n
  | 0 => rfl
  | n + 1 => by
    show psum (fun i => k * f i) n + k * f n = k * (psum f n + f n)
    rw [psum_mul k f n, Nat.mul_add]
theorem psum_zero : ∀ n, psum (fun _ => 0) n = 0
  | 0 => rfl
  | n + 1 => by show psum _ n + 0 = 0; rw [psum_zero n]
theorem psum_ge {f : Nat → Nat} {a b k : Nat} (hab : a ≤ b) (h : ∀ i, a ≤ i → i < b → k ≤ f i) : psum f a + (b - a) * k ≤ psum f b := by
  induction b with
  | zero => rw [Nat.le_zero.1 hab]; simp
  | succ b ih =>
    rcases Nat.lt_or_ge a (b + 1) with h1 | h1
    · have h2 := ih (by omega) (fun i hi hb => h i hi (by omega))
      have h3 := h b (by omega) (by omega)
      show _ ≤ psum f b + f b
      have e : (b + 1 - a) * k = (b - a) * k + k := by
        rw [show b + 1 - a = (b - a) + 1 by omega, Nat.add_mul, Nat.one_mul]
      omega
    · have : a = b + 1 := by omega
      subst this; simp
theorem psum_le {f : Nat → Nat} {a b k : Nat} (hab : a ≤ b) (h : ∀ i, a ≤ i → i < b → f i ≤ k) : psum f b ≤ psum f a + (b - a) * k := by
  induction b with
  | zero => rw [Nat.le_zero.1 hab]; simp
  | succ b ih =>
    rcases Nat.lt_or_ge a (b + 1) with h1 | h1
    · have h2 := ih (by omega) (fun i hi hb => h i hi (by omega))
      have h3 := h b (by omega) (by omega)
      show psum f b + f b ≤ _
      have e : (b + 1 - a) * k = (b - a) * k + k := by
        rw [show b + 1 - a = (b - a) + 1 by omega, Nat.add_mul, Nat.one_mul]
      omega
    · have : a = b + 1 := by omega
      subst this; simp

def Asc (f : Nat → Nat) (n : Nat) : Prop := ∀ i j, i ≤ j → j < n → f i ≤ f j
theorem asc_of {f : Nat → Nat} {n : Nat} (h : ∀ i, i + 1 < n → f i ≤ f (i + 1)) : Asc f n := by
  intro i j hij hj
  induction j with
  | zero => rw [Nat.le_zero.1 hij]; exact Nat.le_refl _
  | succ j ih =>
    rcases Nat.lt_or_ge i (j + 1) with h1 | h1
    · exact Nat.le_trans (ih (by omega) (by omega)) (h j hj)
    · rw [Nat.le_antisymm hij h1]; exact Nat.le_refl _

/-- x is w's first n and P's first NP merged, c j of the first j items being w's; of two of a size w's comes first. -/
structure Merge (w : Nat → Nat) (n : Nat) (P : Nat → Nat) (NP : Nat) (c x : Nat → Nat) (t : Nat) : Prop where
  c0 : c 0 = 0
  step : ∀ j, j < t →
    (c (j + 1) = c j + 1 ∧ c j < n ∧ x j = w (c j) ∧ (j - c j < NP → w (c j) ≤ P (j - c j))) ∨
    (c (j + 1) = c j ∧ j - c j < NP ∧ x j = P (j - c j) ∧ (c j < n → P (j - c j) < w (c j)))

section
variable {w P c x : Nat → Nat} {n NP t : Nat} (M : Merge w n P NP c x t)
include M
theorem Merge.up {j : Nat} (h : j < t) : c j ≤ c (j + 1) ∧ c (j + 1) ≤ c j + 1 := by
  rcases M.step j h with h | h <;> omega
theorem Merge.le : ∀ {j : Nat}, j ≤ t → c j ≤ j
  | 0, _ => by rw [M.c0]; exact Nat.le_refl _
  | j + 1, h => by
    have := Merge.le (j := j) (by omega)
    have := M.up (j := j) (by omega)
    omega
theorem Merge.mono {i j : Nat} (hij : i ≤ j) (h : j ≤ t) : c i ≤ c j ∧ i - c i ≤ j - c j := by
  induction j with
  | zero => rw [Nat.le_zero.1 hij]; exact ⟨Nat.le_refl _, Nat.le_refl _⟩
  | succ j ih =>
    rcases Nat.lt_or_ge i (j + 1) with h1 | h1
    · have h2 := ih (by omega) (by omega)
      have := M.up (j := j) (by omega)
      have := M.le (j := j) (by omega)
      omega
    · rw [Nat.le_antisymm hij h1]; exact ⟨Nat.le_refl _, Nat.le_refl _⟩
theorem Merge.bd : ∀ {j : Nat}, j ≤ t → c j ≤ n ∧ j - c j ≤ NP
  | 0, _ => by rw [M.c0]; omega
  | j + 1, h => by
    have h1 := Merge.bd (j := j) (by omega)
    have h2 := M.le (j := j) (by omega)
    rcases M.step j (by omega) with h | h <;> omega
theorem Merge.sum : ∀ {j : Nat}, j ≤ t → psum x j = psum w (c j) + psum P (j - c j)
  | 0, _ => by rw [M.c0]; rfl
  | j + 1, h => by
    have h1 := Merge.sum (j := j) (by omega)
    have h2 := M.le (j := j) (by omega)
    rcases M.step j (by omega) with ⟨a, _, b, _⟩ | ⟨a, _, b, _⟩
    · rw [a, show j + 1 - (c j + 1) = j - c j by omega]
      simp only [psum]
      omega
    · rw [a, show j + 1 - c j = (j - c j) + 1 by omega]
      simp only [psum]
      omega
/-- A symbol among the first j items. -/
theorem Merge.sym {i : Nat} : ∀ {j : Nat}, j ≤ t → i < c j → ∃ k, k < j ∧ c k = i ∧ c (k + 1) = i + 1 ∧ x k = w i ∧ (k - c k < NP → w i ≤ P (k - c k))
  | 0, _, h => by rw [M.c0] at h; omega
  | j + 1, h, hi => by
    rcases Nat.lt_or_ge i (c j) with h1 | h1
    · obtain ⟨k, h2, r⟩ := Merge.sym (j := j) (by omega) h1
      exact ⟨k, by omega, r⟩
    · rcases M.step j (by omega) with ⟨a, _, b, d⟩ | ⟨a, _, b, d⟩
      · have e : c j = i := by omega
        refine ⟨j, by omega, e, by omega, by rw [b, e], fun hh => ?_⟩
        have := d hh
        rw [e] at this ⊢
        exact this
      · omega
/-- A pair among the first j items. -/
theorem Merge.pair {q : Nat} : ∀ {j : Nat}, j ≤ t → q < j - c j → ∃ k, k < j ∧ k - c k = q ∧ c (k + 1) = c k ∧ x k = P q ∧ (c k < n → P q < w (c k))
  | 0, _, h => by omega
  | j + 1, h, hq => by
    have hl := M.le (j := j) (by omega)
    rcases Nat.lt_or_ge q (j - c j) with h1 | h1
    · obtain ⟨k, h2, r⟩ := Merge.pair (j := j) (by omega) h1
      exact ⟨k, by omega, r⟩
    · rcases M.step j (by omega) with ⟨a, _, b, d⟩ | ⟨a, _, b, d⟩
      · omega
      · have e : j - c j = q := by omega
        refine ⟨j, by omega, e, a, by rw [b, e], fun hh => ?_⟩
        have := d hh
        rw [e] at this
        exact this
theorem Merge.pair_lt (hw : Asc w n) {j q i : Nat} (hj : j ≤ t) (hq : q < j - c j) (hi : c j ≤ i) (hn : i < n) : P q < w i := by
  obtain ⟨k, h1, _, _, _, h2⟩ := M.pair hj hq
  have hm := (M.mono (Nat.le_of_lt h1) hj).1
  exact Nat.lt_of_lt_of_le (h2 (by omega)) (hw _ _ (by omega) hn)
theorem Merge.sym_le (hP : Asc P NP) {j q i : Nat} (hj : j ≤ t) (hi : i < c j) (hq : j - c j ≤ q) (hn : q < NP) : w i ≤ P q := by
  obtain ⟨k, h1, _, _, _, h2⟩ := M.sym hj hi
  have hm := (M.mono (Nat.le_of_lt h1) hj).2
  exact Nat.le_trans (h2 (by omega)) (hP _ _ (by omega) hn)
/-- No choice of a symbols and b pairs is lighter than the first a + b items. -/
theorem Merge.least (hw : Asc w n) (hP : Asc P NP) {a b : Nat} (hab : a + b ≤ t) (ha : a ≤ n) (hb : b ≤ NP) : psum x (a + b) ≤ psum w a + psum P b := by
  rw [M.sum hab]
  have hl := M.le hab
  rcases Nat.lt_trichotomy (c (a + b)) a with h | h | h
  · have h1 := psum_ge (f := w) (a := c (a + b)) (b := a) (k := w (c (a + b))) (by omega) (fun i h1 h2 => hw _ _ h1 (by omega))
    have h2 := psum_le (f := P) (a := b) (b := a + b - c (a + b)) (k := w (c (a + b))) (by omega) (fun q _ h2 => Nat.le_of_lt (M.pair_lt hw hab h2 (Nat.le_refl _) (by omega)))
    rw [show a + b - c (a + b) - b = a - c (a + b) by omega] at h2
    omega
  · rw [h, show a + b - a = b by omega]; exact Nat.le_refl _
  · have h1 := psum_le (f := w) (a := a) (b := c (a + b)) (k := P (a + b - c (a + b))) (by omega) (fun i _ h2 => M.sym_le hP hab h2 (Nat.le_refl _) (by omega))
    have h2 := psum_ge (f := P) (a := a + b - c (a + b)) (b := b) (k := P (a + b - c (a + b))) (by omega) (fun q h1 h2 => hP _ _ h1 (by omega))
    rw [show b - (a + b - c (a + b)) = c (a + b) - a by omega] at h2
    omega
theorem Merge.asc (hw : Asc w n) (hP : Asc P NP) : Asc x t := asc_of fun j hj => by
  have hl := M.le (j := j) (by omega)
  rcases M.step j (by omega) with ⟨a, a1, a2, a3⟩ | ⟨a, a1, a2, a3⟩ <;> rcases M.step (j + 1) hj with ⟨b, b1, b2, b3⟩ | ⟨b, b1, b2, b3⟩
  · rw [a2, b2, a]; exact hw _ _ (by omega) (by omega)
  · rw [a2, b2]
    rw [a, show j + 1 - (c j + 1) = j - c j by omega] at b1 ⊢
    exact a3 b1
  · rw [a2, b2]
    rw [a] at b1 ⊢
    exact Nat.le_of_lt (a3 b1)
  · rw [a2, b2]
    rw [a] at b1 ⊢
    exact hP _ _ (by omega) b1
end

/-! ### Lengths out of counts -/
/-- How many of the first K levels hold symbol i. -/
def lenOf (s : Nat → Nat) (K i : Nat) : Nat := psum (fun e => if i < s e then 1 else 0) K
theorem lenOf_le (s : Nat → Nat) (K i : Nat) : lenOf s K i ≤ K := by
  have := psum_le (f := fun e => if i < s e then 1 else 0) (a := 0) (b := K) (k := 1) (Nat.zero_le _) (fun e _ _ => by show (if i < s e then 1 else 0) ≤ 1; split <;> omega)
  simp only [psum, Nat.mul_one, Nat.zero_add, Nat.sub_zero] at this
  exact this
theorem lenOf_anti {s : Nat → Nat} {i j : Nat} (h : i ≤ j) : ∀ K, lenOf s K j ≤ lenOf s K i
  | 0 => Nat.le_refl _
  | K + 1 => by
    have := lenOf_anti h (s := s) K
    show lenOf s K j + (if j < s K then 1 else 0) ≤ lenOf s K i + (if i < s K then 1 else 0)
    split <;> split <;> omega

theorem ind_sum {m : Nat} (k : Nat) : ∀ {n : Nat}, psum (fun i => if i < m then k else 0) n = min m n * k
  | 0 => by simp [psum]
  | n + 1 => by
    show psum (fun i => if i < m then k else 0) n + (if n < m then k else 0) = _
    rw [ind_sum k]
    by_cases h : n < m
    · rw [if_pos h, show min m n = n by omega, show min m (n + 1) = n + 1 by omega, Nat.add_mul, Nat.one_mul]
    · rw [if_neg h, show min m n = m by omega, show min m (n + 1) = m by omega]
      rfl
structure Chain (n K : Nat) (t s : Nat → Nat) : Prop where
  n2 : 2 ≤ n
  t0 : t 0 = 2 * n - 2
  st : ∀ e, e < K → s e ≤ t e
  sn : ∀ e, e < K → s e ≤ n
  next : ∀ e, e < K → t (e + 1) = 2 * (t e - s e)
  nest : ∀ e, e + 1 < K → s (e + 1) ≤ s e
  done : t K = 0

section
variable {n K : Nat} {t s : Nat → Nat} (C : Chain n K t s)
include C
theorem Chain.full {e i : Nat} (he : e < K) (hi : i < s e) : ∀ f, f ≤ e + 1 → lenOf s f i = f
  | 0, _ => rfl
  | f + 1, h => by
    have h1 := Chain.full he hi f (by omega)
    show lenOf s f i + (if i < s f then 1 else 0) = f + 1
    have hn : ∀ g, f + g ≤ e → i < s (e - g) := by
      intro g
      induction g with
      | zero => intro _; exact hi
      | succ g ih =>
        intro hg
        have h2 := ih (by omega)
        have h3 := C.nest (e - (g + 1)) (by omega)
        rw [show e - (g + 1) + 1 = e - g by omega] at h3
        omega
    have := hn (e - f) (by omega)
    rw [show e - (e - f) = f by omega] at this
    rw [if_pos this, h1]
theorem Chain.kraftAt : ∀ e, e ≤ K → 2 * psum (fun i => 2 ^ (K - lenOf s e i)) n = 2 ^ (K + 1) + t e * 2 ^ (K - e)
  | 0, _ => by
    have e1 : ∀ i, i < n → (fun i => 2 ^ (K - lenOf s 0 i)) i = (fun _ => 2 ^ K) i := fun _ _ => rfl
    rw [psum_congr e1]
    have e2 : psum (fun _ => 2 ^ K) n = n * 2 ^ K := by
      have h1 := psum_le (f := fun _ => 2 ^ K) (a := 0) (b := n) (k := 2 ^ K) (Nat.zero_le _) (fun _ _ _ => Nat.le_refl _)
      have h2 := psum_ge (f := fun _ => 2 ^ K) (a := 0) (b := n) (k := 2 ^ K) (Nat.zero_le _) (fun _ _ _ => Nat.le_refl _)
      simp only [psum, Nat.sub_zero, Nat.zero_add] at h1 h2
      omega
    have := C.n2
    rw [e2, C.t0, Nat.sub_zero, Nat.pow_succ]
    obtain ⟨m, rfl⟩ : ∃ m, n = m + 1 := ⟨n - 1, by omega⟩
    rw [show 2 * (m + 1) - 2 = 2 * m by omega, Nat.add_mul, Nat.one_mul, Nat.mul_assoc 2 m]
    omega
  | e + 1, h => by
    have ih := Chain.kraftAt e (by omega)
    have hK : K - e = (K - (e + 1)) + 1 := by omega
    have h1 : ∀ i, i < n → (fun i => 2 ^ (K - lenOf s e i)) i = (fun i => 2 ^ (K - lenOf s (e + 1) i) + (if i < s e then 2 ^ (K - (e + 1)) else 0)) i := fun i hi => by
      show 2 ^ (K - lenOf s e i) = 2 ^ (K - (lenOf s e i + (if i < s e then 1 else 0))) + _
      by_cases hs : i < s e
      · rw [if_pos hs, if_pos hs, C.full (by omega) hs e (by omega), hK, Nat.pow_succ]
        omega
      · rw [if_neg hs, if_neg hs]; rfl
    rw [psum_congr h1, psum_add, ind_sum, Nat.min_eq_left (C.sn e (by omega)), Nat.mul_add] at ih
    have hn := C.next e (by omega)
    have hs := C.st e (by omega)
    rw [hn]
    have e4 : 2 ^ (K - (e + 1) + 1) = 2 ^ (K - (e + 1)) * 2 := Nat.pow_succ ..
    rw [hK, e4] at ih
    have e3 : t e * (2 ^ (K - (e + 1)) * 2) = 2 * (t e - s e) * 2 ^ (K - (e + 1)) + 2 * (s e * 2 ^ (K - (e + 1))) := by
      obtain ⟨r, hr⟩ : ∃ r, t e = s e + r := ⟨t e - s e, by omega⟩
      rw [hr, show s e + r - s e = r by omega, Nat.add_mul, Nat.mul_assoc 2 r]
      have a1 : s e * (2 ^ (K - (e + 1)) * 2) = 2 * (s e * 2 ^ (K - (e + 1))) := by rw [← Nat.mul_assoc, Nat.mul_comm]
      have a2 : r * (2 ^ (K - (e + 1)) * 2) = 2 * (r * 2 ^ (K - (e + 1))) := by rw [← Nat.mul_assoc, Nat.mul_comm]
      omega
    omega
/-- Kraft's sum is one. -/
theorem Chain.kraft : psum (fun i => 2 ^ (K - lenOf s K i)) n = 2 ^ K := by
  have := C.kraftAt K (Nat.le_refl _)
  rw [C.done, Nat.pow_succ] at this
  omega
/-- Every symbol has a length. -/
theorem Chain.pos {i : Nat} (hi : i < n) : 1 ≤ lenOf s K i := by
  rcases Nat.eq_zero_or_pos (lenOf s K i) with h0 | h0
  · exfalso
    have hk := C.kraft
    have hn := C.n2
    have h1 : ∀ (m : Nat), i < m → 2 ^ K + (m - 1) ≤ psum (fun i => 2 ^ (K - lenOf s K i)) m := by
      intro m
      induction m with
      | zero => intro h; omega
      | succ m ih =>
        intro h
        show _ ≤ psum _ m + 2 ^ (K - lenOf s K m)
        have hp : 1 ≤ 2 ^ (K - lenOf s K m) := Nat.one_le_two_pow
        rcases Nat.lt_or_ge i m with h2 | h2
        · have := ih h2; omega
        · obtain rfl : m = i := by omega
          rw [h0, Nat.sub_zero]
          have h3 := psum_ge (f := fun i => 2 ^ (K - lenOf s K i)) (a := 0) (b := m) (k := 1) (Nat.zero_le _) (fun _ _ _ => Nat.one_le_two_pow)
          simp only [psum, Nat.mul_one, Nat.zero_add, Nat.sub_zero] at h3
          omega
    have := h1 n hi
    omega
  · exact h0
end
/-- What a code costs. -/
theorem cost_levels (w : Nat → Nat) (n : Nat) (s : Nat → Nat) : ∀ K, (∀ e, e < K → s e ≤ n) → psum (fun i => w i * lenOf s K i) n = psum (fun e => psum w (s e)) K
  | 0, _ => by
    rw [psum_congr (g := fun _ => 0) (fun i _ => by show w i * 0 = 0; rfl), psum_zero]; rfl
  | K + 1, h => by
    have h1 : ∀ i, i < n → (fun i => w i * lenOf s (K + 1) i) i = (fun i => w i * lenOf s K i + (if i < s K then w i else 0)) i := fun i _ => by
      show w i * (lenOf s K i + (if i < s K then 1 else 0)) = _
      show _ = w i * lenOf s K i + (if i < s K then w i else 0)
      rw [Nat.mul_add]
      by_cases h2 : i < s K
      · rw [if_pos h2, if_pos h2, Nat.mul_one]
      · rw [if_neg h2, if_neg h2, Nat.mul_zero]
    rw [psum_congr h1, psum_add, cost_levels w n s K (fun e he => h e (by omega))]
    show _ = psum (fun e => psum w (s e)) K + psum w (s K)
    congr 1
    have h2 : ∀ m, psum (fun i => if i < s K then w i else 0) m = psum w (min (s K) m) := by
      intro m
      induction m with
      | zero => simp [psum]
      | succ m ih =>
        show psum _ m + (if m < s K then w m else 0) = _
        rw [ih]
        by_cases hm : m < s K
        · rw [if_pos hm, show min (s K) m = m by omega, show min (s K) (m + 1) = m + 1 by omega]; rfl
        · rw [if_neg hm, show min (s K) m = s K by omega, show min (s K) (m + 1) = s K by omega]; rfl
    rw [h2, Nat.min_eq_left (h K (by omega))]
end Go.Proofs.Qxb6617947a
