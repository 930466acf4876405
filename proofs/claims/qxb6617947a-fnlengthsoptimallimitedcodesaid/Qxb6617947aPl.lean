import Derived.Test.Qxb6617947aPm
/-! package-merge's lists: plain laws. -/
namespace Go.Proofs.Qxb6617947a

structure Lst where
  len : Nat
  x : Nat → Nat
  c : Nat → Nat
/-- The pairs of a list. -/
def Lst.P (l : Lst) (q : Nat) : Nat := l.x (2 * q) + l.x (2 * q + 1)
/-- Is item j of the next list a pair, c of the first j being symbols? -/
def takesPair (w : Nat → Nat) (n : Nat) (l : Lst) (j c : Nat) : Bool := decide (j - c < l.len / 2) && (decide (c = n) || decide (l.P (j - c) < w c))
def cnt (w : Nat → Nat) (n : Nat) (l : Lst) : Nat → Nat
  | 0 => 0
  | j + 1 => if takesPair w n l j (cnt w n l j) then cnt w n l j else cnt w n l j + 1
def item (w : Nat → Nat) (n : Nat) (l : Lst) (j : Nat) : Nat := if takesPair w n l j (cnt w n l j) then l.P (j - cnt w n l j) else w (cnt w n l j)
def nextL (w : Nat → Nat) (n : Nat) (l : Lst) : Lst := ⟨n + l.len / 2, item w n l, cnt w n l⟩
def pmL (w : Nat → Nat) (n : Nat) : Nat → Lst
  | 0 => ⟨n, w, fun j => j⟩
  | k + 1 => nextL w n (pmL w n k)

theorem nextL_le {w : Nat → Nat} {n : Nat} {l : Lst} : ∀ {j : Nat}, j ≤ n + l.len / 2 → cnt w n l j ≤ n ∧ cnt w n l j ≤ j ∧ j - cnt w n l j ≤ l.len / 2
  | 0, _ => by simp [cnt]
  | j + 1, h => by
    obtain ⟨h1, h2, h3⟩ := nextL_le (w := w) (n := n) (l := l) (j := j) (by omega)
    show (if takesPair w n l j (cnt w n l j) = true then _ else _) ≤ n ∧ (if takesPair w n l j (cnt w n l j) = true then _ else _) ≤ j + 1 ∧ j + 1 - (if takesPair w n l j (cnt w n l j) = true then _ else _) ≤ _
    by_cases ht : takesPair w n l j (cnt w n l j) = true
    · rw [if_pos ht]
      simp only [takesPair, Bool.and_eq_true, decide_eq_true_eq] at ht
      omega
    · rw [if_neg ht]
      simp only [takesPair, Bool.and_eq_true, Bool.or_eq_true, decide_eq_true_eq] at ht
      by_cases hn : cnt w n l j = n
      · have : ¬ j - cnt w n l j < l.len / 2 := fun hh => ht ⟨hh, .inl hn⟩
        omega
      · omega
theorem nextL_merge (w : Nat → Nat) (n : Nat) (l : Lst) : Merge w n l.P (l.len / 2) (cnt w n l) (item w n l) (n + l.len / 2) where
  c0 := rfl
  step j hj := by
    obtain ⟨h1, h2, h3⟩ := nextL_le (w := w) (n := n) (l := l) (j := j) (by omega)
    by_cases ht : takesPair w n l j (cnt w n l j) = true
    · right
      have e1 : cnt w n l (j + 1) = cnt w n l j := if_pos ht
      have e2 : item w n l j = l.P (j - cnt w n l j) := if_pos ht
      simp only [takesPair, Bool.and_eq_true, Bool.or_eq_true, decide_eq_true_eq] at ht
      exact ⟨e1, ht.1, e2, fun hc => by rcases ht.2 with h | h <;> omega⟩
    · left
      have e1 : cnt w n l (j + 1) = cnt w n l j + 1 := if_neg ht
      have e2 : item w n l j = w (cnt w n l j) := if_neg ht
      simp only [takesPair, Bool.and_eq_true, Bool.or_eq_true, decide_eq_true_eq] at ht
      refine ⟨e1, ?_, e2, fun hp => ?_⟩
      · by_cases hn : cnt w n l j = n
        · have : ¬ j - cnt w n l j < l.len / 2 := fun hh => ht ⟨hh, .inl hn⟩
          omega
        · omega
      · rcases Nat.lt_or_ge (l.P (j - cnt w n l j)) (w (cnt w n l j)) with h | h
        · exact absurd ⟨hp, .inr h⟩ ht
        · exact h
theorem P_asc {l : Lst} (h : Asc l.x l.len) : Asc l.P (l.len / 2) := asc_of fun i hi => by
  have h1 := h (2 * i) (2 * (i + 1)) (by omega) (by omega)
  have h2 := h (2 * i + 1) (2 * (i + 1) + 1) (by omega) (by omega)
  show l.x (2 * i) + l.x (2 * i + 1) ≤ l.x (2 * (i + 1)) + l.x (2 * (i + 1) + 1)
  omega
theorem pmL_asc {w : Nat → Nat} {n : Nat} (hw : Asc w n) : ∀ k, Asc (pmL w n k).x (pmL w n k).len
  | 0 => hw
  | k + 1 => (nextL_merge w n (pmL w n k)).asc hw (P_asc (pmL_asc hw k))
theorem pmL_len_hi {w : Nat → Nat} {n : Nat} (hn : 1 ≤ n) : ∀ k, n ≤ (pmL w n k).len ∧ (pmL w n k).len ≤ 2 * n - 1
  | 0 => by show n ≤ n ∧ n ≤ 2 * n - 1; omega
  | k + 1 => by
    have := pmL_len_hi (w := w) hn k
    show n ≤ n + (pmL w n k).len / 2 ∧ n + (pmL w n k).len / 2 ≤ 2 * n - 1
    omega
theorem pmL_len_lo {w : Nat → Nat} {n : Nat} (hn : 1 ≤ n) : ∀ k, 2 * n - 1 ≤ (pmL w n k).len + (n - 1) / 2 ^ k
  | 0 => by show 2 * n - 1 ≤ n + (n - 1) / 1; omega
  | k + 1 => by
    have := pmL_len_lo (w := w) hn k
    show 2 * n - 1 ≤ n + (pmL w n k).len / 2 + (n - 1) / 2 ^ (k + 1)
    rw [Nat.pow_succ, ← Nat.div_div_eq_div_mul]
    omega
/-- Of a list below another each item is there, or more: what the counts taken back say. -/
def tk (w : Nat → Nat) (n K : Nat) : Nat → Nat
  | 0 => 2 * n - 2
  | e + 1 => 2 * (tk w n K e - (pmL w n (K - 1 - e)).c (tk w n K e))
def sk (w : Nat → Nat) (n K e : Nat) : Nat := (pmL w n (K - 1 - e)).c (tk w n K e)

theorem psum_P (l : Lst) : ∀ q, psum l.P q = psum l.x (2 * q)
  | 0 => rfl
  | q + 1 => by
    show psum l.P q + (l.x (2 * q) + l.x (2 * q + 1)) = psum l.x (2 * q + 1 + 1)
    rw [psum_P l q]
    simp only [psum]
    omega

section
variable {w : Nat → Nat} {n K : Nat} (hn : 2 ≤ n) (hK : 1 ≤ K) (hnK : n ≤ 2 ^ K)
include hn hK hnK
theorem tk_le : ∀ e, e < K → tk w n K e ≤ (pmL w n (K - 1 - e)).len
  | 0, _ => by
    have h1 := pmL_len_lo (w := w) (n := n) (by omega) (K - 1)
    have h2 : (n - 1) / 2 ^ (K - 1) ≤ 1 := by
      have h3 : n - 1 < 2 * 2 ^ (K - 1) := by
        have : 2 ^ K = 2 ^ (K - 1) * 2 := by
          have h5 : 2 ^ (K - 1 + 1) = 2 ^ (K - 1) * 2 := Nat.pow_succ ..
          rwa [show K - 1 + 1 = K by omega] at h5
        omega
      have := (Nat.div_lt_iff_lt_mul (x := n - 1) (y := 2) (k := 2 ^ (K - 1)) (Nat.two_pow_pos _)).2 h3
      omega
    show 2 * n - 2 ≤ (pmL w n (K - 1 - 0)).len
    rw [Nat.sub_zero]
    omega
  | e + 1, h => by
    have h1 := tk_le e (by omega)
    have e1 : K - 1 - e = (K - 1 - (e + 1)) + 1 := by omega
    show 2 * (tk w n K e - (pmL w n (K - 1 - e)).c (tk w n K e)) ≤ _
    rw [e1] at h1 ⊢
    have h2 := (nextL_le (w := w) (n := n) (l := pmL w n (K - 1 - (e + 1))) (j := tk w n K e) h1).2.2
    show 2 * (tk w n K e - cnt w n (pmL w n (K - 1 - (e + 1))) (tk w n K e)) ≤ _
    omega
theorem sk_le {e : Nat} (h : e < K) : sk w n K e ≤ n ∧ sk w n K e ≤ tk w n K e := by
  have h1 := tk_le (w := w) hn hK hnK e h
  unfold sk
  rcases Nat.eq_zero_or_pos (K - 1 - e) with h0 | h0
  · rw [h0] at h1 ⊢
    exact ⟨h1, Nat.le_refl _⟩
  · obtain ⟨m, hm⟩ : ∃ m, K - 1 - e = m + 1 := ⟨K - 1 - e - 1, by omega⟩
    rw [hm] at h1 ⊢
    have h2 := nextL_le (w := w) (n := n) (l := pmL w n m) (j := tk w n K e) h1
    exact ⟨h2.1, h2.2.1⟩
theorem pm_chain (hw : Asc w n) (hp : ∀ i, i < n → 1 ≤ w i) : Chain n K (tk w n K) (sk w n K) where
  n2 := hn
  t0 := rfl
  st e h := (sk_le hn hK hnK h).2
  sn e h := (sk_le hn hK hnK h).1
  next e _ := rfl
  done := by
    obtain ⟨m, rfl⟩ : ∃ m, K = m + 1 := ⟨K - 1, by omega⟩
    show 2 * (tk w n (m + 1) m - (pmL w n (m + 1 - 1 - m)).c (tk w n (m + 1) m)) = 0
    rw [show m + 1 - 1 - m = 0 by omega]
    show 2 * (tk w n (m + 1) m - tk w n (m + 1) m) = 0
    omega
  nest e h := by
    have hA := pmL_asc hw (K - 1 - (e + 1))
    have ht := tk_le (w := w) hn hK hnK e (by omega)
    have ht1 := tk_le (w := w) hn hK hnK (e + 1) h
    have hs1 := sk_le (w := w) hn hK hnK h
    rcases Nat.lt_or_ge (sk w n K e) (sk w n K (e + 1)) with hlt | hge
    · exfalso
      -- symbol sk e is among the first of the list below
      have e1 : K - 1 - e = (K - 1 - (e + 1)) + 1 := by omega
      obtain ⟨l, hl⟩ : ∃ l, pmL w n (K - 1 - (e + 1)) = l := ⟨_, rfl⟩
      have hM := nextL_merge w n l
      have hP : ∀ i, i < l.len → 1 ≤ l.x i := by
        rw [← hl]
        have hpos : ∀ k, ∀ i, i < (pmL w n k).len → 1 ≤ (pmL w n k).x i := by
          intro k
          induction k with
          | zero => exact hp
          | succ k ih =>
            intro i hi
            rcases (nextL_merge w n (pmL w n k)).step i hi with ⟨_, a, b, _⟩ | ⟨_, a, b, _⟩
            · show 1 ≤ item w n (pmL w n k) i
              rw [b]; exact hp _ a
            · show 1 ≤ item w n (pmL w n k) i
              rw [b]
              have := ih (2 * (i - cnt w n (pmL w n k) i)) (by omega)
              show 1 ≤ (pmL w n k).x _ + (pmL w n k).x _
              omega
        exact hpos _
      have es : sk w n K e = cnt w n l (tk w n K e) := by
        unfold sk
        rw [e1]
        show cnt w n (pmL w n (K - 1 - (e + 1))) _ = _
        rw [hl]
      have et : tk w n K (e + 1) = 2 * (tk w n K e - cnt w n l (tk w n K e)) := by
        show 2 * (tk w n K e - sk w n K e) = _
        rw [es]
      have hte : tk w n K e ≤ n + l.len / 2 := by
        rw [e1] at ht
        have : (pmL w n (K - 1 - (e + 1) + 1)).len = n + (pmL w n (K - 1 - (e + 1))).len / 2 := rfl
        rw [this, hl] at ht
        exact ht
      rw [hl] at hA ht1
      -- its place in the list below
      have hx : ∃ k, k < tk w n K (e + 1) ∧ l.x k = w (sk w n K e) := by
        have hsk1 : sk w n K (e + 1) = l.c (tk w n K (e + 1)) := by unfold sk; rw [hl]
        rcases Nat.eq_zero_or_pos (K - 1 - (e + 1)) with h0 | h0
        · rw [h0] at hl
          rw [hsk1, ← hl] at hlt
          have hlt' : sk w n K e < tk w n K (e + 1) := hlt
          exact ⟨_, hlt', by rw [← hl]; rfl⟩
        · obtain ⟨m, hm⟩ : ∃ m, K - 1 - (e + 1) = m + 1 := ⟨K - 1 - (e + 1) - 1, by omega⟩
          rw [hm] at hl
          rw [hsk1] at hlt
          have hM2 := nextL_merge w n (pmL w n m)
          subst hl
          obtain ⟨k, h1, _, _, h2, _⟩ := hM2.sym (j := tk w n K (e + 1)) ht1 hlt
          exact ⟨k, h1, h2⟩
      obtain ⟨k, hk1, hk2⟩ := hx
      -- the last pair taken
      have hq : tk w n K e - cnt w n l (tk w n K e) - 1 < tk w n K e - cnt w n l (tk w n K e) := by omega
      have hlt2 := hM.pair_lt hw hte hq (i := sk w n K e) (by omega) (by omega)
      obtain ⟨q, hqq⟩ : ∃ q, tk w n K e - cnt w n l (tk w n K e) = q + 1 := ⟨tk w n K e - cnt w n l (tk w n K e) - 1, by omega⟩
      rw [hqq, Nat.add_sub_cancel] at hlt2
      rw [hqq] at et
      have h3 : l.x k ≤ l.x (2 * q + 1) := hA _ _ (by omega) (by omega)
      have h4 : 1 ≤ l.x (2 * q) := hP _ (by omega)
      have h5 : l.P q = l.x (2 * q) + l.x (2 * q + 1) := rfl
      omega
    · exact hge
end
end Go.Proofs.Qxb6617947a
