import Derived.Test.Qxb6617947aEq
/-! The least cost of a code no longer than K: plain laws. -/
namespace Go.Proofs.Qxb6617947a
open Go.RowKit
set_option linter.unusedVariables false
set_option linter.unusedSimpArgs false

/-- package-merge's lists, the empty one ahead: list j serves the last j levels. -/
def pl (w : Nat → Nat) (n : Nat) : Nat → Lst
  | 0 => ⟨0, fun _ => 0, fun _ => 0⟩
  | j + 1 => pmL w n j
/-- What the first m items of list j weigh. -/
def pS (w : Nat → Nat) (n j m : Nat) : Nat := psum (pl w n j).x m
theorem pl_merge (w : Nat → Nat) (n j : Nat) : ∃ c, Merge w n (pl w n j).P ((pl w n j).len / 2) c (pl w n (j + 1)).x (n + (pl w n j).len / 2) ∧ (pl w n (j + 1)).len = n + (pl w n j).len / 2 := by
  match j with
  | 0 => exact ⟨fun i => i, ⟨rfl, fun i hi => .inl ⟨rfl, by have h : i < n + 0 / 2 := hi; omega, rfl, fun h => by have h : i - i < 0 / 2 := h; omega⟩⟩, by show n = n + 0 / 2; omega⟩
  | j + 1 => exact ⟨_, nextL_merge w n (pmL w n j), rfl⟩
theorem pl_P_asc {w : Nat → Nat} {n : Nat} (hw : Asc w n) (j : Nat) : Asc (pl w n j).P ((pl w n j).len / 2) := by
  match j with
  | 0 => intro a b _ hb; have hb : b < 0 / 2 := hb; omega
  | j + 1 => exact P_asc (pmL_asc hw j)
theorem pS_least {w : Nat → Nat} {n : Nat} (hw : Asc w n) {j x y : Nat} (hx : x ≤ n) (hy : 2 * y ≤ (pl w n j).len) : pS w n (j + 1) (x + y) ≤ psum w x + pS w n j (2 * y) := by
  obtain ⟨c, M, -⟩ := pl_merge w n j
  have := M.least hw (pl_P_asc hw j) (a := x) (b := y) (by omega) hx (by omega)
  rw [psum_P] at this
  exact this
/-- A state of the search that v was paid for, j levels lying below it: the least that it leads to is no less than OPT. -/
def LB (w : Nat → Nat) (n OPT j q v : Nat) : Prop := 2 * q ≤ (pl w n j).len → OPT ≤ v + pS w n j (2 * q)
theorem LB_start {w : Nat → Nat} {n : Nat} (hw : Asc w n) (hn : 2 ≤ n) (j : Nat) : LB w n (pS w n (j + 1) (2 * n - 2)) j (n - 2) (psum w n) := fun h => by
  have := pS_least hw (x := n) (Nat.le_refl _) h
  rw [show n + (n - 2) = 2 * n - 2 by omega] at this
  exact this
theorem LB_down {w : Nat → Nat} {n OPT j r a v : Nat} (hw : Asc w n) (hr : r ≤ n) (ha : a ≤ r) (h : LB w n OPT (j + 1) (r - a) v) : LB w n OPT j (r - min (2 * a) r) (v + psum w r) := fun h2 => by
  obtain ⟨_, _, hl⟩ := pl_merge w n j
  unfold LB at h
  rw [hl] at h
  by_cases hc : 2 * a ≤ r
  · rw [Nat.min_eq_left hc] at h2 ⊢
    have h3 := pS_least hw hr h2
    rw [show r + (r - 2 * a) = 2 * (r - a) by omega] at h3
    have := h (by omega)
    omega
  · rw [Nat.min_eq_right (by omega)] at h2 ⊢
    rw [show 2 * (r - r) = 0 by omega] at h2 ⊢
    have h3 : pS w n (j + 1) (2 * (r - a)) ≤ psum w (2 * (r - a)) + 0 := pS_least hw (j := j) (x := 2 * (r - a)) (y := 0) (by omega) (by omega)
    have h4 := psum_mono (f := w) (a := 2 * (r - a)) (b := r) (by omega)
    have := h (by omega)
    have h5 : pS w n j (2 * 0) = 0 := rfl
    have h6 : pS w n j 0 = 0 := rfl
    omega

/-! ### What Lengths' choice costs -/
theorem pm_cost {w : Nat → Nat} {n K : Nat} (hn : 2 ≤ n) (hK : 1 ≤ K) (hnK : n ≤ 2 ^ K) : ∀ e, e ≤ K → pS w n K (2 * n - 2) = psum (fun e => psum w (sk w n K e)) e + pS w n (K - e) (tk w n K e)
  | 0, _ => by show _ = 0 + _; rw [Nat.zero_add]; rfl
  | e + 1, h => by
    rw [pm_cost hn hK hnK e (by omega)]
    show _ = psum (fun e => psum w (sk w n K e)) e + psum w (sk w n K e) + _
    rw [Nat.add_assoc]
    congr 1
    have h1 := tk_le (w := w) hn hK hnK e (by omega)
    obtain ⟨i, hi⟩ : ∃ i, K - 1 - e = i := ⟨_, rfl⟩
    have hsk : sk w n K e = (pmL w n i).c (tk w n K e) := by unfold sk; rw [hi]
    have htk : tk w n K (e + 1) = 2 * (tk w n K e - sk w n K e) := rfl
    rw [htk, show K - e = i + 1 by omega, show K - (e + 1) = i by omega]
    rw [hi] at h1
    show psum (pmL w n i).x _ = _
    match i, hsk, h1 with
    | 0, hsk, h1 =>
      have e2 : sk w n K e = tk w n K e := hsk
      rw [e2, Nat.sub_self]
      rfl
    | i + 1, hsk, h1 =>
      have M := nextL_merge w n (pmL w n i)
      have := M.sum (j := tk w n K e) h1
      rw [psum_P] at this
      rw [hsk]
      exact this
theorem h_cost {w : Nat → Nat} {n : Nat} (hn : 2 ≤ n) (hw : Asc w n) : ∀ e, psum (hT w n) (2 * n - 2) = psum (fun e => psum w (Qxb6617947a.hs w n e)) e + psum (hT w n) (ht w n e)
  | 0 => by show _ = 0 + _; rw [Nat.zero_add]; rfl
  | e + 1 => by
    rw [h_cost hn hw e]
    show _ = psum (fun e => psum w (Qxb6617947a.hs w n e)) e + psum w (Qxb6617947a.hs w n e) + _
    rw [Nat.add_assoc]
    congr 1
    have := (h_merge hn hw).sum (ht_le (w := w) hn e)
    rw [psum_hW] at this
    exact this
theorem h_least {w : Nat → Nat} {n : Nat} (hn : 2 ≤ n) (hw : Asc w n) : ∀ k m, m ≤ (pmL w n k).len → m ≤ 2 * n - 2 → psum (hT w n) m ≤ psum (pmL w n k).x m
  | 0, m, h, _ => by
    have h : m ≤ n := h
    exact (h_merge hn hw).least hw (hW_asc hn hw) (a := m) (b := 0) (by omega) h (Nat.zero_le _)
  | k + 1, m, h, h2 => by
    have M := nextL_merge w n (pmL w n k)
    have hb := nextL_le (w := w) (n := n) (l := pmL w n k) (j := m) h
    have h3 := M.sum (j := m) h
    rw [psum_P] at h3
    have hl := (pmL_len_hi (w := w) (n := n) (by omega) k).2
    have h4 := h_least hn hw k (2 * (m - cnt w n (pmL w n k) m)) (by omega) (by omega)
    have h5 := (h_merge hn hw).least hw (hW_asc hn hw) (a := cnt w n (pmL w n k) m) (b := m - cnt w n (pmL w n k) m) (by omega) hb.1 (by omega)
    rw [psum_hW, show cnt w n (pmL w n k) m + (m - cnt w n (pmL w n k) m) = m by omega] at h5
    show _ ≤ psum (nextL w n (pmL w n k)).x m
    exact Nat.le_trans h5 (by rw [show psum (nextL w n (pmL w n k)).x m = _ from h3]; exact Nat.add_le_add_left h4 _)

end Go.Proofs.Qxb6617947a
