import Derived.Test.Qxb6617947aEq
import Derived.Test.Qxb6617947aCb
/-! Weights, heaviest first: plain laws. -/
namespace Go.Proofs.Qxb6617947a
open Go.RowKit
set_option linter.unusedVariables false
set_option linter.unusedSimpArgs false

theorem psum_head (f : Nat → Nat) : ∀ n, psum f (n + 1) = f 0 + psum (fun i => f (i + 1)) n
  | 0 => by simp [psum]
  | n + 1 => by
    show psum f (n + 1) + f (n + 1) = f 0 + (psum (fun i => f (i + 1)) n + f (n + 1))
    rw [psum_head f n, Nat.add_assoc]
theorem psum_rev : ∀ (n : Nat) (f : Nat → Nat), psum (fun i => f (n - 1 - i)) n = psum f n
  | 0, _ => rfl
  | n + 1, f => by
    show psum (fun i => f (n + 1 - 1 - i)) n + f (n + 1 - 1 - n) = _
    rw [psum_head f n, ← psum_rev n (fun i => f (i + 1)), show n + 1 - 1 - n = 0 by omega, Nat.add_comm]
    congr 1
    refine psum_congr fun i hi => ?_
    show f (n + 1 - 1 - i) = f (n - 1 - i + 1)
    congr 1
    omega
theorem psum_swap {f g : Nat → Nat} {j : Nat} (h1 : g j = f (j + 1)) (h2 : g (j + 1) = f j) (h3 : ∀ k, k ≠ j → k ≠ j + 1 → g k = f k) : ∀ n, j + 2 ≤ n → psum g n = psum f n := by
  intro n
  induction n with
  | zero => intro h; omega
  | succ n ih =>
    intro h
    show psum g n + g n = psum f n + f n
    rcases Nat.lt_or_ge n (j + 2) with h4 | h4
    · obtain rfl : n = j + 1 := by omega
      show psum g j + g j + g (j + 1) = psum f j + f j + f (j + 1)
      rw [h1, h2, psum_congr (f := g) (g := f) (fun i hi => h3 i (by omega) (by omega))]
      omega
    · rw [ih h4, h3 n (by omega) (by omega)]
def Same (X : Nat → Nat) (n : Nat) (G : (Nat → Nat) → Nat) : Prop := ∀ h : Nat → Nat, psum (fun i => h (X i)) n = G h
def Desc (X : Nat → Nat) (n : Nat) : Prop := ∀ a b, a < b → b < n → X b ≤ X a
theorem desc_le {X Y : Nat → Nat} {n : Nat} (hX : Desc X n) (hY : Desc Y n) (hS : ∀ h : Nat → Nat, psum (fun i => h (X i)) n = psum (fun i => h (Y i)) n) {i : Nat} (hi : i < n) : Y i ≤ X i := by
  rcases Nat.lt_or_ge (X i) (Y i) with h | h
  · exfalso
    have e := hS (fun v => if Y i ≤ v then 1 else 0)
    have h1 := psum_ge (f := fun k => if Y i ≤ Y k then 1 else 0) (a := 0) (b := i + 1) (k := 1) (by omega) (fun k _ hk => by
      show 1 ≤ (if Y i ≤ Y k then 1 else 0)
      rw [if_pos]
      · exact Nat.le_refl _
      · rcases Nat.lt_or_ge k i with h2 | h2
        · exact hY k i h2 hi
        · obtain rfl : k = i := by omega
          exact Nat.le_refl _)
    have h2 := psum_mono (f := fun k => if Y i ≤ Y k then 1 else 0) (a := i + 1) (b := n) (by omega)
    have h3 := psum_le (f := fun k => if Y i ≤ X k then 1 else 0) (a := 0) (b := i) (k := 1) (by omega) (fun k _ _ => by show (if Y i ≤ X k then 1 else 0) ≤ 1; split <;> omega)
    have h4 := psum_le (f := fun k => if Y i ≤ X k then 1 else 0) (a := i) (b := n) (k := 0) (by omega) (fun k hk hn => by
      show (if Y i ≤ X k then 1 else 0) ≤ 0
      rw [if_neg]
      · exact Nat.le_refl _
      · rcases Nat.eq_or_lt_of_le hk with h5 | h5
        · rw [← h5]; omega
        · have := hX i k h5 hn; omega)
    simp only [psum, Nat.zero_add, Nat.mul_one, Nat.sub_zero, Nat.mul_zero, Nat.add_zero] at h1 h3 h4
    have e2 : psum (fun k => if Y i ≤ X k then 1 else 0) n = psum (fun k => if Y i ≤ Y k then 1 else 0) n := e
    have h1' : i + 1 ≤ psum (fun k => if Y i ≤ Y k then 1 else 0) (i + 1) := h1
    omega
  · exact h
theorem desc_eq {X Y : Nat → Nat} {n : Nat} (hX : Desc X n) (hY : Desc Y n) (hS : ∀ h : Nat → Nat, psum (fun i => h (X i)) n = psum (fun i => h (Y i)) n) {i : Nat} (hi : i < n) : X i = Y i :=
  Nat.le_antisymm (desc_le hY hX (fun h => (hS h).symm) hi) (desc_le hX hY hS hi)
/-- While x = the element at i finds its place: a hole at j. -/
structure Hole (X : Nat → Nat) (n i j x : Nat) (G : (Nat → Nat) → Nat) : Prop where
  same : Same (updF X j x) n G
  d1 : ∀ a b, a < b → b ≤ i → a ≠ j → b ≠ j → X b ≤ X a
  d2 : ∀ b, j < b → b ≤ i → X b ≤ x
theorem Hole.start {X : Nat → Nat} {n i : Nat} {G : (Nat → Nat) → Nat} (hS : Same X n G) (hD : Desc X i) : Hole X n i i (X i) G where
  same := by
    have e : updF X i (X i) = X := by funext k; unfold updF; split <;> simp_all
    rw [e]; exact hS
  d1 a b h1 h2 _ h4 := hD a b h1 (by omega)
  d2 b h1 h2 := by omega
theorem Hole.step {X : Nat → Nat} {n i j x : Nat} {G : (Nat → Nat) → Nat} (H : Hole X n i (j + 1) x G) (hj : j + 1 ≤ i) (hi : i < n) (hx : X j < x) : Hole (updF X (j + 1) (X j)) n i j x G where
  same := fun h => by
    rw [← H.same h]
    refine psum_swap (j := j) ?_ ?_ (fun k h1 h2 => ?_) n (by omega)
    · show h (updF (updF X (j + 1) (X j)) j x j) = h (updF X (j + 1) x (j + 1))
      unfold updF; rw [if_pos rfl, if_pos rfl]
    · show h (updF (updF X (j + 1) (X j)) j x (j + 1)) = h (updF X (j + 1) x j)
      unfold updF; rw [if_neg (by omega), if_pos rfl, if_neg (by omega)]
    · show h (updF (updF X (j + 1) (X j)) j x k) = h (updF X (j + 1) x k)
      unfold updF; rw [if_neg h1, if_neg h2, if_neg h2]
  d1 a b h1 h2 h3 h4 := by
    unfold updF
    by_cases hb : b = j + 1
    · rw [if_pos hb, if_neg (by omega)]; exact H.d1 a j (by omega) (by omega) (by omega) (by omega)
    · rw [if_neg hb]
      by_cases ha : a = j + 1
      · rw [if_pos ha]; exact H.d1 j b (by omega) h2 (by omega) hb
      · rw [if_neg ha]; exact H.d1 a b h1 h2 ha hb
  d2 b h1 h2 := by
    unfold updF
    by_cases hb : b = j + 1
    · rw [if_pos hb]; omega
    · rw [if_neg hb]; exact H.d2 b (by omega) h2
theorem Hole.done {X : Nat → Nat} {n i j x : Nat} {G : (Nat → Nat) → Nat} (H : Hole X n i j x G) (hx : j = 0 ∨ x ≤ X (j - 1)) : Same (updF X j x) n G ∧ Desc (updF X j x) (i + 1) := by
  refine ⟨H.same, fun a b h1 h2 => ?_⟩
  unfold updF
  by_cases hb : b = j
  · rw [if_pos hb, if_neg (by omega)]
    rcases hx with h | h
    · omega
    · rcases Nat.lt_or_ge a (j - 1) with h3 | h3
      · exact Nat.le_trans h (H.d1 a (j - 1) h3 (by omega) (by omega) (by omega))
      · rw [show a = j - 1 by omega]; exact h
  · rw [if_neg hb]
    by_cases ha : a = j
    · rw [if_pos ha]; exact H.d2 b (by omega) (by omega)
    · rw [if_neg ha]; exact H.d1 a b h1 (by omega) ha hb
/-- The weights that occur. -/
def GF (F : Nat → Nat) (m : Nat) (h : Nat → Nat) : Nat := psum (fun s => if 0 < F s then h (F s) else 0) m
theorem desc_wt {F X : Nat → Nat} {m : Nat} (hm : m ≤ 512) (hS : Same X (occN F m) (GF F m)) (hD : Desc X (occN F m)) {j : Nat} (hj : j < occN F m) : X j = wtF F m (occN F m - 1 - j) := by
  refine desc_eq (Y := fun j => wtF F m (occN F m - 1 - j)) hD (fun a b h1 h2 => wt_asc (F := F) (m := m) _ _ (by omega) (by omega)) (fun h => ?_) hj
  rw [hS h]
  have h1 := psum_rev (occN F m) (fun i => h (wtF F m i))
  show _ = psum (fun i => (fun i => h (wtF F m i)) (occN F m - 1 - i)) (occN F m)
  rw [h1]
  unfold GF
  rw [by_rank hm (fun s => h (F s))]
  refine psum_congr fun i hi => ?_
  show h (F (symF F m i)) = h (wtF F m i)
  rw [(Kf_sym (by omega) hi).2.2.1]
theorem same_push {F X : Nat → Nat} {s q : Nat} (hq : occN F s = q) (hS : Same X q (GF F s)) (h0 : 0 < F s) : Same (updF X q (F s)) (q + 1) (GF F (s + 1)) := fun h => by
  show psum (fun i => h (updF X q (F s) i)) q + h (updF X q (F s) q) = psum (fun s => if 0 < F s then h (F s) else 0) s + (if 0 < F s then h (F s) else 0)
  rw [if_pos h0]
  have e : updF X q (F s) q = F s := if_pos rfl
  rw [e, psum_congr (f := fun i => h (updF X q (F s) i)) (g := fun i => h (X i)) (fun i hi => by show h (updF X q (F s) i) = _; unfold updF; rw [if_neg (by omega)])]
  congr 1
  exact hS h
theorem same_skip {F X : Nat → Nat} {s q : Nat} (hS : Same X q (GF F s)) (h0 : ¬ 0 < F s) : Same X q (GF F (s + 1)) := fun h => by
  show _ = psum (fun s => if 0 < F s then h (F s) else 0) s + (if 0 < F s then h (F s) else 0)
  rw [if_neg h0]; exact hS h

end Go.Proofs.Qxb6617947a
