import Derived.Test.Qxb6617947aOq
/-! The search over the levels: what each round keeps. -/
namespace Go.Proofs.Qxb6617947a
open Go.RowKit
set_option linter.unusedVariables false
set_option linter.unusedSimpArgs false

/-- What stands for 'not reached'. -/
def INF : Nat := 18446744073709551615
abbrev Tab := Nat → Nat → Nat
def updT (V : Tab) (i a v : Nat) : Tab := fun i' a' => if i' = i ∧ a' = a then v else V i' a'
theorem updT_at (V : Tab) (i a v : Nat) : updT V i a v i a = v := if_pos ⟨rfl, rfl⟩
theorem updT_off {V : Tab} {i a v i' a' : Nat} (h : ¬ (i' = i ∧ a' = a)) : updT V i a v i' a' = V i' a' := if_neg h
/-- Each state that is reached, j levels lying below it, is paid for with at most B and leads to no less than OPT. -/
def LBs (w : Nat → Nat) (n OPT j B : Nat) (V : Tab) : Prop := ∀ i a, i + a ≤ n → V i a ≤ INF ∧ (V i a < INF → LB w n OPT j (n - i - a) (V i a) ∧ V i a ≤ B)
/-- Is (i', a') behind us, the walk standing at (i, a)? -/
def Past (n i a i' a' : Nat) : Prop := (i' < i ∨ (i' = i ∧ a' < a)) ∧ 1 ≤ a' ∧ i' + a' ≤ n
/-- Within a level: the states up to (i, a) had their say. -/
structure Plc (w : Nat → Nat) (n OPT j B : Nat) (V0 V : Tab) (i a : Nat) : Prop where
  lb : LBs w n OPT j B V
  le : ∀ i' a', i' + a' ≤ n → V i' a' ≤ V0 i' a'
  cl : ∀ i' a', Past n i a i' a' → i' < n → V (i' + 1) (a' - 1) ≤ V i' a'
section
variable {w : Nat → Nat} {n OPT j B : Nat} {V0 V : Tab} {i a : Nat}
theorem Plc.start (h : LBs w n OPT j B V) : Plc w n OPT j B V V 0 1 := ⟨h, fun _ _ _ => Nat.le_refl _, fun i' a' h2 _ => by unfold Past at h2; omega⟩
theorem Plc.row (h : Plc w n OPT j B V0 V i a) (ha : n < i + a) : Plc w n OPT j B V0 V (i + 1) 1 := ⟨h.lb, h.le, fun i' a' h2 hi => h.cl i' a' (by unfold Past at *; omega) hi⟩
theorem Plc.skip (h : Plc w n OPT j B V0 V i a) (hi : i < n) (hia : i + a ≤ n) (hs : V (i + 1) (a - 1) ≤ V i a) : Plc w n OPT j B V0 V i (a + 1) := ⟨h.lb, h.le, fun i' a' h2 h3 => by
  by_cases h4 : i' = i ∧ a' = a
  · rw [h4.1, h4.2]; exact hs
  · exact h.cl i' a' (by unfold Past at *; omega) h3⟩
theorem Plc.put (h : Plc w n OPT j B V0 V i a) (hi : i < n) (ha : 1 ≤ a) (hia : i + a ≤ n) (hc : V i a < INF) (hs : V i a < V (i + 1) (a - 1)) : Plc w n OPT j B V0 (updT V (i + 1) (a - 1) (V i a)) i (a + 1) where
  lb i' a' hb := by
    by_cases h4 : i' = i + 1 ∧ a' = a - 1
    · rw [h4.1, h4.2, updT_at]
      obtain ⟨h5, h6⟩ := h.lb i a hia
      rw [show n - (i + 1) - (a - 1) = n - i - a by omega]
      exact ⟨h5, h6⟩
    · rw [updT_off h4]; exact h.lb i' a' hb
  le i' a' hb := by
    by_cases h4 : i' = i + 1 ∧ a' = a - 1
    · rw [h4.1, h4.2, updT_at]
      have := h.le (i + 1) (a - 1) (by omega)
      omega
    · rw [updT_off h4]; exact h.le i' a' hb
  cl i' a' h2 h3 := by
    have h5 : ¬ (i' = i + 1 ∧ a' = a - 1) := fun h6 => by unfold Past at h2; omega
    rw [updT_off h5]
    by_cases h4 : i' = i ∧ a' = a
    · rw [h4.1, h4.2, updT_at]; exact Nat.le_refl _
    · have h7 : ¬ (i' + 1 = i + 1 ∧ a' - 1 = a - 1) := fun h6 => h4 (by unfold Past at h2; omega)
      rw [updT_off h7]
      exact h.cl i' a' (by unfold Past at *; omega) h3
end
/-- Down a level: the states up to (i, a) had their say. -/
structure Dwn (w : Nat → Nat) (n OPT j B : Nat) (A V : Tab) (i a : Nat) : Prop where
  lb : LBs w n OPT j B V
  cl : ∀ i' a', Past n i a i' a' → i' < n → A i' a' < INF → V i' (min (2 * a') (n - i')) ≤ A i' a' + psum w (n - i')
section
variable {w : Nat → Nat} {n OPT j B : Nat} {A V : Tab} {i a : Nat}
theorem Dwn.start (h : ∀ i a, V i a = INF) : Dwn w n OPT j B A V 0 1 := ⟨fun i a _ => by rw [h]; exact ⟨Nat.le_refl _, fun h2 => absurd h2 (Nat.lt_irrefl _)⟩, fun i' a' h2 _ => by unfold Past at h2; omega⟩
theorem Dwn.row (h : Dwn w n OPT j B A V i a) (ha : n < i + a) : Dwn w n OPT j B A V (i + 1) 1 := ⟨h.lb, fun i' a' h2 hi => h.cl i' a' (by unfold Past at *; omega) hi⟩
theorem Dwn.skip (h : Dwn w n OPT j B A V i a) (hi : i < n) (hia : i + a ≤ n) (hs : A i a < INF → V i (min (2 * a) (n - i)) ≤ A i a + psum w (n - i)) : Dwn w n OPT j B A V i (a + 1) := ⟨h.lb, fun i' a' h2 h3 => by
  by_cases h4 : i' = i ∧ a' = a
  · rw [h4.1, h4.2]; exact hs
  · exact h.cl i' a' (by unfold Past at *; omega) h3⟩
theorem Dwn.put {B0 : Nat} (hw : Asc w n) (hA : LBs w n OPT (j + 1) B0 A) (hB : B0 + psum w n ≤ B) (hBI : B < INF) (h : Dwn w n OPT j B A V i a) (hi : i < n) (ha : 1 ≤ a) (hia : i + a ≤ n) (hc : A i a < INF) (hs : A i a + psum w (n - i) < V i (min (2 * a) (n - i))) :
    Dwn w n OPT j B A (updT V i (min (2 * a) (n - i)) (A i a + psum w (n - i))) i (a + 1) where
  lb i' a' hb := by
    by_cases h4 : i' = i ∧ a' = min (2 * a) (n - i)
    · rw [h4.1, h4.2, updT_at]
      obtain ⟨h5, h6⟩ := hA i a hia
      obtain ⟨h7, h8⟩ := h6 hc
      have h9 := psum_mono (f := w) (a := n - i) (b := n) (by omega)
      exact ⟨by omega, fun _ => ⟨LB_down hw (by omega) (by omega) h7, by omega⟩⟩
    · rw [updT_off h4]; exact h.lb i' a' hb
  cl i' a' h2 h3 h4 := by
    by_cases h5 : i' = i ∧ a' = a
    · rw [h5.1, h5.2, updT_at]; exact Nat.le_refl _
    · have h6 := h.cl i' a' (by unfold Past at *; omega) h3 h4
      by_cases h7 : i' = i ∧ min (2 * a') (n - i') = min (2 * a) (n - i)
      · rw [h7.1] at h6 ⊢
        rw [h7.1] at h7
        rw [h7.2] at h6 ⊢
        rw [updT_at]; omega
      · rw [updT_off h7]; exact h6
end
/-- At the head of level e + 1: the state that Lengths' code runs through is reached at what it costs; or all was placed. -/
def UB (w : Nat → Nat) (n K : Nat) (t s : Nat → Nat) (e : Nat) (V : Tab) (best : Nat) : Prop :=
  (0 < s e ∧ V (n - s e) (2 * s e - t e) ≤ psum (fun e => psum w (s e)) (e + 1)) ∨ best ≤ psum (fun e => psum w (s e)) K
section
variable {w : Nat → Nat} {n K : Nat} {t s : Nat → Nat} (C : Chain n K t s) (hs : s K = 0)
include C hs
theorem placed_path {V0 V : Tab} {OPT j B i a e c : Nat} (P : Plc w n OPT j B V0 V i a) (hi : n ≤ i) (he : e < K) (h0 : 0 < s e) (hA : V0 (n - s e) (2 * s e - t e) ≤ c) : ∀ x, x ≤ s e - s (e + 1) → V (n - s e + x) (2 * s e - t e - x) ≤ c
  | 0, _ => by
    have h1 := C.sn e he
    have h2 := C.st e he
    exact Nat.le_trans (P.le _ _ (by omega)) hA
  | x + 1, h => by
    have ih := placed_path P hi he h0 hA x (by omega)
    have h1 := C.sn e he
    have h2 := C.st e he
    have h3 := C.fits he hs
    have h4 := P.cl (n - s e + x) (2 * s e - t e - x) (by unfold Past; omega) (by omega)
    exact Nat.le_trans h4 ih
/-- Behind a level: all is placed at what the code costs, or the next state stands ready. -/
theorem level_end {V0 V : Tab} {OPT j B i a e best : Nat} (P : Plc w n OPT j B V0 V i a) (hi : n ≤ i) (he : e < K) (U : UB w n K t s e V0 best) :
    (0 < s (e + 1) ∧ V (n - s (e + 1)) (s e + s (e + 1) - t e) ≤ psum (fun e => psum w (s e)) (e + 1)) ∨ min (V n 0) best ≤ psum (fun e => psum w (s e)) K := by
  rcases U with ⟨h0, hA⟩ | hb
  · have h1 := C.sn e he
    have h2 := C.st e he
    have h3 := C.fits he hs
    have h4 := placed_path C hs P hi he h0 hA (s e - s (e + 1)) (Nat.le_refl _)
    rw [show n - s e + (s e - s (e + 1)) = n - s (e + 1) by omega, show 2 * s e - t e - (s e - s (e + 1)) = s e + s (e + 1) - t e by omega] at h4
    rcases Nat.eq_zero_or_pos (s (e + 1)) with h5 | h5
    · right
      rw [h5, Nat.sub_zero, show s e + 0 - t e = 0 by have := h3.2.2.2 h5; omega] at h4
      have h6 := psum_mono (f := fun e => psum w (s e)) (a := e + 1) (b := K) (by omega)
      omega
    · exact .inl ⟨h5, h4⟩
  · right; omega
theorem next_head {A V : Tab} {OPT j B i a e best : Nat} (hC : psum (fun e => psum w (s e)) K < INF) (D : Dwn w n OPT j B A V i a) (hi : n ≤ i) (he : e + 1 < K)
    (h : (0 < s (e + 1) ∧ A (n - s (e + 1)) (s e + s (e + 1) - t e) ≤ psum (fun e => psum w (s e)) (e + 1)) ∨ best ≤ psum (fun e => psum w (s e)) K) : UB w n K t s (e + 1) V best := by
  rcases h with ⟨h0, hA⟩ | hb
  · left
    refine ⟨h0, ?_⟩
    have h1 := C.sn (e + 1) he
    have h2 := C.st (e + 1) he
    have h3 := C.fits (by omega : e < K) hs
    have h5 := C.tight he
    have h6 := psum_mono (f := fun e => psum w (s e)) (a := e + 1) (b := K) (by omega)
    have h4 := D.cl (n - s (e + 1)) (s e + s (e + 1) - t e) (by unfold Past; omega) (by omega) (by omega)
    rw [show n - (n - s (e + 1)) = s (e + 1) by omega, show min (2 * (s e + s (e + 1) - t e)) (s (e + 1)) = 2 * s (e + 1) - t (e + 1) by omega] at h4
    show _ ≤ psum (fun e => psum w (s e)) (e + 1) + psum w (s (e + 1))
    omega
  · exact .inr hb
end

end Go.Proofs.Qxb6617947a
