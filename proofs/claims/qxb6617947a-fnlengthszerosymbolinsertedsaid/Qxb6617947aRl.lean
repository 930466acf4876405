import Derived.Test.Qxb6617947aEq
/-! Frequencies scaled; symbols moved: plain laws. -/
namespace Go.Proofs.Qxb6617947a
open Go.RowKit
set_option linter.unusedVariables false
set_option linter.unusedSimpArgs false

theorem le_scale {c a b : Nat} (hc : 1 ≤ c) : c * a ≤ c * b ↔ a ≤ b := Nat.mul_le_mul_left_iff (by omega)
theorem lt_scale {c a b : Nat} (hc : 1 ≤ c) : c * a < c * b ↔ a < b := Nat.mul_lt_mul_left (by omega)
theorem hst_scale {c : Nat} (hc : 1 ≤ c) (w : Nat → Nat) (n : Nat) : ∀ j, hst (fun i => c * w i) n j = ((hst w n j).1, fun i => c * (hst w n j).2 i)
  | 0 => rfl
  | j + 1 => by
    have ih := hst_scale hc w n j
    simp only [hst, ih]
    rw [← Nat.mul_add]
    simp only [le_scale hc]
    by_cases h : (hst w n j).1 < n ∧ (j / 2 ≤ j - (hst w n j).1 ∨ w (hst w n j).1 ≤ (hst w n j).2 (2 * (j - (hst w n j).1)) + (hst w n j).2 (2 * (j - (hst w n j).1) + 1))
    · rw [if_pos h, if_pos h]
      congr 1
      funext i
      simp only [updF]
      split <;> rfl
    · rw [if_neg h, if_neg h]
      congr 1
      funext i
      simp only [updF]
      split <;> rfl
theorem hc_scale {c : Nat} (hc : 1 ≤ c) (w : Nat → Nat) (n : Nat) : Qxb6617947a.hc (fun i => c * w i) n = Qxb6617947a.hc w n := by
  funext j; unfold Qxb6617947a.hc; rw [hst_scale hc]
theorem ht_scale {c : Nat} (hc : 1 ≤ c) (w : Nat → Nat) (n : Nat) : ∀ e, ht (fun i => c * w i) n e = ht w n e
  | 0 => rfl
  | e + 1 => by show 2 * (ht (fun i => c * w i) n e - Qxb6617947a.hc (fun i => c * w i) n _) = _; rw [ht_scale hc w n e, hc_scale hc]; rfl
theorem hD_scale {c : Nat} (hc : 1 ≤ c) (w : Nat → Nat) (n : Nat) : hD (fun i => c * w i) n = hD w n := by
  have e : Qxb6617947a.hs (fun i => c * w i) n = Qxb6617947a.hs w n := by
    funext x; show Qxb6617947a.hc (fun i => c * w i) n (ht (fun i => c * w i) n x) = _; rw [ht_scale hc, hc_scale hc]; rfl
  funext i
  unfold hD
  rw [e]
theorem P_scale {c : Nat} {l l' : Lst} (hx : ∀ j, l'.x j = c * l.x j) (q : Nat) : l'.P q = c * l.P q := by
  show l'.x _ + l'.x _ = c * (l.x _ + l.x _)
  rw [hx, hx, Nat.mul_add]
theorem takes_scale {c : Nat} (hc : 1 ≤ c) {w : Nat → Nat} {n : Nat} {l l' : Lst} (hl : l'.len = l.len) (hx : ∀ j, l'.x j = c * l.x j) (j k : Nat) : takesPair (fun i => c * w i) n l' j k = takesPair w n l j k := by
  unfold takesPair
  rw [hl, P_scale hx]
  have : decide (c * l.P (j - k) < c * w k) = decide (l.P (j - k) < w k) := decide_eq_decide.2 (lt_scale hc)
  rw [this]
theorem cnt_scale {c : Nat} (hc : 1 ≤ c) {w : Nat → Nat} {n : Nat} {l l' : Lst} (hl : l'.len = l.len) (hx : ∀ j, l'.x j = c * l.x j) : ∀ j, cnt (fun i => c * w i) n l' j = cnt w n l j
  | 0 => rfl
  | j + 1 => by simp only [cnt]; rw [cnt_scale hc hl hx j, takes_scale hc hl hx]
theorem pmL_scale {c : Nat} (hc : 1 ≤ c) (w : Nat → Nat) (n : Nat) : ∀ k, (pmL (fun i => c * w i) n k).len = (pmL w n k).len ∧ (∀ j, (pmL (fun i => c * w i) n k).x j = c * (pmL w n k).x j) ∧ (pmL (fun i => c * w i) n k).c = (pmL w n k).c
  | 0 => ⟨rfl, fun _ => rfl, rfl⟩
  | k + 1 => by
    obtain ⟨h1, h2, h3⟩ := pmL_scale hc w n k
    refine ⟨?_, fun j => ?_, ?_⟩
    · show n + (pmL (fun i => c * w i) n k).len / 2 = n + (pmL w n k).len / 2
      rw [h1]
    · show item (fun i => c * w i) n (pmL (fun i => c * w i) n k) j = c * item w n (pmL w n k) j
      unfold item
      rw [cnt_scale hc h1 h2, takes_scale hc h1 h2, P_scale h2]
      split <;> rfl
    · show cnt (fun i => c * w i) n (pmL (fun i => c * w i) n k) = cnt w n (pmL w n k)
      funext j
      exact cnt_scale hc h1 h2 j
theorem tk_scale {c : Nat} (hc : 1 ≤ c) (w : Nat → Nat) (n K : Nat) : ∀ e, tk (fun i => c * w i) n K e = tk w n K e
  | 0 => rfl
  | e + 1 => by simp only [tk]; rw [tk_scale hc w n K e, (pmL_scale hc w n _).2.2]
theorem sk_scale {c : Nat} (hc : 1 ≤ c) (w : Nat → Nat) (n K : Nat) : sk (fun i => c * w i) n K = sk w n K := by
  funext e; unfold sk; rw [tk_scale hc, (pmL_scale hc w n _).2.2]
theorem lv_scale {c : Nat} (hc : 1 ≤ c) (w : Nat → Nat) (n K : Nat) : lv (fun i => c * w i) n K = lv w n K := by
  funext i
  unfold lv
  rw [hD_scale hc, sk_scale hc]

/-- A key, its weight scaled, its symbol moved. -/
def gk (c : Nat) (φ : Nat → Nat) (k : Nat) : Nat := c * (k / 65536) * 65536 + φ (k % 65536)
theorem gk_parts {c : Nat} {φ : Nat → Nat} {k : Nat} (h : φ (k % 65536) < 65536) : gk c φ k % 65536 = φ (k % 65536) ∧ gk c φ k / 65536 = c * (k / 65536) := by
  unfold gk; omega
structure Moves (F G : Nat → Nat) (m m' c : Nat) (φ : Nat → Nat) : Prop where
  c1 : 1 ≤ c
  hm : m ≤ 65536
  up : ∀ s t, s < t → t < m → φ s < φ t
  small : ∀ s, s < m → φ s < 65536
  keys : klist G m' = (klist F m).map (gk c φ)
namespace Moves
variable {F G : Nat → Nat} {m m' c : Nat} {φ : Nat → Nat} (H : Moves F G m m' c φ)
include H
theorem srt : srt G m' = (srt F m).map (gk c φ) := by
  unfold Qxb6617947a.srt
  rw [H.keys, List.map_mergeSort]
  intro a ha b hb
  obtain ⟨s, hs, h0, rfl⟩ := klist_mem.1 ha
  obtain ⟨t, ht, h1, rfl⟩ := klist_mem.1 hb
  have hm := H.hm
  have ks := key_sym (F := F) (s := s) (by omega)
  have kt := key_sym (F := F) (s := t) (by omega)
  have gs := H.small s hs
  have gt := H.small t ht
  unfold leB gk
  rw [ks.1, ks.2, kt.1, kt.2]
  unfold keyOf
  have u : φ s ≤ φ t ↔ s ≤ t := by
    rcases Nat.lt_trichotomy s t with h | h | h
    · have := H.up s t h ht; omega
    · rw [h]; omega
    · have := H.up t s h hs; omega
  have l1 : c * F s < c * F t ↔ F s < F t := lt_scale H.c1
  have l2 : c * F s = c * F t ↔ F s = F t := by
    have a1 : c * F s ≤ c * F t ↔ F s ≤ F t := le_scale H.c1
    have a2 : c * F t ≤ c * F s ↔ F t ≤ F s := le_scale H.c1
    omega
  refine decide_eq_decide.2 ?_
  generalize c * F s = x at *
  generalize c * F t = y at *
  omega
theorem occ : occN G m' = occN F m := by rw [← srt_len, H.srt, List.length_map, srt_len]
theorem kf (i : Nat) (hi : i < occN F m) : Kf G m' i = gk c φ (Kf F m i) := by
  have h1 : i < (Qxb6617947a.srt F m).length := by rw [srt_len]; exact hi
  unfold Kf
  rw [H.srt]
  simp [h1]
theorem wt : wtF G m' = fun i => c * wtF F m i := by
  funext i
  have hm := H.hm
  rcases Nat.lt_or_ge i (occN F m) with hi | hi
  · have h1 := Kf_sym hm hi
    unfold wtF
    rw [H.kf i hi, (gk_parts (by have := H.small _ h1.1; exact this)).2]
  · have h1 : (Qxb6617947a.srt F m).length ≤ i := by rw [srt_len]; exact hi
    have h2 : (Qxb6617947a.srt G m').length ≤ i := by rw [srt_len, H.occ]; exact hi
    unfold wtF Kf
    simp [h1, h2]
theorem sym (i : Nat) (hi : i < occN F m) : symF G m' i = φ (symF F m i) := by
  have h1 := Kf_sym H.hm hi
  unfold symF
  rw [H.kf i hi, (gk_parts (by have := H.small _ h1.1; exact this)).1]
theorem lvs (K : Nat) : lv (wtF G m') (occN G m') K = lv (wtF F m) (occN F m) K := by rw [H.wt, H.occ, lv_scale H.c1]
end Moves

theorem klist_scale {c : Nat} (hc : 1 ≤ c) (F : Nat → Nat) : ∀ m, m ≤ 65536 → klist (fun i => F i * c) m = (klist F m).map (gk c id)
  | 0, _ => rfl
  | m + 1, h => by
    simp only [klist]
    rw [klist_scale hc F m (by omega), List.map_append]
    congr 1
    have k := key_sym (F := F) (s := m) (by omega)
    by_cases h0 : 0 < F m
    · rw [if_pos h0, if_pos (Nat.mul_pos h0 hc)]
      simp only [List.map_cons, List.map_nil]
      unfold gk
      rw [k.1, k.2]
      unfold keyOf
      rw [Nat.mul_comm c (F m)]
      rfl
    · rw [if_neg h0, if_neg (by obtain e : F m = 0 := by omega
                                rw [e]; omega)]
      rfl
theorem moves_scale {c m : Nat} (hc : 1 ≤ c) (hm : m ≤ 512) (F : Nat → Nat) : Moves F (fun i => F i * c) m m c id :=
  ⟨hc, by omega, fun _ _ h _ => h, fun s h => by show s < _; omega, klist_scale hc F m (by omega)⟩
/-- Scaled frequencies: the same lengths. -/
theorem outL_scale {c m : Nat} (hc : 1 ≤ c) (hm : m ≤ 512) (F O : Nat → Nat) (K : Nat) : outL (fun i => F i * c) O m K = outL F O m K := by
  have H := moves_scale hc hm F
  funext x
  unfold outL
  rw [H.lvs, H.occ]
  unfold outF
  congr 1
  refine psum_congr fun i hi => ?_
  show (if symF (fun i => F i * c) m i = x then _ else 0) = _
  rw [H.sym i hi]
  rfl

/-- A symbol of frequency 0 put in at p. -/
def insF (F : Nat → Nat) (p s : Nat) : Nat := if s < p then F s else if s = p then 0 else F (s - 1)
def up1 (p s : Nat) : Nat := if s < p then s else s + 1
theorem klist_low (F : Nat → Nat) (p : Nat) : ∀ m, m ≤ p → m ≤ 65536 → klist (insF F p) m = (klist F m).map (gk 1 (up1 p))
  | 0, _, _ => rfl
  | m + 1, h, h2 => by
    simp only [klist]
    rw [klist_low F p m (by omega) (by omega), List.map_append]
    congr 1
    have k := key_sym (F := F) (s := m) (by omega)
    have e : insF F p m = F m := if_pos (by omega)
    rw [e]
    by_cases h0 : 0 < F m
    · rw [if_pos h0, if_pos h0]
      simp only [List.map_cons, List.map_nil]
      unfold gk
      rw [k.1, k.2]
      unfold keyOf up1
      rw [e, if_pos (by omega : m < p), Nat.one_mul]
    · rw [if_neg h0, if_neg h0]; rfl
theorem klist_ins (F : Nat → Nat) (p : Nat) : ∀ m, p ≤ m → m ≤ 65535 → klist (insF F p) (m + 1) = (klist F m).map (gk 1 (up1 p))
  | 0, h, _ => by
    obtain rfl : p = 0 := by omega
    rfl
  | m + 1, h, h2 => by
    rcases Nat.lt_or_ge m p with hp | hp
    · obtain rfl : p = m + 1 := by omega
      have e : insF F (m + 1) (m + 1) = 0 := by unfold insF; rw [if_neg (by omega), if_pos rfl]
      show klist (insF F (m + 1)) (m + 1) ++ _ = _
      rw [e, if_neg (by omega), List.append_nil, klist_low F (m + 1) (m + 1) (Nat.le_refl _) (by omega)]
    · show klist (insF F p) (m + 1) ++ _ = List.map _ (klist F m ++ _)
      rw [klist_ins F p m hp (by omega), List.map_append]
      congr 1
      have k := key_sym (F := F) (s := m) (by omega)
      have e : insF F p (m + 1) = F m := by unfold insF; rw [if_neg (by omega), if_neg (by omega)]; rfl
      rw [e]
      by_cases h0 : 0 < F m
      · rw [if_pos h0, if_pos h0]
        simp only [List.map_cons, List.map_nil]
        unfold gk
        rw [k.1, k.2]
        unfold keyOf up1
        rw [e, if_neg (by omega : ¬ m < p), Nat.one_mul]
      · rw [if_neg h0, if_neg h0]; rfl
theorem moves_ins {m p : Nat} (hm : m ≤ 511) (hp : p ≤ m) (F : Nat → Nat) : Moves F (insF F p) m (m + 1) 1 (up1 p) :=
  ⟨Nat.le_refl _, by omega, fun s t h _ => by unfold up1; split <;> split <;> omega, fun s h => by unfold up1; split <;> omega, klist_ins F p m hp (by omega)⟩
/-- With a symbol of frequency 0 put in, every other symbol keeps its length. -/
theorem outL_ins {m p : Nat} (hm : m ≤ 511) (hp : p ≤ m) (F A B : Nat → Nat) (K : Nat) (hAB : ∀ x, m ≤ x → B (x + 1) = A x) :
    (∀ x, outL (insF F p) B (m + 1) K (up1 p x) = outL F A m K x) ∧ outL (insF F p) B (m + 1) K p = 0 := by
  have H := moves_ins hm hp F
  unfold outL
  rw [H.lvs, H.occ]
  unfold outF
  refine ⟨fun x => ?_, ?_⟩
  · congr 1
    · unfold clr up1
      by_cases h1 : x < p
      · rw [if_pos h1, if_pos (by omega), if_pos (by omega)]
      · rw [if_neg h1]
        by_cases h2 : x < m
        · rw [if_pos (by omega), if_pos h2]
        · rw [if_neg (by omega), if_neg h2, hAB x (by omega)]
    · refine psum_congr fun i hi => ?_
      show (if symF (insF F p) (m + 1) i = up1 p x then _ else 0) = (if symF F m i = x then _ else 0)
      rw [H.sym i hi]
      by_cases h : symF F m i = x
      · rw [if_pos h, if_pos (by rw [h])]
      · rw [if_neg h, if_neg (fun e => h (by unfold up1 at e; split at e <;> split at e <;> omega))]
  · rw [psum_congr (g := fun _ => 0) (fun i hi => by
      show (if symF (insF F p) (m + 1) i = p then _ else 0) = 0
      rw [H.sym i hi, if_neg (fun e => by unfold up1 at e; split at e <;> omega)]), psum_zero]
    unfold clr
    rw [if_pos (by omega)]

end Go.Proofs.Qxb6617947a
