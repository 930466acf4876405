import Derived.Test.Qxb6617947aPf
import Derived.Test.Qxb6617947aSm
/-! The keys. -/
namespace Go.Proofs.Qxb6617947a

def keyOf (F : Nat → Nat) (s : Nat) : Nat := F s * 65536 + s
def klist (F : Nat → Nat) : Nat → List Nat
  | 0 => []
  | m + 1 => klist F m ++ if 0 < F m then [keyOf F m] else []
theorem klist_len (F : Nat → Nat) : ∀ m, (klist F m).length = occN F m
  | 0 => rfl
  | m + 1 => by
    show (klist F m ++ _).length = occN F m + (if 0 < F m then 1 else 0)
    rw [List.length_append, klist_len F m]
    by_cases h : 0 < F m
    · rw [if_pos h, if_pos h]; rfl
    · rw [if_neg h, if_neg h]; rfl
theorem klist_mem {F : Nat → Nat} {k : Nat} : ∀ {m : Nat}, k ∈ klist F m ↔ ∃ s, s < m ∧ 0 < F s ∧ k = keyOf F s
  | 0 => by
    constructor
    · intro h; cases h
    · rintro ⟨s, h, _⟩; omega
  | m + 1 => by
    show k ∈ klist F m ++ _ ↔ _
    rw [List.mem_append, klist_mem]
    constructor
    · rintro (⟨s, h1, h2, h3⟩ | h)
      · exact ⟨s, by omega, h2, h3⟩
      · by_cases h0 : 0 < F m
        · rw [if_pos h0, List.mem_singleton] at h
          exact ⟨m, by omega, h0, h⟩
        · rw [if_neg h0] at h; cases h
    · rintro ⟨s, h1, h2, h3⟩
      rcases Nat.lt_or_ge s m with h | h
      · exact .inl ⟨s, h, h2, h3⟩
      · obtain rfl : s = m := by omega
        right
        rw [if_pos h2, h3]; exact List.mem_singleton.2 rfl
theorem key_sym {F : Nat → Nat} {s : Nat} (h : s < 65536) : keyOf F s % 65536 = s ∧ keyOf F s / 65536 = F s := by
  unfold keyOf
  omega
theorem klist_nodup {F : Nat → Nat} : ∀ {m : Nat}, m ≤ 65536 → (klist F m).Nodup
  | 0, _ => List.nodup_nil
  | m + 1, h => by
    show (klist F m ++ _).Nodup
    rw [List.nodup_append]
    refine ⟨klist_nodup (by omega), ?_, fun a ha b hb => ?_⟩
    · by_cases h0 : 0 < F m
      · rw [if_pos h0]; simp
      · rw [if_neg h0]; exact List.nodup_nil
    · by_cases h0 : 0 < F m
      · rw [if_pos h0, List.mem_singleton] at hb
        obtain ⟨s, h1, _, rfl⟩ := klist_mem.1 ha
        subst hb
        intro e
        have e1 := (key_sym (F := F) (s := s) (by omega)).1
        have e2 := (key_sym (F := F) (s := m) (by omega)).1
        rw [e] at e1
        omega
      · rw [if_neg h0] at hb; cases hb

def leB (x y : Nat) : Bool := decide (x ≤ y)
def srt (F : Nat → Nat) (m : Nat) : List Nat := (klist F m).mergeSort leB
theorem srt_perm (F : Nat → Nat) (m : Nat) : (srt F m).Perm (klist F m) := List.mergeSort_perm _ _
theorem srt_len (F : Nat → Nat) (m : Nat) : (srt F m).length = occN F m := by rw [(srt_perm F m).length_eq, klist_len]
theorem srt_sorted (F : Nat → Nat) (m : Nat) : (srt F m).Pairwise (fun a b => leB a b = true) :=
  List.pairwise_mergeSort (fun a b c h1 h2 => by simp only [leB, decide_eq_true_eq] at *; omega) (fun a b => by simp only [leB, Bool.or_eq_true, decide_eq_true_eq]; omega) _
/-- The keys, sorted. -/
def Kf (F : Nat → Nat) (m i : Nat) : Nat := (srt F m).getD i 0
def symF (F : Nat → Nat) (m i : Nat) : Nat := Kf F m i % 65536
def wtF (F : Nat → Nat) (m i : Nat) : Nat := Kf F m i / 65536
theorem Kf_get {F : Nat → Nat} {m i : Nat} (h : i < occN F m) : (srt F m)[i]'(by rw [srt_len]; exact h) = Kf F m i := by
  unfold Kf
  rw [List.getD_eq_getElem?_getD, List.getElem?_eq_getElem (by rw [srt_len]; exact h)]
  rfl
theorem Kf_mem {F : Nat → Nat} {m i : Nat} (h : i < occN F m) : ∃ s, s < m ∧ 0 < F s ∧ Kf F m i = keyOf F s := by
  have h1 : Kf F m i ∈ srt F m := by rw [← Kf_get h]; exact List.getElem_mem _
  obtain ⟨s, a, b, c⟩ := klist_mem.1 ((srt_perm F m).mem_iff.1 h1)
  exact ⟨s, a, b, c⟩
theorem Kf_asc {F : Nat → Nat} {m i j : Nat} (hij : i ≤ j) (h : j < occN F m) : Kf F m i ≤ Kf F m j := by
  rcases Nat.eq_or_lt_of_le hij with e | e
  · rw [e]; exact Nat.le_refl _
  · have := List.pairwise_iff_getElem.1 (srt_sorted F m) i j (by rw [srt_len]; omega) (by rw [srt_len]; exact h) e
    rw [Kf_get (by omega), Kf_get h] at this
    simpa [leB] using this
theorem Kf_surj {F : Nat → Nat} {m s : Nat} (hs : s < m) (h0 : 0 < F s) : ∃ i, i < occN F m ∧ Kf F m i = keyOf F s := by
  have h1 : keyOf F s ∈ srt F m := (srt_perm F m).mem_iff.2 (klist_mem.2 ⟨s, hs, h0, rfl⟩)
  obtain ⟨i, hi, e⟩ := List.getElem_of_mem h1
  rw [srt_len] at hi
  exact ⟨i, hi, by rw [← Kf_get hi]; exact e⟩
theorem Kf_sym {F : Nat → Nat} {m i : Nat} (hm : m ≤ 65536) (h : i < occN F m) : symF F m i < m ∧ 0 < F (symF F m i) ∧ wtF F m i = F (symF F m i) ∧ Kf F m i = keyOf F (symF F m i) := by
  obtain ⟨s, h1, h2, h3⟩ := Kf_mem h
  have h4 := key_sym (F := F) (s := s) (by omega)
  have e : symF F m i = s := by unfold symF; rw [h3]; exact h4.1
  have e2 : wtF F m i = F s := by unfold wtF; rw [h3]; exact h4.2
  rw [e, e2]
  exact ⟨h1, h2, rfl, h3⟩
theorem sym_inj {F : Nat → Nat} {m : Nat} (hm : m ≤ 65536) : ∀ i j, i < occN F m → j < occN F m → symF F m i = symF F m j → i = j := fun i j hi hj e => by
  have e1 := (Kf_sym hm hi).2.2.2
  have e2 := (Kf_sym hm hj).2.2.2
  rw [e, ← e2, ← Kf_get hi, ← Kf_get hj] at e1
  have hnd := List.pairwise_iff_getElem.1 ((srt_perm F m).nodup_iff.2 (klist_nodup hm))
  rcases Nat.lt_trichotomy i j with h | h | h
  · exact absurd e1 (hnd i j (by rw [srt_len]; exact hi) (by rw [srt_len]; exact hj) h)
  · exact h
  · exact absurd e1.symm (hnd j i (by rw [srt_len]; exact hj) (by rw [srt_len]; exact hi) h)
theorem sym_surj {F : Nat → Nat} {m s : Nat} (hm : m ≤ 65536) (hs : s < m) (h0 : 0 < F s) : ∃ i, i < occN F m ∧ symF F m i = s := by
  obtain ⟨i, hi, e⟩ := Kf_surj hs h0
  exact ⟨i, hi, by unfold symF; rw [e]; exact (key_sym (by omega)).1⟩
theorem wt_asc {F : Nat → Nat} {m : Nat} : Asc (wtF F m) (occN F m) := fun _ _ hij hj => Nat.div_le_div_right (Kf_asc hij hj)
theorem wt_pos {F : Nat → Nat} {m : Nat} (hm : m ≤ 65536) : ∀ i, i < occN F m → 1 ≤ wtF F m i := fun i hi => by
  obtain ⟨_, h2, h3, _⟩ := Kf_sym hm hi
  rw [h3]; exact h2
theorem Kf_int (F : Nat → Nat) (m : Nat) : ((klist F m).map fun k : Nat => (k : Int)).mergeSort (fun x y => decide (x ≤ y)) = (srt F m).map fun k : Nat => (k : Int) := by
  unfold srt
  rw [List.map_mergeSort]
  intro a _ b _
  simp only [leB]
  exact decide_eq_decide.2 ⟨fun h => by omega, fun h => by omega⟩
end Go.Proofs.Qxb6617947a
