import Derived.Test.Qxb6619702aStep
/-! A script's last mentions, and what is wanted of them. -/
namespace Go.Proofs.Qxb6619702a

def lastF (SC : Nat → ByteArray) (k : Nat) : ByteArray → Option Int := (List.range k).foldl (fun M (j : Nat) => put M (SC j) (j : Int)) (fun _ => none)
theorem lastF_succ (SC : Nat → ByteArray) (k : Nat) : lastF SC (k + 1) = put (lastF SC k) (SC k) k := by simp [lastF, List.range_succ]
theorem lastF_some {SC : Nat → ByteArray} {s : ByteArray} {c : Int} : ∀ {k : Nat}, lastF SC k s = some c → ∃ j, j < k ∧ SC j = s ∧ c = (j : Int)
  | 0, h => by cases h
  | k + 1, h => by
    rw [lastF_succ] at h
    by_cases e : s = SC k
    · subst e
      rw [put_same] at h
      cases h
      exact ⟨k, Nat.lt_succ_self _, rfl, rfl⟩
    · rw [put_other e] at h
      obtain ⟨j, h1, h2, h3⟩ := lastF_some h
      exact ⟨j, by omega, h2, h3⟩
theorem lastF_isSome {SC : Nat → ByteArray} {j : Nat} : ∀ {k : Nat}, j < k → (lastF SC k (SC j)).isSome = true
  | 0, h => by omega
  | k + 1, h => by
    rw [lastF_succ]
    by_cases e : SC j = SC k
    · rw [e, put_same]; rfl
    · rw [put_other e]
      exact lastF_isSome (by rcases Nat.lt_or_ge j k with h1 | h1; exact h1; exact absurd (by rw [show j = k by omega]) e)

def keepA (M : ByteArray → Option Int) (P : List (ByteArray × Int)) : List (ByteArray × Int) := P.filter fun p => (M p.1).isNone
def lateB (SC : Nat → ByteArray) (M : ByteArray → Option Int) (k : Nat) : List (ByteArray × Int) := ((List.range k).filter fun j : Nat => decide (M (SC j) = some (j : Int))).map fun j : Nat => (SC j, (j : Int) + 1)
def want (SC : Nat → ByteArray) (P : List (ByteArray × Int)) (k : Nat) : List (ByteArray × Int) := keepA (lastF SC k) P ++ lateB SC (lastF SC k) k

theorem keepA_none {M : ByteArray → Option Int} {P : List (ByteArray × Int)} {p : ByteArray × Int} (h : M p.1 = none) : keepA M (P ++ [p]) = keepA M P ++ [p] := by simp [keepA, List.filter_append, h]
theorem keepA_some {M : ByteArray → Option Int} {P : List (ByteArray × Int)} {p : ByteArray × Int} {c : Int} (h : M p.1 = some c) : keepA M (P ++ [p]) = keepA M P := by simp [keepA, List.filter_append, h]
theorem lateB_yes {SC : Nat → ByteArray} {M : ByteArray → Option Int} {k : Nat} (h : M (SC k) = some (k : Int)) : lateB SC M (k + 1) = lateB SC M k ++ [(SC k, (k : Int) + 1)] := by simp [lateB, List.range_succ, List.filter_append, h]
theorem lateB_no {SC : Nat → ByteArray} {M : ByteArray → Option Int} {k : Nat} (h : M (SC k) ≠ some (k : Int)) : lateB SC M (k + 1) = lateB SC M k := by simp [lateB, List.range_succ, List.filter_append, h]
theorem keepA_le (M : ByteArray → Option Int) (P : List (ByteArray × Int)) : (keepA M P).length ≤ P.length := List.length_filter_le _ _
theorem lateB_le (SC : Nat → ByteArray) (M : ByteArray → Option Int) (k : Nat) : (lateB SC M k).length ≤ k := by
  unfold lateB
  rw [List.length_map]
  exact Nat.le_trans (List.length_filter_le _ _) (by simp)

theorem keepA_succ (SC : Nat → ByteArray) (k : Nat) (P : List (ByteArray × Int)) : keepA (lastF SC (k + 1)) P = drop (SC k) (keepA (lastF SC k) P) := by
  unfold keepA drop
  rw [List.filter_filter, lastF_succ]
  refine List.filter_congr fun p _ => ?_
  by_cases e : p.1 = SC k
  · rw [e, put_same]; simp
  · rw [put_other e]; simp [e]
theorem lateB_succ (SC : Nat → ByteArray) (k : Nat) : lateB SC (lastF SC (k + 1)) (k + 1) = drop (SC k) (lateB SC (lastF SC k) k) ++ [(SC k, (k : Int) + 1)] := by
  rw [lateB_yes (by rw [lastF_succ, put_same])]
  congr 1
  unfold lateB drop
  rw [List.filter_map, List.filter_filter]
  congr 1
  refine List.filter_congr fun j hj => ?_
  have hj := List.mem_range.1 hj
  rw [lastF_succ]
  by_cases e : SC j = SC k
  · rw [e, put_same]
    have : ¬ (k : Int) = (j : Int) := by omega
    simp [e, this]
  · rw [put_other e]; simp [e]
theorem want_succ (SC : Nat → ByteArray) (P : List (ByteArray × Int)) (k : Nat) : want SC P (k + 1) = drop (SC k) (want SC P k) ++ [(SC k, (k : Int) + 1)] := by
  unfold want
  rw [keepA_succ, lateB_succ, drop_append, List.append_assoc]
theorem wants_zero (SC : Nat → ByteArray) (P : List (ByteArray × Int)) : want SC P 0 = P := by
  have : keepA (lastF SC 0) P = P := List.filter_eq_self.2 fun p _ => rfl
  unfold want
  rw [this]
  simp [lateB]

/-- The new names among the last mentions. -/
def cntF (SC : Nat → ByteArray) (M M0 : ByteArray → Option Int) (k : Nat) : Nat := ((List.range k).filter fun j : Nat => decide (M (SC j) = some (j : Int)) && (M0 (SC j)).isNone).length
theorem cntF_le (SC : Nat → ByteArray) (M M0 : ByteArray → Option Int) (k : Nat) : cntF SC M M0 k ≤ k := Nat.le_trans (List.length_filter_le _ _) (by simp)
theorem cntF_yes {SC : Nat → ByteArray} {M M0 : ByteArray → Option Int} {k : Nat} (h : M (SC k) = some (k : Int)) (h0 : M0 (SC k) = none) : cntF SC M M0 (k + 1) = cntF SC M M0 k + 1 := by simp [cntF, List.range_succ, List.filter_append, h, h0]
theorem cntF_held {SC : Nat → ByteArray} {M M0 : ByteArray → Option Int} {k : Nat} {c : Int} (h0 : M0 (SC k) = some c) : cntF SC M M0 (k + 1) = cntF SC M M0 k := by simp [cntF, List.range_succ, List.filter_append, h0]
theorem cntF_no {SC : Nat → ByteArray} {M M0 : ByteArray → Option Int} {k : Nat} (h : M (SC k) ≠ some (k : Int)) : cntF SC M M0 (k + 1) = cntF SC M M0 k := by simp [cntF, List.range_succ, List.filter_append, h]

theorem len_without {j0 : Nat} : ∀ {l : List Nat}, l.Nodup → j0 ∈ l → (l.filter fun j => decide (j ≠ j0)).length + 1 = l.length
  | [], _, h => by cases h
  | x :: l, hd, h => by
    have hd := List.nodup_cons.1 hd
    by_cases e : x = j0
    · subst e
      have : l.filter (fun j => decide (j ≠ x)) = l := List.filter_eq_self.2 fun j hj => by
        have : j ≠ x := fun e => hd.1 (e ▸ hj)
        simpa using this
      rw [List.filter_cons]
      simp only [ne_eq, not_true_eq_false, decide_false, Bool.false_eq_true, if_false, List.length_cons]
      rw [this]
    · have h1 : j0 ∈ l := by
        rcases List.mem_cons.1 h with h | h
        · exact absurd h.symm e
        · exact h
      rw [List.filter_cons]
      simp only [ne_eq, e, not_false_eq_true, decide_true, if_true, List.length_cons]
      rw [len_without hd.2 h1]

/-- The count after one more mention. -/
theorem cnt_old_held {SC : Nat → ByteArray} {M0 : ByteArray → Option Int} {k : Nat} {c : Int} (h0 : M0 (SC k) = some c) : cntF SC (lastF SC (k + 1)) M0 (k + 1) = cntF SC (lastF SC k) M0 k := by
  rw [cntF_held h0]
  unfold cntF
  congr 1
  refine List.filter_congr fun j hj => ?_
  rw [lastF_succ]
  by_cases e : SC j = SC k
  · rw [e, h0]; simp
  · rw [put_other e]
theorem cnt_old_seen {SC : Nat → ByteArray} {M0 : ByteArray → Option Int} {k : Nat} {c : Int} (h0 : M0 (SC k) = none) (h1 : lastF SC k (SC k) = some c) : cntF SC (lastF SC (k + 1)) M0 (k + 1) = cntF SC (lastF SC k) M0 k := by
  rw [cntF_yes (by rw [lastF_succ, put_same]) h0]
  obtain ⟨j0, hj0, he, rfl⟩ := lastF_some h1
  unfold cntF
  rw [← len_without (j0 := j0) (l := (List.range k).filter fun j : Nat => decide (lastF SC k (SC j) = some (j : Int)) && (M0 (SC j)).isNone) (List.Pairwise.filter _ List.nodup_range) (List.mem_filter.2 ⟨List.mem_range.2 hj0, by rw [he, h1, h0]; simp⟩)]
  rw [List.filter_filter]
  congr 2
  refine List.filter_congr fun j hj => ?_
  have hj := List.mem_range.1 hj
  rw [lastF_succ]
  by_cases e : SC j = SC k
  · rw [e, put_same, h1]
    have : ¬ (k : Int) = (j : Int) := by omega
    by_cases e2 : j = j0
    · subst e2; simp [this]
    · have : ¬ (j0 : Int) = (j : Int) := by omega
      simp [this]; omega
  · rw [put_other e]
    have : j ≠ j0 := fun e2 => e (e2 ▸ he)
    simp [this]
theorem cnt_new {SC : Nat → ByteArray} {M0 : ByteArray → Option Int} {k : Nat} (h0 : M0 (SC k) = none) (h1 : lastF SC k (SC k) = none) : cntF SC (lastF SC (k + 1)) M0 (k + 1) = cntF SC (lastF SC k) M0 k + 1 := by
  rw [cntF_yes (by rw [lastF_succ, put_same]) h0]
  congr 1
  unfold cntF
  congr 1
  refine List.filter_congr fun j hj => ?_
  have hj := List.mem_range.1 hj
  rw [lastF_succ]
  by_cases e : SC j = SC k
  · have := lastF_isSome (SC := SC) hj
    rw [e, h1] at this; cases this
  · rw [put_other e]

/-- A name is among what is wanted just when the table had it or the script said it. -/
theorem want_names {SC : Nat → ByteArray} {P : List (ByteArray × Int)} {k : Nat} {s : ByteArray} : s ∈ (want SC P k).map (·.1) ↔ s ∈ P.map (·.1) ∨ (lastF SC k s).isSome = true := by
  unfold want
  rw [List.map_append, List.mem_append]
  cases hv : lastF SC k s with
  | none =>
    have h2 : s ∉ (lateB SC (lastF SC k) k).map (·.1) := by
      intro h
      obtain ⟨p, hp, rfl⟩ := List.mem_map.1 h
      obtain ⟨j, hj, rfl⟩ := List.mem_map.1 hp
      have hj := List.mem_range.1 (List.mem_filter.1 hj).1
      have := lastF_isSome (SC := SC) hj
      rw [hv] at this; cases this
    constructor
    · rintro (h | h)
      · obtain ⟨p, hp, rfl⟩ := List.mem_map.1 h
        exact .inl (List.mem_map.2 ⟨p, (List.mem_filter.1 hp).1, rfl⟩)
      · exact absurd h h2
    · rintro (h | h)
      · obtain ⟨p, hp, rfl⟩ := List.mem_map.1 h
        exact .inl (List.mem_map.2 ⟨p, List.mem_filter.2 ⟨hp, by rw [hv]; rfl⟩, rfl⟩)
      · cases h
  | some c =>
    obtain ⟨j, hj, rfl, rfl⟩ := lastF_some hv
    constructor
    · intro _; exact .inr rfl
    · intro _
      refine .inr (List.mem_map.2 ⟨(SC j, (j : Int) + 1), List.mem_map.2 ⟨j, List.mem_filter.2 ⟨List.mem_range.2 hj, by simpa using hv⟩, rfl⟩, rfl⟩)

def lenOf (n0 nf0 c : Nat) : Nat := (if n0 = 0 ∧ 0 < c then 1 else n0) + c - min c nf0

/-- The walk of the whole script, on what counts. -/
structure Along (n0 nf0 : Nat) (M0 : ByteArray → Option Int) (P0 : List (ByteArray × Int)) (SC : Nat → ByteArray) (k n nf : Nat) (L : List Nat) (R : Nat → Int) (ID : Nat → ByteArray) : Prop where
  sizes : ∀ s ∈ L, (ID s).size ≤ maxLen
  pairs : prs R ID L = want SC P0 k
  len : n = lenOf n0 nf0 (cntF SC (lastF SC k) M0 k)
  free : nf = nf0 - min (cntF SC (lastF SC k) M0 k) nf0

theorem Along.step {n0 nf0 : Nat} {M0 : ByteArray → Option Int} {P0 : List (ByteArray × Int)} {SC : Nat → ByteArray} {k n nf n' nf' : Nat} {L L' : List Nat} {R R' : Nat → Int} {ID ID' : Nat → ByteArray}
    (h : Along n0 nf0 M0 P0 SC k n nf L R ID) (hM : ∀ s, (M0 s).isSome = true ↔ s ∈ P0.map (·.1)) (ht : Trans n nf L R ID (SC k) ((k : Int) + 1) n' nf' L' R' ID') : Along n0 nf0 M0 P0 SC (k + 1) n' nf' L' R' ID' := by
  have hin : SC k ∈ L.map ID ↔ (M0 (SC k)).isSome = true ∨ (lastF SC k (SC k)).isSome = true := by
    rw [← prs_names R ID L, h.pairs, want_names, hM]
  refine ⟨ht.sizes, by rw [ht.pairs, h.pairs, want_succ], ?_, ?_⟩
  all_goals
    have h1 := h.len
    have h2 := h.free
    rcases ht.count with ⟨a1, a2, a3⟩ | ⟨a1, a2⟩
    · have e : cntF SC (lastF SC (k + 1)) M0 (k + 1) = cntF SC (lastF SC k) M0 k := by
        cases c0 : M0 (SC k) with
        | some c => exact cnt_old_held c0
        | none =>
          cases c1 : lastF SC k (SC k) with
          | some c => exact cnt_old_seen c0 c1
          | none => rw [hin, c0, c1] at a1; simp at a1
      rw [e]; omega
    · have e : cntF SC (lastF SC (k + 1)) M0 (k + 1) = cntF SC (lastF SC k) M0 k + 1 := by
        cases c0 : M0 (SC k) with
        | some c => exact absurd (hin.2 (.inl (by rw [c0]; rfl))) a1
        | none =>
          cases c1 : lastF SC k (SC k) with
          | some c => exact absurd (hin.2 (.inr (by rw [c1]; rfl))) a1
          | none => exact cnt_new c0 c1
      rw [e]
      generalize cntF SC (lastF SC k) M0 k = c at *
      unfold lenOf at *
      split at h1 <;> (try split) <;> omega
end Go.Proofs.Qxb6619702a
