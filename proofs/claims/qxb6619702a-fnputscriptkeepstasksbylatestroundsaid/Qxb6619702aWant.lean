import Derived.Test.Qxb6619702aPutOK
/-! What is wanted, in each of put's ways. -/
namespace Go.Proofs.Qxb6619702a
open Go.RowKit

theorem without_zero {L : List Nat} (h : ∀ x ∈ L, 0 < x) : without 0 L = L := by
  unfold without
  refine List.filter_eq_self.2 fun x hx => ?_
  have := h x hx
  simp; omega
theorem without_none {i : Nat} {L : List Nat} (h : i ∉ L) : without i L = L := by
  unfold without
  refine List.filter_eq_self.2 fun x hx => ?_
  have : x ≠ i := fun e => h (e ▸ hx)
  simp; omega
theorem without_mid {i : Nat} {L1 L2 : List Nat} (h : (L1 ++ i :: L2).Nodup) : without i (L1 ++ i :: L2) = L1 ++ L2 := by
  rw [List.nodup_append] at h
  obtain ⟨_, h2, h3⟩ := h
  have h1 : without i L1 = L1 := without_none fun hm => h3 i hm i (by simp) rfl
  have h4 : without i L2 = L2 := without_none (List.nodup_cons.1 h2).1
  have h5 : without i (L1 ++ i :: L2) = without i L1 ++ without i L2 := by simp [without, List.filter_append]
  rw [h5, h1, h4]

/-- The outcome's slots S' and index M, as the law and the walk ask them. -/
def Want (n nf m used q : Nat) (ix : Option Nat) (L : List Nat) (ID : Nat → ByteArray) (R B A FR : Nat → Int) (i : Int) (id : ByteArray) (t : Int) (pr : ByteArray) : Prop :=
  ∃ S' M, Final n ⟨R, fun _ => ⟨#[]⟩, ID, B, A⟩ m used (without i L ++ [used]) S' M id t pr ∧ (∀ x ∈ without i L ++ [used], (S'.ID x).size ≤ maxLen) ∧
    PutOK n nf m q ix L ID FR ⟨R, fun _ => ⟨#[]⟩, ID, B, A⟩ S' M (without i L ++ [used]).length i id t pr

section
variable {n nf : Nat} {L : List Nat} {ID : Nat → ByteArray} {R B A FR : Nat → Int} {b : Nat} {id pr : ByteArray} {t : Int}

theorem want_old (hn : n ≤ 65536) (hg : WGood n n n n nf ID B A FR L (some b)) (hID : ∀ j, j < n → (ID j).size ≤ maxLen) {j : Nat} (hj : j ∈ L) (he : ID j = id) : Want n nf n j nf (some b) L ID R B A FR j id t pr := by
  subst he
  obtain ⟨L1, L2, rfl⟩ := List.append_of_mem hj
  have hn0 : 0 < n := by
    rcases Nat.eq_zero_or_pos n with h | h
    · have := (hg.zero h).2.1; cases this
    · exact h
  obtain ⟨hr, hd, hf, -⟩ := hg.pos hn0
  obtain ⟨hb, a, ha, ha2⟩ := ring_nbrs hr
  have hrr := ring_remove hr hb ha
  have hl := hrr.last
  have hjn := hr.range j (by simp)
  have hbn : lastOf 0 L1 < n := by
    rcases List.mem_cons.1 (lastOf_mem L1 0) with e | e
    · omega
    · exact (hr.range _ (by simp [e])).2
  have han : a < n := by
    rw [ha2]
    cases L2 with
    | nil => simpa using hn0
    | cons y L2 => simpa using (hr.range y (by simp)).2
  obtain ⟨hlj, hln, hfin⟩ := fin_old (R := R) (r := t) (p := pr) hn0 hr hd hb ha hl
  have hw : without (j : Int) (L1 ++ j :: L2) = L1 ++ L2 := without_mid hr.nodup
  unfold Want
  rw [hw]
  refine ⟨_, _, hfin, ?_, ok_old hn0 (by omega) hr hb ha hl hbn han hln hlj⟩
  intro x hx
  exact hID x (hr.range x (by rcases List.mem_append.1 hx with e | e <;> simp at e ⊢ <;> grind)).2

theorem want_free (hn : n ≤ 65536) {q x : Nat} (hf' : q + 1 ≤ 65536) (hg : WGood n n n n (q + 1) ID B A FR L (some b)) (hID : ∀ j, j < n → (ID j).size ≤ maxLen) (hid : id.size ≤ maxLen) (hx : FR q = (x : Int)) (hv : idx ID L id = none) : Want n (q + 1) n x q (some b) L ID R B A FR 0 id t pr := by
  have hn0 : 0 < n := by
    rcases Nat.eq_zero_or_pos n with h | h
    · have := (hg.zero h).2.1; cases this
    · exact h
  obtain ⟨hr, hd, hf, -⟩ := hg.pos hn0
  have hx1 := hf.range q (by omega)
  have hx2 := hf.notin q (by omega)
  rw [hx] at hx1 hx2
  have hl := hr.last
  have hlt : L.length ≤ n := nodup_len n L hr.nodup fun x hx => (hr.range x hx).2
  have hnin : id ∉ L.map ID := fun h => by have := (idx_isSome ID id L).2 h; rw [hv] at this; cases this
  obtain ⟨hlj, hln, hS0, hfin⟩ := fin_new (R := R) (r := t) (p := pr) (S1 := ⟨R, fun _ => ⟨#[]⟩, ID, B, A⟩) (i := x) hn0 hr hd (by omega) (show x < n by omega) (by simpa using hx2) (Nat.le_refl n) (.inl rfl) hnin hl (fun s _ => ⟨rfl, rfl, rfl, rfl, rfl⟩)
  have hw : without 0 L = L := without_zero fun x hx => (hr.range x hx).1
  unfold Want
  rw [hw]
  refine ⟨_, _, hfin, ?_, ok_free hn0 (by omega) rfl (by omega) (by omega) (by omega) (by omega) hx hln hlj hid hS0 hv⟩
  intro y hy
  show (upd ID x id y).size ≤ maxLen
  by_cases e : y = x
  · subst e; rw [upd_same]; exact hid
  · rw [upd_other e]
    refine hID y (hr.range y ?_).2
    rcases List.mem_append.1 hy with h | h
    · exact h
    · simp at h; exact absurd h e

theorem want_new (hn : n ≤ 65536) (hg : WGood n n n n 0 ID B A FR L (some b)) (hID : ∀ j, j < n → (ID j).size ≤ maxLen) (hid : id.size ≤ maxLen) (hv : idx ID L id = none) : Want n 0 (n + 1) n 0 (some b) L ID R B A FR 0 id t pr := by
  have hn0 : 0 < n := by
    rcases Nat.eq_zero_or_pos n with h | h
    · have := (hg.zero h).2.1; cases this
    · exact h
  obtain ⟨hr, hd, hf, -⟩ := hg.pos hn0
  have hl := hr.last
  have hlt : L.length ≤ n := nodup_len n L hr.nodup fun x hx => (hr.range x hx).2
  have hln := hr.last_lt hn0
  have hnin : id ∉ L.map ID := fun h => by have := (idx_isSome ID id L).2 h; rw [hv] at this; cases this
  obtain ⟨hlj, -, -, hfin⟩ := fin_new (R := R) (r := t) (p := pr) (S1 := zeroAt ⟨R, fun _ => ⟨#[]⟩, ID, B, A⟩ n) (i := n) hn0 hr hd hn0 (show n < n + 1 by omega) (fun h => by have := hr.range n h; omega) (by omega) (.inr ⟨rfl, rfl⟩) hnin hl
    (fun s hs => by have e : s ≠ n := by omega
                    exact ⟨upd_other e, upd_other e, upd_other e, upd_other e, upd_other e⟩)
  have hw : without 0 L = L := without_zero fun x hx => (hr.range x hx).1
  unfold Want
  rw [hw]
  refine ⟨_, _, hfin, ?_, ok_new hn0 (by omega) (by omega) hln hid hl hv⟩
  intro y hy
  show (upd (upd ID n ⟨#[]⟩) n id y).size ≤ maxLen
  by_cases e : y = n
  · subst e; rw [upd_same]; exact hid
  · rw [upd_other e, upd_other e]
    refine hID y (hr.range y ?_).2
    rcases List.mem_append.1 hy with h | h
    · exact h
    · simp at h; exact absurd h e

theorem want_zero (hid : id.size ≤ maxLen) : Want 0 0 2 1 0 none [] ID R B A FR 0 id t pr := by
  refine ⟨_, _, fin_zero, ?_, ok_zero hid⟩
  intro x hx
  obtain rfl : x = 1 := by simpa [without] using hx
  have e : (putS (setID (zeroAt (zeroAt ⟨R, fun _ => ⟨#[]⟩, ID, B, A⟩ 0) 1) 1 id) 1 0 t pr).ID 1 = id := by show (upd (upd (upd ID 0 ⟨#[]⟩) 1 ⟨#[]⟩) 1 id) 1 = id; exact upd_same _ _ _
  rw [e]; exact hid
end
end Go.Proofs.Qxb6619702a
