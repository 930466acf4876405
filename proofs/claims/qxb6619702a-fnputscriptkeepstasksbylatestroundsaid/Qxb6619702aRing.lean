/-! The ring of the held slots: plain lists, no Go in sight. -/
namespace Go.Proofs.Qxb6619702a

/-- From slot s on along A, the slots of L being met: what 'ringOrder' does in its remaining steps. -/
def ringGo (n : Nat) (B A : Nat → Int) : Nat → List Nat → Nat → Option (List Nat)
  | 0, _, _ => none
  | f + 1, L, s =>
    if A s < 0 ∨ (n : Int) ≤ A s then none
    else if B (A s).toNat ≠ (s : Int) then none
    else if A s = 0 then some L
    else if (A s).toNat ∈ L then none
    else ringGo n B A f (L ++ [(A s).toNat]) (A s).toNat

def ringF (n : Nat) (B A : Nat → Int) : Option (List Nat) := if n = 0 then some [] else ringGo n B A n [] 0

theorem ringGo_lt {n : Nat} {B A : Nat → Int} {f : Nat} {L : List Nat} {s : Nat} (h : A s < 0) : ringGo n B A (f + 1) L s = none := by
  rw [ringGo, if_pos (.inl h)]
theorem ringGo_ge {n : Nat} {B A : Nat → Int} {f : Nat} {L : List Nat} {s : Nat} (h : (n : Int) ≤ A s) : ringGo n B A (f + 1) L s = none := by
  rw [ringGo, if_pos (.inr h)]
theorem ringGo_x {n : Nat} {B A : Nat → Int} {f : Nat} {L : List Nat} {s x : Nat} (h : A s = (x : Int)) (hx : x < n) :
    ringGo n B A (f + 1) L s = if B x ≠ (s : Int) then none else if x = 0 then some L else if x ∈ L then none else ringGo n B A f (L ++ [x]) x := by
  rw [ringGo, if_neg (by omega), h]
  simp only [Int.toNat_natCast]
  by_cases h0 : x = 0
  · subst h0; simp
  · have : ((x : Int) = 0) = False := by simp; omega
    simp only [this, if_false, h0]


/-- From slot s on the links lead through the slots of the list and back to slot 0, there and back. -/
def Chn (B A : Nat → Int) : Nat → List Nat → Prop
  | s, [] => A s = 0 ∧ B 0 = (s : Int)
  | s, x :: L => A s = (x : Int) ∧ B x = (s : Int) ∧ Chn B A x L

structure RingOK (n : Nat) (B A : Nat → Int) (L : List Nat) : Prop where
  nodup : L.Nodup
  range : ∀ x ∈ L, 0 < x ∧ x < n
  chain : Chn B A 0 L

theorem nodup_len : ∀ (n : Nat) (L : List Nat), L.Nodup → (∀ x ∈ L, x < n) → L.length ≤ n
  | 0, L, _, h => by
    cases L with
    | nil => simp
    | cons x L => exact absurd (h x (by simp)) (by omega)
  | n + 1, L, hd, h => by
    by_cases hm : n ∈ L
    · have h1 := nodup_len n (L.erase n) (hd.erase n) (fun x hx => by
        have := (hd.mem_erase_iff).1 hx
        have := h x this.2
        omega)
      have h2 := List.length_erase_of_mem hm
      omega
    · have := nodup_len n L hd (fun x hx => by
        have := h x hx
        have : x ≠ n := fun e => hm (e ▸ hx)
        omega)
      omega

theorem ringGo_some {n : Nat} {B A : Nat → Int} : ∀ (f : Nat) (L : List Nat) (s : Nat) (R : List Nat), ringGo n B A f L s = some R →
    ∃ L', R = L ++ L' ∧ Chn B A s L' ∧ (∀ x ∈ L', 0 < x ∧ x < n) ∧ L'.Nodup ∧ ∀ x ∈ L', x ∉ L
  | 0, _, _, _, h => by simp [ringGo] at h
  | f + 1, L, s, R, h => by
    by_cases c1 : A s < 0
    · rw [ringGo_lt c1] at h; cases h
    by_cases c2 : (n : Int) ≤ A s
    · rw [ringGo_ge c2] at h; cases h
    obtain ⟨x, hx⟩ : ∃ x : Nat, A s = x := ⟨(A s).toNat, by omega⟩
    have hxn : x < n := by omega
    rw [ringGo_x hx hxn] at h
    split at h
    · cases h
    rename_i hB
    have hB : B x = (s : Int) := Classical.not_not.1 hB
    split at h
    · rename_i h0
      cases h; subst h0
      exact ⟨[], by simp, ⟨hx, hB⟩, by simp, by simp, by simp⟩
    rename_i h0
    split at h
    · cases h
    rename_i hm
    obtain ⟨L', e, hc, hr, hd, hj⟩ := ringGo_some f _ _ _ h
    refine ⟨x :: L', by rw [e]; simp, ⟨hx, hB, hc⟩, ?_, ?_, ?_⟩
    · intro y hy
      rcases List.mem_cons.1 hy with rfl | hy
      · exact ⟨by omega, hxn⟩
      · exact hr y hy
    · refine List.nodup_cons.2 ⟨fun hx' => hj x hx' (by simp), hd⟩
    · intro y hy
      rcases List.mem_cons.1 hy with rfl | hy
      · exact hm
      · exact fun h => hj y hy (by simp [h])

theorem ringGo_of {n : Nat} {B A : Nat → Int} : ∀ (L' : List Nat) (f : Nat) (L : List Nat) (s : Nat), L'.length < f → Chn B A s L' → (∀ x ∈ L', 0 < x ∧ x < n) → L'.Nodup → (∀ x ∈ L', x ∉ L) → 0 < n →
    ringGo n B A f L s = some (L ++ L')
  | [], f + 1, L, s, _, ⟨h1, h2⟩, _, _, _, hn => by
    rw [ringGo_x (x := 0) h1 hn, if_neg (by simp [h2]), if_pos rfl]; simp
  | x :: L', f + 1, L, s, hf, ⟨h1, h2, h3⟩, hr, hd, hj, hn => by
    have hx := hr x (by simp)
    rw [ringGo_x h1 hx.2, if_neg (by simp [h2]), if_neg (by omega), if_neg (hj x (by simp))]
    have hd' := List.nodup_cons.1 hd
    rw [ringGo_of L' f (L ++ [x]) x (by simp at hf; omega) h3 (fun y hy => hr y (by simp [hy])) hd'.2 ?_ hn]
    · simp
    · intro y hy hm
      rcases List.mem_append.1 hm with h | h
      · exact hj y (by simp [hy]) h
      · simp at h; subst h; exact hd'.1 hy

theorem ringF_iff {n : Nat} {B A : Nat → Int} (hn : 0 < n) (L : List Nat) : ringF n B A = some L ↔ RingOK n B A L := by
  unfold ringF
  rw [if_neg (by omega)]
  constructor
  · intro h
    obtain ⟨L', e, h1, h2, h3, _⟩ := ringGo_some _ _ _ _ h
    simp at e; subst e
    exact ⟨h3, h2, h1⟩
  · intro h
    have hl : L.length < n := by
      obtain ⟨m, rfl⟩ : ∃ m, n = m + 1 := ⟨n - 1, by omega⟩
      have hd : (L.map (· - 1)).Nodup := by
        rw [List.nodup_iff_pairwise_ne, List.pairwise_map]
        refine List.Pairwise.imp_of_mem ?_ h.nodup
        intro a b ha hb hab e
        have := h.range a ha; have := h.range b hb; omega
      have := nodup_len m (L.map (· - 1)) hd (fun x hx => by
        obtain ⟨y, hy, rfl⟩ := List.mem_map.1 hx
        have := h.range y hy; omega)
      simp at this; omega
    have := ringGo_of L n [] 0 hl h.chain h.range h.nodup (by simp) hn
    simpa using this
end Go.Proofs.Qxb6619702a
