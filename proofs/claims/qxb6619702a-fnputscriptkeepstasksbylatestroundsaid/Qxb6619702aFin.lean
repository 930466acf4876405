import Derived.Test.Qxb6619702aPut4
import Derived.Test.Qxb6619702aWell
/-! What put leaves, plainly: the facts that the law looks at. -/
namespace Go.Proofs.Qxb6619702a

theorem idx_go_some (ID : Nat → ByteArray) (s : ByteArray) (c : Int) : ∀ (L : List Nat) (M : ByteArray → Option Int), (L.foldl (fun M s => put M (ID s) s) M) s = some c → (∃ j ∈ L, ID j = s ∧ c = (j : Int)) ∨ M s = some c
  | [], M, h => .inr h
  | x :: L, M, h => by
    simp only [List.foldl_cons] at h
    rcases idx_go_some ID s c L _ h with ⟨j, hj, h1, h2⟩ | h
    · exact .inl ⟨j, List.mem_cons_of_mem _ hj, h1, h2⟩
    · by_cases e : s = ID x
      · subst e; simp only [put_same] at h; cases h
        exact .inl ⟨x, by simp, rfl, rfl⟩
      · simp only [put_other e] at h; exact .inr h
theorem idx_some {ID : Nat → ByteArray} {s : ByteArray} {c : Int} {L : List Nat} (h : idx ID L s = some c) : ∃ j ∈ L, ID j = s ∧ c = (j : Int) := by
  rcases idx_go_some ID s c L _ h with h | h
  · exact h
  · cases h
theorem nodup_inj {ID : Nat → ByteArray} : ∀ {L : List Nat}, (L.map ID).Nodup → ∀ {a b : Nat}, a ∈ L → b ∈ L → ID a = ID b → a = b
  | [], _, _, _, h, _, _ => by cases h
  | x :: L, hd, a, b, ha, hb, e => by
    have hd := List.nodup_cons.1 hd
    rcases List.mem_cons.1 ha with e1 | ha
    · rcases List.mem_cons.1 hb with e2 | hb
      · rw [e1, e2]
      · rw [e1] at e; exact absurd (List.mem_map.2 ⟨b, hb, e.symm⟩) hd.1
    · rcases List.mem_cons.1 hb with e2 | hb
      · rw [e2] at e; exact absurd (List.mem_map.2 ⟨a, ha, e⟩) hd.1
      · exact nodup_inj hd.2 ha hb e
theorem idx_val {ID : Nat → ByteArray} {L : List Nat} (hd : (L.map ID).Nodup) {j : Nat} (hj : j ∈ L) : idx ID L (ID j) = some (j : Int) := by
  have h : (idx ID L (ID j)).isSome = true := (idx_isSome _ _ _).2 (List.mem_map.2 ⟨j, hj, rfl⟩)
  obtain ⟨c, hc⟩ := Option.isSome_iff_exists.1 h
  obtain ⟨k, hk, e, rfl⟩ := idx_some hc
  rw [hc, nodup_inj hd hk hj e]

structure Final (n : Nat) (S0 : Slots) (m used : Nat) (W : List Nat) (S' : Slots) (M' : ByteArray → Option Int) (id : ByteArray) (r : Int) (p : ByteArray) : Prop where
  ring : RingOK m S'.B S'.A W
  lt : used < m
  at_ : S'.ID used = id ∧ S'.R used = r ∧ S'.P used = p
  old : ∀ s, s < m → s ≠ used → s < n → S'.ID s = S0.ID s ∧ S'.R s = S0.R s ∧ S'.P s = ⟨#[]⟩ ∧ (s ≠ 0 → s ∉ W → S'.B s = S0.B s ∧ S'.A s = S0.A s)
  new : ∀ s, s < m → s ≠ used → n ≤ s → S'.ID s = ⟨#[]⟩ ∧ S'.R s = 0 ∧ S'.P s = ⟨#[]⟩ ∧ (s = 0 ∨ s ∈ W)
  index : ∀ s ∈ W, M' (S'.ID s) = some (s : Int)

theorem lastOf_range {n : Nat} {B A : Nat → Int} {L1 L2 : List Nat} {i : Nat} (_h : RingOK n B A (L1 ++ i :: L2)) : lastOf 0 L1 = 0 ∨ lastOf 0 L1 ∈ L1 := by
  have := lastOf_mem L1 0
  simpa using this

/-- put at a held slot. -/
theorem fin_old {n : Nat} {B A R : Nat → Int} {ID : Nat → ByteArray} {L1 L2 : List Nat} {i a b l : Nat} {r : Int} {p : ByteArray} (hn : 0 < n) (h : RingOK n B A (L1 ++ i :: L2)) (hd : ((L1 ++ i :: L2).map ID).Nodup)
    (hb : B i = (b : Int)) (ha : A i = (a : Int)) (hl : upd B a (b : Int) 0 = (l : Int)) :
    l ≠ i ∧ l < n ∧ Final n ⟨R, fun _ => ⟨#[]⟩, ID, B, A⟩ n i (L1 ++ L2 ++ [i]) (putS (setB (setA ⟨R, fun _ => ⟨#[]⟩, ID, B, A⟩ b a) a b) i l r p) (idx ID (L1 ++ i :: L2)) (ID i) r p := by
  have hi := h.range i (by simp)
  have h1 := ring_remove h hb ha
  have him : i ∉ L1 ++ L2 := by
    intro hm
    have := h.nodup
    rw [List.nodup_append] at this
    obtain ⟨x1, x2, x3⟩ := this
    rcases List.mem_append.1 hm with e | e
    · exact x3 i e i (by simp) rfl
    · exact (List.nodup_cons.1 x2).1 e
  have hll : l = lastOf 0 (L1 ++ L2) := by have := h1.last; rw [hl] at this; omega
  have hlm := lastOf_mem (L1 ++ L2) 0
  have hli : l ≠ i := by
    intro e; rw [← hll, e] at hlm
    rcases List.mem_cons.1 hlm with e0 | e0
    · omega
    · exact him e0
  have hln : l < n := hll ▸ h1.last_lt hn
  have h2 := ring_append h1 hi.1 hi.2 him hl
  have hbm : b = 0 ∨ b ∈ L1 := by
    have e := (ring_nbrs h).1
    have : b = lastOf 0 L1 := by rw [hb] at e; omega
    rw [this]; exact lastOf_range h
  have ham : a = 0 ∨ a ∈ L2 := by
    obtain ⟨a', e1, e2⟩ := (ring_nbrs h).2
    have e : a = a' := by rw [ha] at e1; omega
    rw [e, e2]
    cases L2 with
    | nil => exact .inl rfl
    | cons y L2 => exact .inr (by simp)
  have hlm' : l = 0 ∨ l ∈ L1 ++ L2 := by rw [hll]; simpa using lastOf_mem (L1 ++ L2) 0
  refine ⟨hli, hln, ⟨?_, hi.2, ⟨rfl, upd_same _ _ _, upd_same _ _ _⟩, ?_, ?_, ?_⟩⟩
  · exact h2
  · intro s _ hsu _
    refine ⟨rfl, upd_other hsu, upd_other hsu, fun h0 hw => ⟨?_, ?_⟩⟩
    · show upd (upd (upd B a b) i l) 0 i s = B s
      rw [upd_other h0, upd_other hsu, upd_other]
      rintro rfl
      rcases ham with e | e
      · exact h0 e
      · exact hw (by simp [e])
    · show upd (upd (upd A b a) i 0) l i s = A s
      rw [upd_other, upd_other hsu, upd_other]
      · rintro rfl
        rcases hbm with e | e
        · exact h0 e
        · exact hw (by simp [e])
      · rintro rfl
        rcases hlm' with e | e
        · exact h0 e
        · exact hw (List.mem_append.2 (.inl e))
  · intro s h1 _ h3; omega
  · intro s hs
    have : s ∈ L1 ++ i :: L2 := by
      simp at hs ⊢
      rcases hs with h | h | h
      · exact .inl h
      · exact .inr (.inr h)
      · exact .inr (.inl h)
    exact idx_val hd this

/-- put of a new id at slot i of the m slots of S1. -/
theorem fin_new {n m : Nat} {B A R : Nat → Int} {ID : Nat → ByteArray} {L : List Nat} {i l : Nat} {id : ByteArray} {r : Int} {p : ByteArray} {S1 : Slots} (hn : 0 < n) (h : RingOK n B A L) (hd : (L.map ID).Nodup)
    (hi0 : 0 < i) (hi : i < m) (hm : i ∉ L) (hnm : n ≤ m) (hmi : m = n ∨ (m = n + 1 ∧ i = n)) (hid : id ∉ L.map ID) (hl : B 0 = (l : Int))
    (hS : ∀ s, s < n → S1.B s = B s ∧ S1.A s = A s ∧ S1.R s = R s ∧ S1.ID s = ID s ∧ S1.P s = ⟨#[]⟩) :
    l ≠ i ∧ l < m ∧ S1.B 0 = (l : Int) ∧ Final n ⟨R, fun _ => ⟨#[]⟩, ID, B, A⟩ m i (L ++ [i]) (putS (setID S1 i id) i l r p) (put (idx ID L) id i) id r p := by
  have hll : l = lastOf 0 L := by have := h.last; rw [hl] at this; omega
  have hlm := lastOf_mem L 0
  have hli : l ≠ i := by
    intro e; rw [← hll, e] at hlm
    rcases List.mem_cons.1 hlm with e0 | e0
    · omega
    · exact hm e0
  have hln : l < n := hll ▸ h.last_lt hn
  have hB0 : S1.B 0 = (l : Int) := by rw [(hS 0 hn).1]; exact hl
  have h1 : RingOK m S1.B S1.A L := h.congr hnm (fun x hx => (hS x (by rcases hx with e | e; omega; exact (h.range x e).2)).1) (fun x hx => (hS x (by rcases hx with e | e; omega; exact (h.range x e).2)).2.1)
  have h2 := ring_append h1 hi0 hi hm hB0
  have hlm' : l = 0 ∨ l ∈ L := by rw [hll]; simpa using lastOf_mem L 0
  refine ⟨hli, by omega, hB0, ⟨h2, hi, ⟨upd_same _ _ _, upd_same _ _ _, upd_same _ _ _⟩, ?_, ?_, ?_⟩⟩
  · intro s _ hsu hsn
    obtain ⟨e1, e2, e3, e4, e5⟩ := hS s hsn
    refine ⟨(upd_other hsu).trans e4, (upd_other hsu).trans e3, (upd_other hsu).trans e5, fun h0 hw => ⟨?_, ?_⟩⟩
    · show upd (upd S1.B i l) 0 i s = B s
      rw [upd_other h0, upd_other hsu, e1]
    · show upd (upd S1.A i 0) l i s = A s
      rw [upd_other, upd_other hsu, e2]
      rintro rfl
      rcases hlm' with e | e
      · exact h0 e
      · exact hw (by simp [e])
  · intro s h1 h2 h3; omega
  · intro s hs
    by_cases e : s = i
    · subst e
      show put (idx ID L) id s (upd S1.ID s id s) = _
      rw [upd_same, put_same]
    · have hsL : s ∈ L := by simpa [e] using hs
      have hsn := (h.range s hsL).2
      show put (idx ID L) id i (upd S1.ID i id s) = _
      rw [upd_other e, (hS s hsn).2.2.2.1, put_other]
      · exact idx_val hd hsL
      · intro e'; exact hid (List.mem_map.2 ⟨s, hsL, e'⟩)

/-- put into the zero table. -/
theorem fin_zero {S0 : Slots} {id : ByteArray} {r : Int} {p : ByteArray} :
    Final 0 S0 2 1 [1] (putS (setID (zeroAt (zeroAt S0 0) 1) 1 id) 1 0 r p) (put (fun _ => none) id ((1 : Nat) : Int)) id r p := by
  refine ⟨⟨by simp, by simp, ?_⟩, by decide, ⟨rfl, rfl, rfl⟩, by intro s _ _ h; omega, ?_, ?_⟩
  · exact ⟨rfl, rfl, rfl, rfl⟩
  · intro s h1 h2 _
    obtain rfl : s = 0 := by omega
    exact ⟨rfl, rfl, rfl, .inl rfl⟩
  · intro s hs
    obtain rfl : s = 1 := by simpa using hs
    exact put_same _ _ _
end Go.Proofs.Qxb6619702a
