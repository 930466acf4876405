import Derived.Test.Qxb6619702aRing
/-! The ring under put: plain lists. -/
namespace Go.Proofs.Qxb6619702a

def upd {α : Type} (f : Nat → α) (i : Nat) (v : α) : Nat → α := fun j => if j = i then v else f j
theorem upd_same {α : Type} (f : Nat → α) (i : Nat) (v : α) : upd f i v i = v := if_pos rfl
theorem upd_other {α : Type} {f : Nat → α} {i j : Nat} {v : α} (h : j ≠ i) : upd f i v j = f j := if_neg h

/-- The links lead from s through L to t, there and back. -/
def Seg (B A : Nat → Int) : Nat → List Nat → Nat → Prop
  | s, [], t => A s = (t : Int) ∧ B t = (s : Int)
  | s, x :: L, t => A s = (x : Int) ∧ B x = (s : Int) ∧ Seg B A x L t

theorem chn_seg {B A : Nat → Int} : ∀ (L : List Nat) (s : Nat), Chn B A s L ↔ Seg B A s L 0
  | [], s => by simp [Chn, Seg]
  | x :: L, s => by simp [Chn, Seg, chn_seg L x]

theorem seg_append {B A : Nat → Int} {t x : Nat} {L2 : List Nat} : ∀ (L1 : List Nat) (s : Nat), Seg B A s (L1 ++ x :: L2) t ↔ Seg B A s L1 x ∧ Seg B A x L2 t
  | [], s => by simp [Seg, and_assoc]
  | y :: L1, s => by simp [Seg, seg_append L1 y, and_assoc]

/-- Links that are turned elsewhere do not matter. -/
theorem seg_congr {B A B' A' : Nat → Int} {t : Nat} : ∀ (L : List Nat) (s : Nat), (∀ x ∈ s :: L, A' x = A x) → (∀ x ∈ L, B' x = B x) → B' t = B t → Seg B A s L t → Seg B' A' s L t
  | [], s, hA, _, ht, ⟨h1, h2⟩ => ⟨by rw [hA s (by simp)]; exact h1, by rw [ht]; exact h2⟩
  | x :: L, s, hA, hB, ht, ⟨h1, h2, h3⟩ => ⟨by rw [hA s (by simp)]; exact h1, by rw [hB x (by simp)]; exact h2, seg_congr L x (fun y hy => hA y (List.mem_cons_of_mem _ hy)) (fun y hy => hB y (by simp [hy])) ht h3⟩

def lastOf (s : Nat) : List Nat → Nat
  | [] => s
  | x :: L => lastOf x L
theorem lastOf_mem : ∀ (L : List Nat) (s : Nat), lastOf s L ∈ s :: L
  | [], s => by simp [lastOf]
  | x :: L, s => List.mem_cons_of_mem _ (lastOf_mem L x)
theorem seg_last {B A : Nat → Int} {t : Nat} : ∀ (L : List Nat) (s : Nat), Seg B A s L t → B t = (lastOf s L : Int) ∧ A (lastOf s L) = (t : Int)
  | [], _, ⟨h1, h2⟩ => ⟨h2, h1⟩
  | x :: L, _, ⟨_, _, h3⟩ => seg_last L x h3

/-- The end is led elsewhere. -/
theorem seg_redirect {B A : Nat → Int} {t t' : Nat} : ∀ (L : List Nat) (s : Nat), Seg B A s L t → (s :: L).Nodup → t' ∉ L → Seg (upd B t' (lastOf s L : Int)) (upd A (lastOf s L) (t' : Int)) s L t'
  | [], s, _, _, _ => ⟨upd_same _ _ _, upd_same _ _ _⟩
  | x :: L, s, ⟨h1, h2, h3⟩, hd, ht => by
    have hd' := List.nodup_cons.1 hd
    have hl := lastOf_mem L x
    have e : lastOf s (x :: L) = lastOf x L := rfl
    rw [e]
    refine ⟨?_, ?_, seg_redirect L x h3 hd'.2 (fun h => ht (by simp [h]))⟩
    · rw [upd_other (fun h => by rw [← h] at hl; exact hd'.1 hl)]; exact h1
    · rw [upd_other (fun h => ht (by simp [h]))]; exact h2

theorem RingOK.seg {n : Nat} {B A : Nat → Int} {L : List Nat} (h : RingOK n B A L) : Seg B A 0 L 0 := (chn_seg _ _).1 h.chain
theorem RingOK.zero {n : Nat} {B A : Nat → Int} {L : List Nat} (h : RingOK n B A L) : 0 ∉ L := fun hm => by have := h.range 0 hm; omega
theorem RingOK.nodup0 {n : Nat} {B A : Nat → Int} {L : List Nat} (h : RingOK n B A L) : (0 :: L).Nodup := List.nodup_cons.2 ⟨h.zero, h.nodup⟩
theorem RingOK.last {n : Nat} {B A : Nat → Int} {L : List Nat} (h : RingOK n B A L) : B 0 = (lastOf 0 L : Int) := (seg_last L 0 h.seg).1
theorem RingOK.last_lt {n : Nat} {B A : Nat → Int} {L : List Nat} (h : RingOK n B A L) (hn : 0 < n) : lastOf 0 L < n := by
  have := lastOf_mem L 0
  rcases List.mem_cons.1 this with e | e
  · omega
  · exact (h.range _ e).2
theorem RingOK.congr {n n' : Nat} {B A B' A' : Nat → Int} {L : List Nat} (h : RingOK n B A L) (hn : n ≤ n') (hB : ∀ x, x = 0 ∨ x ∈ L → B' x = B x) (hA : ∀ x, x = 0 ∨ x ∈ L → A' x = A x) : RingOK n' B' A' L :=
  ⟨h.nodup, fun x hx => by have := h.range x hx; omega, (chn_seg _ _).2 (seg_congr L 0 (fun x hx => hA x (by simpa using hx)) (fun x hx => hB x (.inr hx)) (hB 0 (.inl rfl)) h.seg)⟩

/-- The neighbours of a slot of the ring. -/
theorem ring_nbrs {n : Nat} {B A : Nat → Int} {L1 L2 : List Nat} {i : Nat} (h : RingOK n B A (L1 ++ i :: L2)) :
    B i = (lastOf 0 L1 : Int) ∧ ∃ a : Nat, A i = (a : Int) ∧ a = (L2 ++ [0]).headD 0 := by
  have := (seg_append L1 0).1 h.seg
  refine ⟨(seg_last _ _ this.1).1, ?_⟩
  cases L2 with
  | nil => exact ⟨0, this.2.1, rfl⟩
  | cons a L2 => exact ⟨a, this.2.1, rfl⟩

/-- A slot is taken out. -/
theorem ring_remove {n : Nat} {B A : Nat → Int} {L1 L2 : List Nat} {i a b : Nat} (h : RingOK n B A (L1 ++ i :: L2)) (hb : B i = (b : Int)) (ha : A i = (a : Int)) :
    RingOK n (upd B a b) (upd A b a) (L1 ++ L2) := by
  have hs := (seg_append L1 0).1 h.seg
  obtain ⟨n1, a', n2, n3⟩ := ring_nbrs h
  obtain rfl : b = lastOf 0 L1 := by rw [hb] at n1; omega
  obtain rfl : a = a' := by rw [ha] at n2; omega
  have hd0 := h.nodup0
  have hd : (L1 ++ L2).Nodup := by
    have := h.nodup
    rw [List.nodup_append] at this ⊢
    obtain ⟨x1, x2, x3⟩ := this
    exact ⟨x1, (List.nodup_cons.1 x2).2, fun p hp q hq => x3 p hp q (by simp [hq])⟩
  refine ⟨hd, fun x hx => h.range x (by simp at hx ⊢; rcases hx with hx | hx <;> simp [hx]), (chn_seg _ _).2 ?_⟩
  have hd1 : (0 :: L1).Nodup := by
    have : (0 :: L1) ++ (i :: L2) = 0 :: (L1 ++ i :: L2) := rfl
    rw [← this, List.nodup_append] at hd0
    exact hd0.1
  have hz := h.zero
  cases L2 with
  | nil =>
    subst n3
    have := seg_redirect (t' := 0) L1 0 hs.1 hd1 (fun hm => hz (by simp [hm]))
    simpa using this
  | cons y L2 =>
    have n3 : a = y := n3
    subst n3
    refine (seg_append L1 0).2 ⟨seg_redirect L1 0 hs.1 hd1 (fun hm => ?_), ?_⟩
    · have := (List.nodup_append.1 hd).2.2 a hm a (by simp)
      exact this rfl
    · have hlm := lastOf_mem L1 0
      have hdy := (List.nodup_append.1 hd)
      have hyn := List.nodup_cons.1 hdy.2.1
      refine seg_congr L2 a (fun x hx => ?_) (fun x hx => ?_) ?_ hs.2.2.2
      · refine upd_other (fun e => ?_)
        rw [e] at hx
        rcases List.mem_cons.1 hlm with e0 | e0
        · rw [e0] at hx
          rcases List.mem_cons.1 hx with e1 | e1
          · exact hz (by simp [← e1])
          · exact hz (by simp [e1])
        · exact hdy.2.2 _ e0 _ hx rfl
      · exact upd_other (fun e => hyn.1 (e ▸ hx))
      · refine upd_other (fun e => hz ?_)
        simp [← e]

/-- A slot is put at the end. -/
theorem ring_append {n : Nat} {B A : Nat → Int} {L : List Nat} {i l : Nat} (h : RingOK n B A L) (hi0 : 0 < i) (hi : i < n) (hm : i ∉ L) (hl : B 0 = (l : Int)) :
    RingOK n (upd (upd B i l) 0 i) (upd (upd A i 0) l i) (L ++ [i]) := by
  have hlast := h.last
  obtain rfl : l = lastOf 0 L := by rw [hl] at hlast; omega
  have hlm := lastOf_mem L 0
  have hli : lastOf 0 L ≠ i := by
    intro e; rw [e] at hlm
    rcases List.mem_cons.1 hlm with e0 | e0
    · omega
    · exact hm e0
  refine ⟨?_, ?_, (chn_seg _ _).2 ((seg_append L 0).2 ⟨?_, ?_, ?_⟩)⟩
  · rw [List.nodup_append]
    exact ⟨h.nodup, by simp, by intro a ha b hb e; simp at hb; subst hb; exact hm (e ▸ ha)⟩
  · intro x hx
    rcases List.mem_append.1 hx with hx | hx
    · exact h.range x hx
    · simp at hx; subst hx; exact ⟨hi0, hi⟩
  · refine seg_congr L 0 (fun x hx => ?_) (fun x hx => ?_) ?_ (seg_redirect L 0 h.seg h.nodup0 hm)
    · by_cases e : x = lastOf 0 L
      · subst e; rw [upd_same, upd_same]
      · rw [upd_other e, upd_other e]
        refine upd_other (fun e' => ?_)
        subst e'
        rcases List.mem_cons.1 hx with e0 | e0
        · omega
        · exact hm e0
    · exact upd_other (fun e => h.zero (e ▸ hx))
    · exact upd_other (by omega)
  · rw [upd_other hli.symm, upd_same]; rfl
  · exact upd_same _ _ _
end Go.Proofs.Qxb6619702a
