import Derived.Test.Qxb6617355aL6b
/-! The two tallies in memory. -/
namespace Go.Proofs.Qxb6617355a
open Go.RowKit

structure TM (w0 w : World) (ga gb : Nat) (A B : Nat → Nat) : Prop where
  kw : Keeps Nob w0 w
  ra : w.rangeAt ga 0 (cellsB A)
  ta : w.there ga 0 16
  rb : w.rangeAt gb 0 (cellsB B)
  tb : w.there gb 0 16
  la : ga < w.heap.size
  lb : gb < w.heap.size
  na : w0.heap.size ≤ ga
  nb : w0.heap.size ≤ gb
  ne : ga ≠ gb

theorem setCells_keeps {w0 w : World} (h : Keeps Nob w0 w) {g : Nat} (hg : w0.heap.size ≤ g) : ∀ (vs : List Value) (o : Nat), Keeps Nob w0 (w.setCells g o vs) := by
  intro vs
  induction vs generalizing w with
  | nil => intro o; exact h
  | cons v vs ih => intro o; exact ih (h.setNew (p := ⟨g, o, none⟩) hg v) (o + 1)
theorem setCells_size (g : Nat) : ∀ (vs : List Value) (w : World) (o : Nat), (w.setCells g o vs).heap.size = w.heap.size
  | [], _, _ => rfl
  | v :: vs, w, o => (setCells_size g vs (w.setCell ⟨g, o, none⟩ v) (o + 1)).trans (by simp [World.setCell])
theorem there_same {w : World} {g : Nat} {n : Nat} (h : w.there g 0 n) (vs : List Value) : (w.setCells g 0 vs).there g 0 n := World.there_setCells h _ _ _

theorem TM.stepA {w0 w w2 : World} {ga gb : Nat} {A B : Nat → Nat} (h : TM w0 w ga gb A B) (k : Keeps Nob w w2) (A' : Nat → Nat) : TM w0 (w2.setCells ga 0 (cellsB A')) ga gb A' B where
  kw := setCells_keeps (h.kw.trans (k.mono fun _ _ h => h)) h.na _ _
  ra := World.rangeAt_setCells_same _ _ _ _ (keep_there k h.ta h.la)
  ta := there_same (keep_there k h.ta h.la) _
  rb := World.rangeAt_setCells_apart (keep_range k h.rb h.lb) _ _ _ (.inl (Ne.symm h.ne))
  tb := World.there_setCells (keep_there k h.tb h.lb) _ _ _
  la := by rw [setCells_size]; exact Nat.lt_of_lt_of_le h.la k.size
  lb := by rw [setCells_size]; exact Nat.lt_of_lt_of_le h.lb k.size
  na := h.na
  nb := h.nb
  ne := h.ne
theorem TM.stepB {w0 w w2 : World} {ga gb : Nat} {A B : Nat → Nat} (h : TM w0 w ga gb A B) (k : Keeps Nob w w2) (B' : Nat → Nat) : TM w0 (w2.setCells gb 0 (cellsB B')) ga gb A B' where
  kw := setCells_keeps (h.kw.trans (k.mono fun _ _ h => h)) h.nb _ _
  rb := World.rangeAt_setCells_same _ _ _ _ (keep_there k h.tb h.lb)
  tb := there_same (keep_there k h.tb h.lb) _
  ra := World.rangeAt_setCells_apart (keep_range k h.ra h.la) _ _ _ (.inl h.ne)
  ta := World.there_setCells (keep_there k h.ta h.la) _ _ _
  la := by rw [setCells_size]; exact Nat.lt_of_lt_of_le h.la k.size
  lb := by rw [setCells_size]; exact Nat.lt_of_lt_of_le h.lb k.size
  na := h.na
  nb := h.nb
  ne := h.ne

theorem cell_setCells {w : World} {a : Addr} {v : Value} (h : w.cell? a = some v) {g : Nat} (hg : a.block ≠ g) (vs : List Value) : (w.setCells g 0 vs).cell? a = some v :=
  (World.cell?_setCells_out g vs 0 w a (fun e => absurd e hg)).trans h
theorem cell_keep {w w' : World} {a : Addr} {v : Value} (h : w.cell? a = some v) (k : Keeps Nob w w') : w'.cell? a = some v := (k.cell (p := a) (World.block_lt_of_cell? w _ h) (fun h => h)).trans h

def outs (O : Nat → Bool) (l : Nat) : List Bool := (List.range l).map O
theorem outs_len (O : Nat → Bool) (l : Nat) : (outs O l).length = l := by simp [outs]
theorem outs_get {O : Nat → Bool} {l k : Nat} (h : k < l) : (outs O l)[k]? = some (O k) := by simp [outs, h]
theorem outs_take {O : Nat → Bool} {l i : Nat} (h : i < l) : (outs O l).take (i + 1) = (outs O l).take i ++ [O i] := by
  rw [List.take_add_one, outs_get h]; rfl
theorem outs_ones (O : Nat → Bool) (l : Nat) : ∀ j, j ≤ l → ((outs O l).drop (l - j)).count true = ones O l j
  | 0, _ => by
    rw [Nat.sub_zero, List.drop_of_length_le (by rw [outs_len]; exact Nat.le_refl _)]
    rfl
  | j + 1, h => by
    have hk : l - (j + 1) < (outs O l).length := by rw [outs_len]; omega
    have hx : (outs O l)[l - (j + 1)] = O (l - 1 - j) := by
      have h1 := outs_get (O := O) (l := l) (k := l - (j + 1)) (by omega)
      rw [List.getElem?_eq_getElem hk] at h1
      have h2 := Option.some.inj h1
      rw [h2]
      congr 1
      omega
    rw [List.drop_eq_getElem_cons hk, show l - (j + 1) + 1 = l - j by omega, List.count_cons, outs_ones O l j (by omega), ones_succ, hx]
    cases O (l - 1 - j) <;> rfl
theorem TOk.ends {B : Nat → Nat} {N next : Nat} {cnt : Int} {H : List Bool} {O : Nat → Bool} {l : Nat} (h : TOk B N next cnt (H ++ outs O l)) (hl : 1000 ≤ l) :
    N = 1000 ∧ cnt = (ones O l 1000 : Nat) ∧ ∀ j, j < 1000 → O (l - 1 - j) = Qxb6617355a.bit B ((next + 1999 - j) % 1000) := by
  have hN : N = 1000 := by
    have := h.len
    rw [List.length_append, outs_len] at this
    omega
  subst hN
  refine ⟨rfl, ?_, fun j hj => ?_⟩
  · rw [h.hc, last_tail (by rw [outs_len]; exact hl), outs_len, outs_ones O l 1000 hl]
  · have := h.bit (by rw [outs_len]; exact hl) hj
    rw [outs_len, outs_get (by omega)] at this
    exact Option.some.inj this

end Go.Proofs.Qxb6617355a
