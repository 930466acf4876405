import Derived.Test.Qxb6617947aPmE
/-! packageMerge: one item more. -/
namespace Go.Proofs.Qxb6617947a
open Go.RowKit
set_option linter.unusedVariables false

/-- The list that is being made, the one before it, the flags, in memory. -/
structure PS (w wr : World) (lb ib n k r q : Nat) (wt : Nat → Nat) (l : Lst) (j : Nat) (LV : Nat → Nat) (IV : Nat → Bool) : Prop where
  kw : Keeps (fun b => b = lb ∨ b = ib) w wr
  ol : Own wr lb 2048 (fun x => .int .u64 (LV x : Nat))
  oi : Own wr ib 20480 (fun x => .bool (IV x))
  old : ∀ i, i < l.len → LV (q * 1024 + i) = l.x i
  new : ∀ i, i < j → LV (r * 1024 + i) = item wt n l i
  flo : ∀ k' i, k' < k → i < (pmL wt n k').len → IV (k' * 1024 + i) = flag wt n k' i
  fln : ∀ i, i < j → IV (k * 1024 + i) = !takesPair wt n l i (cnt wt n l i)

def updB (f : Nat → Bool) (i : Nat) (v : Bool) : Nat → Bool := fun j => if j = i then v else f j
def stepW (wr : World) (lb ib a b x : Nat) (z : Bool) (A B : Obj) : World := (((wr.alloc A).setCells lb a [.int .u64 (x : Nat)]).alloc B).setCells ib b [.bool z]
theorem PS.step {w wr : World} {lb ib n k r q j x : Nat} {wt : Nat → Nat} {l : Lst} {LV : Nat → Nat} {IV : Nat → Bool} {z : Bool} (h : PS w wr lb ib n k r q wt l j LV IV) (A B : Obj)
    (hne : lb ≠ ib) (hr : r < 2) (hq : q < 2) (hrq : r ≠ q) (hk : k < 20) (hj : j < 1024) (hl : l.len ≤ 1024) (hlen : ∀ k', (pmL wt n k').len ≤ 1024) (hlb : lb < w.heap.size) (hib : ib < w.heap.size)
    (hx : x = item wt n l j) (hz : z = !takesPair wt n l j (cnt wt n l j)) :
    PS w (stepW wr lb ib (r * 1024 + j) (k * 1024 + j) x z A B) lb ib n k r q wt l (j + 1) (updF LV (r * 1024 + j) x) (updB IV (k * 1024 + j) z) where
  kw := by
    unfold stepW
    have h1 : Keeps (fun b => b = lb ∨ b = ib) w ((wr.alloc A).setCell ⟨lb, r * 1024 + j, none⟩ (.int .u64 (x : Nat))) := (h.kw.alloc A).setCell (p := ⟨lb, r * 1024 + j, none⟩) (.inl rfl) _
    exact (h1.alloc B).setCell (p := ⟨ib, k * 1024 + j, none⟩) (.inr rfl) _
  ol := by
    unfold stepW
    have h1 := (((h.ol.alloc A).put (i := r * 1024 + j) (by omega) (.int .u64 (x : Nat))).alloc B).setCells_other (g := ib) (Ne.symm hne) [.bool z] (k * 1024 + j)
    refine h1.congr fun y _ => ?_
    unfold updV updF
    split <;> rfl
  oi := by
    unfold stepW
    have h1 := ((((h.oi.alloc A).setCells_other (g := lb) hne [.int .u64 (x : Nat)] (r * 1024 + j)).alloc B).put (i := k * 1024 + j) (by omega) (.bool z))
    refine h1.congr fun y _ => ?_
    unfold updV updB
    split <;> rfl
  old i hi := by
    unfold updF
    rw [if_neg (by omega)]
    exact h.old i hi
  new i hi := by
    unfold updF
    by_cases e : i = j
    · subst e; rw [if_pos rfl, hx]
    · rw [if_neg (by omega)]; exact h.new i (by omega)
  flo k' i hk' hi := by
    have := hlen k'
    unfold updB
    rw [if_neg (by omega)]
    exact h.flo k' i hk' hi
  fln i hi := by
    unfold updB
    by_cases e : i = j
    · subst e; rw [if_pos rfl, hz]
    · rw [if_neg (by omega)]; exact h.fln i (by omega)

theorem PS.drewN {w wr : World} {lb ib n k r q j : Nat} {wt : Nat → Nat} {l : Lst} {LV : Nat → Nat} {IV : Nat → Bool} (h : PS w wr lb ib n k r q wt l j LV IV) (m : Nat) : PS w (wr.drewN m) lb ib n k r q wt l j LV IV :=
  ⟨h.kw.drewN m, h.ol.drewN m, h.oi.drewN m, h.old, h.new, h.flo, h.fln⟩
theorem keeps_new {w0 w w' : World} {S S' : Nat → Prop} (h : Keeps S w0 w) (k : Keeps S' w w') (hS : ∀ b, S' b → w0.heap.size ≤ b) : Keeps S w0 w' :=
  ⟨k.os.trans h.os, k.tape.trans h.tape, k.output.trans h.output, Nat.le_trans h.size k.size, fun b hb hn =>
    (k.block b (Nat.lt_of_lt_of_le hb h.size) (fun hs => by have := hS b hs; omega)).trans (h.block b hb hn)⟩
theorem info24 : (Try.prog.info? 24).map (·.size) = some 1 := by kernel_rfl
theorem info4 : (Try.prog.info? 4).map (·.size) = some 1 := by kernel_rfl
theorem info5 : (Try.prog.info? 5).map (·.size) = some 1 := by kernel_rfl
theorem info32 : (Try.prog.info? 32).map (·.size) = some 1 := by kernel_rfl
theorem one1 (v : Value) (h : v.oneCell' = true) : ∀ u ∈ [v], u.oneCell' = true := fun u hu => by
  rw [List.mem_singleton] at hu; rw [hu]; exact h

end Go.Proofs.Qxb6617947a
