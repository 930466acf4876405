import Derived.WalkKit
import Derived.WalkSpells
import Derived.WalkLawsBesides
import Derived.Laws.CopyOwn
import Derived.Maps.AppendAt
/-! Small laws on blocks of cells, for worlds that are variables. -/
namespace Go.Proofs.Qxb6617947a
open Go.RowKit

/-- All blocks of w but those that S tells stand in w' as they stood. -/
structure Keeps (S : Nat → Prop) (w w' : World) : Prop where
  os : w'.os = w.os
  tape : w'.tape = w.tape
  output : w'.output = w.output
  size : w.heap.size ≤ w'.heap.size
  block : ∀ k, k < w.heap.size → ¬ S k → w'.heap[k]? = w.heap[k]?

def Nob : Nat → Prop := fun _ => False

theorem Keeps.refl (S : Nat → Prop) (w : World) : Keeps S w w := ⟨rfl, rfl, rfl, Nat.le_refl _, fun _ _ _ => rfl⟩
theorem Keeps.trans {S : Nat → Prop} {a b c : World} (h : Keeps S a b) (k : Keeps S b c) : Keeps S a c :=
  ⟨k.os.trans h.os, k.tape.trans h.tape, k.output.trans h.output, Nat.le_trans h.size k.size,
    fun i hi hs => (k.block i (Nat.lt_of_lt_of_le hi h.size) hs).trans (h.block i hi hs)⟩
theorem Keeps.mono {S S' : Nat → Prop} {w w' : World} (h : Keeps S w w') (hS : ∀ k, k < w.heap.size → S k → S' k) : Keeps S' w w' :=
  ⟨h.os, h.tape, h.output, h.size, fun k hk hs => h.block k hk (fun x => hs (hS k hk x))⟩
theorem Keeps.below {w w' : World} {S : Nat → Prop} (h : Keeps S w w') {B : Nat} (hB : B ≤ w.heap.size) (hS : ∀ k, k < B → ¬ S k) : Below B w w' :=
  ⟨h.os, h.tape, h.output, h.size, fun k hk => h.block k (by omega) (hS k hk)⟩
theorem Keeps.ofBelow {w w' : World} {S : Nat → Prop} {B : Nat} (h : Below B w w') (hS : ∀ k, B ≤ k → k < w.heap.size → S k) : Keeps S w w' :=
  ⟨h.os, h.tape, h.output, h.size, fun k hk hs => h.block k (by
    rcases Nat.lt_or_ge k B with h | h
    · exact h
    · exact absurd (hS k h hk) hs)⟩
theorem Keeps.drewN {S : Nat → Prop} {a w : World} (h : Keeps S a w) (n : Nat) : Keeps S a (w.drewN n) := ⟨h.os, h.tape, h.output, h.size, h.block⟩
theorem Keeps.drew {S : Nat → Prop} {a w : World} (h : Keeps S a w) : Keeps S a w.drew := ⟨h.os, h.tape, h.output, h.size, h.block⟩
theorem Keeps.alloc {S : Nat → Prop} {a w : World} (h : Keeps S a w) (o : Obj) : Keeps S a (w.alloc o) :=
  h.trans ⟨rfl, rfl, rfl, by simp, fun k hk _ => Below.heap_alloc _ _ _ (by omega)⟩
theorem Keeps.setCell {S : Nat → Prop} {a w : World} (h : Keeps S a w) {p : Addr} (hp : S p.block) (u : Value) : Keeps S a (w.setCell p u) :=
  h.trans ⟨rfl, rfl, rfl, by simp [World.setCell], fun k hk hs => Below.heap_setCell _ _ _ _ (fun e => hs (e ▸ hp))⟩
theorem Keeps.setNew {S : Nat → Prop} {a w : World} (h : Keeps S a w) {p : Addr} (hp : a.heap.size ≤ p.block) (u : Value) : Keeps S a (w.setCell p u) :=
  ⟨h.os, h.tape, h.output, by simpa [World.setCell] using h.size, fun k hk hs => (Below.heap_setCell _ _ _ _ (by omega)).trans (h.block k hk hs)⟩
theorem Keeps.grown {S : Nat → Prop} {a w w' : World} {row : Option Nat} (h : Keeps S a w) (hg : w.grownBy w' row) (hr : ∀ k, row = some k → S k ∨ a.heap.size ≤ k) : Keeps S a w' :=
  ⟨hg.os.trans h.os, hg.tape.trans h.tape, hg.output.trans h.output, Nat.le_trans h.size hg.size, fun k hk hs => by
    have := h.size
    refine (hg.block k (by omega) (fun e => ?_)).trans (h.block k hk hs)
    rcases hr k e.symm with h1 | h1
    · exact hs h1
    · omega⟩
theorem Keeps.cell {S : Nat → Prop} {w w' : World} (h : Keeps S w w') {p : Addr} (hp : p.block < w.heap.size) (hs : ¬ S p.block) : w'.cell? p = w.cell? p := World.cell?_of_block (w := w) (h.block p.block hp hs)
theorem Keeps.frozen {S : Nat → Prop} {w w' : World} (h : Keeps S w w') {p : Addr} (hp : p.block < w.heap.size) (hs : ¬ S p.block) : w'.frozen? p = w.frozen? p := World.frozen?_of_block (w := w) (h.block p.block hp hs)

/-- 'ao' leads to n cells of w, in a block from lo up to hi, that hold enc (F 0), enc (F 1) .. -/
def SlF {α : Type} (enc : α → Value) (w : World) (lo hi : Nat) (ao : Option Addr) (n : Nat) (F : Nat → α) : Prop :=
  0 < n → ∃ b off, ao = some ⟨b, off, none⟩ ∧ lo ≤ b ∧ b < hi ∧ ∀ j, j < n → w.cell? ⟨b, off + j, none⟩ = some (enc (F j))

abbrev encI : Int → Value := Value.int .i64

theorem SlF.keep {α : Type} {enc : α → Value} {w w' : World} {lo hi : Nat} {ao : Option Addr} {n : Nat} {F : Nat → α} {S : Nat → Prop} (h : SlF enc w lo hi ao n F) (hk : Keeps S w w') (hhi : hi ≤ w.heap.size)
    (hS : ∀ k, lo ≤ k → k < hi → ¬ S k) : SlF enc w' lo hi ao n F := by
  intro hn
  obtain ⟨b, off, h1, h2, h3, h4⟩ := h hn
  exact ⟨b, off, h1, h2, h3, fun j hj => (hk.cell (p := ⟨b, off + j, none⟩) (by show b < _; omega) (hS b h2 h3)).trans (h4 j hj)⟩
theorem SlF.wide {α : Type} {enc : α → Value} {w : World} {lo hi lo' hi' : Nat} {ao : Option Addr} {n : Nat} {F : Nat → α} (h : SlF enc w lo hi ao n F) (h1 : lo' ≤ lo) (h2 : hi ≤ hi') : SlF enc w lo' hi' ao n F := by
  intro hn
  obtain ⟨b, off, h3, h4, h5, h6⟩ := h hn
  exact ⟨b, off, h3, by omega, by omega, h6⟩
theorem SlF.congr {α : Type} {enc : α → Value} {w : World} {lo hi : Nat} {ao : Option Addr} {n : Nat} {F G : Nat → α} (h : SlF enc w lo hi ao n F) (hF : ∀ j, j < n → F j = G j) : SlF enc w lo hi ao n G := by
  intro hn
  obtain ⟨b, off, h3, h4, h5, h6⟩ := h hn
  exact ⟨b, off, h3, h4, h5, fun j hj => by rw [← hF j hj]; exact h6 j hj⟩

/-- Block g of w holds just the cells xs, none frozen. -/
def Blk (w : World) (g : Nat) (T : TypeId) (xs : List Value) : Prop := w.heap[g]? = some (.cells xs.toArray T (0, 0))

theorem Blk.lt {w : World} {g : Nat} {T : TypeId} {xs : List Value} (h : Blk w g T xs) : g < w.heap.size := by
  unfold Blk at h
  exact (Array.getElem?_eq_some_iff.1 h).1
theorem Blk.cell {w : World} {g : Nat} {T : TypeId} {xs : List Value} (h : Blk w g T xs) (j : Nat) : w.cell? ⟨g, j, none⟩ = xs[j]? := by
  unfold Blk at h
  simp [World.cell?, h]
theorem Blk.free {w : World} {g : Nat} {T : TypeId} {xs : List Value} (h : Blk w g T xs) (j : Nat) : w.frozen? ⟨g, j, none⟩ = false := by
  unfold Blk at h
  simp [World.frozen?, h]
theorem Blk.set {w : World} {g : Nat} {T : TypeId} {xs : List Value} (h : Blk w g T xs) (j : Nat) (v : Value) : Blk (w.setCell ⟨g, j, none⟩ v) g T (xs.set j v) := by
  unfold Blk at h ⊢
  simp [World.setCell, Array.getElem?_modify, h]
theorem Blk.other {w : World} {g : Nat} {T : TypeId} {xs : List Value} (h : Blk w g T xs) {a : Addr} (ha : a.block ≠ g) (v : Value) : Blk (w.setCell a v) g T xs := by
  unfold Blk at h ⊢
  rw [Below.heap_setCell _ _ _ _ (by omega)]; exact h
theorem Blk.alloc {w : World} {g : Nat} {T : TypeId} {xs : List Value} (h : Blk w g T xs) (o : Obj) : Blk (w.alloc o) g T xs := by
  have := h.lt
  unfold Blk at h ⊢
  rw [Below.heap_alloc _ _ _ this]; exact h
theorem Blk.drewN {w : World} {g : Nat} {T : TypeId} {xs : List Value} (h : Blk w g T xs) (n : Nat) : Blk (w.drewN n) g T xs := h
theorem Blk.keep {w w' : World} {g : Nat} {T : TypeId} {xs : List Value} {S : Nat → Prop} (h : Blk w g T xs) (hk : Keeps S w w') (hg : ¬ S g) : Blk w' g T xs := by
  have := h.lt
  unfold Blk at h ⊢; rw [hk.block g this hg]; exact h
theorem Blk.new (w : World) (T : TypeId) (xs : List Value) : Blk (w.alloc (.cells xs.toArray T)) w.heap.size T xs := by
  show (w.heap.push _)[w.heap.size]? = _
  simp
theorem Blk.owns {w : World} {base : Nat} {e : TypeId} {g n : Nat} {xs : List Value} (h : w.ownsRow base e 1 (.slice (some ⟨g, 0, none⟩) n n) n xs) : Blk w g e xs := by
  obtain ⟨hl, h⟩ := h
  rcases h with ⟨h, _⟩ | ⟨g', cap', cur, h1, h2, h3, h4, h5, h6, h7⟩
  · cases h
  · simp only [Value.slice.injEq, Option.some.injEq, Addr.mk.injEq] at h1
    obtain ⟨⟨rfl, _⟩, _, rfl⟩ := h1
    unfold Blk
    rw [h3, ← h7, List.take_of_length_le (by simp; omega)]
/-- What a slice of the call's own owns. -/
theorem SlF.owns {α : Type} {enc : α → Value} {w : World} {base : Nat} {e : TypeId} {v : Value} {n : Nat} {xs : List Value} (h : w.ownsRow base e 1 v n xs) :
    ∃ ao cap, v = .slice ao n cap ∧ (0 < n → ∃ b, ao = some ⟨b, 0, none⟩ ∧ base ≤ b ∧ b < w.heap.size ∧ ∀ j, w.frozen? ⟨b, j, none⟩ = false) ∧ ∀ F : Nat → α, (∀ j, j < n → xs[j]? = some (enc (F j))) → SlF enc w base w.heap.size ao n F := by
  have hlt := h.lt
  obtain ⟨hl, h'⟩ := h
  rcases h' with ⟨rfl, rfl⟩ | ⟨g, cap, cur, rfl, h2, h3, h4, h5, h6, h7⟩
  · exact ⟨none, 0, rfl, fun h => absurd h (by omega), fun F hF h => absurd h (by omega)⟩
  · have hg := hlt g rfl
    refine ⟨_, cap, rfl, fun _ => ⟨g, rfl, h2, hg.2, fun j => by simp [World.frozen?, h3]⟩, fun F hF _ => ⟨g, 0, rfl, h2, hg.2, fun j hj => ?_⟩⟩
    rw [← hF j hj, ← h7]
    simp [World.cell?, h3, List.getElem?_take]
    intro h; omega

/-- 'make([]T, n)', elements of one cell: a new block of n zero cells. -/
theorem wpList_make_blk {P : Program} (w : World) {ops : Array Oper} {rest : List Oper} {o : Oper} {a : Act} {Q : Exit → Act → World → Prop}
    (hg : o.guard = none) (l c : Operand) (t : TypeId) (hop : o.op = Op.makeSlice t l c)
    (e : TypeId) (z : Value) (bytes : Nat) (hz : z.cells = #[z]) (h1 : P.underlying t = some (.slice e)) (h2 : (P.info? e).map (fun i => (i.zero, i.size, i.bytes)) = some (some z, 1, bytes))
    (kl kc : IntKind) (n : Nat) (hl : a.eval l = .int kl n) (hc : a.eval c = .int kc n) (b2 : bytes * n ≤ 281474976710656) (b3 : n ≤ maxLen)
    (hK : ∀ w', Blk w' w.heap.size e (List.replicate n z) → Keeps Nob w w' → wpList P ops Q rest (a.put o.dst (.slice (some ⟨w.heap.size, 0, none⟩) n n)) w') :
    wpList P ops Q (o :: rest) a w := by
  obtain ⟨i, hi, hz0, hz1, hz2⟩ := info_parts h2
  refine wpList_make_full w hg l c t hop w.heap.size e i z 1 h1 hi hz0 hz1 kl kc n n n hl hc rfl rfl (by rw [hz2]; exact b2) b3 (Nat.le_refl _) fun w1 hown hgrow => ?_
  refine hK w1 ?_ ((Keeps.refl Nob w).grown hgrow (by intro k hk; cases hk))
  have := Blk.owns hown
  rwa [hz, Nat.mul_one, toList_madeCells_one] at this

/-- 'copy(out, src)', out a block of the call's own, as long as what is copied. -/
theorem wpList_copy_blk {P : Program} {w : World} {ops : Array Oper} {rest : List Oper} {o : Oper} {a : Act} {Q : Exit → Act → World → Prop} (hgd : o.guard = none) (d s : Operand) (dT sT : TypeId)
    (ho : o.op = .call { callee := .builtin .copy, args := #[d, s], argTypes := #[dT, sT] }) (elem : TypeId) (hu : P.underlying dT = some (.slice elem)) (hsz : (P.info? elem).map (·.size) = some 1)
    (g n dCap : Nat) (ad : Addr) (sCap : Nat) (hd : a.eval d = .slice (some ⟨g, 0, none⟩) n dCap) (hs : a.eval s = .slice (some ad) n sCap)
    (zs : List Value) (t : TypeId) (hg : Blk w g t zs) (hzs : zs.length = n) (cs : List Value) (hn : cs.length = n)
    (hsrc : ∀ j v, cs[j]? = some v → w.cell? (ad.add j) = some v) (h1 : ∀ v ∈ cs, v.oneCell' = true)
    (h : ∀ w', Blk w' g t cs → (∀ S : Nat → Prop, S g → Keeps S w w') → w'.heap.size = w.heap.size → (∀ k, k ≠ g → w'.heap[k]? = w.heap[k]?) → wpList P ops Q rest (a.put o.dst (goInt cs.length)) w') : wpList P ops Q (o :: rest) a w := by
  refine wpList_copy_own hgd d s dT sT ho elem hu hsz g 0 n dCap ad n sCap hd hs zs.toArray t hg cs (by rw [hn]; exact (Nat.min_self n).symm) hsrc (by simp; omega) h1 (h _ ?_ (fun S hS => ?_) ?_ ?_)
  · have := setRow_heap w g zs.toArray (zs.toArray.toList.take 0 ++ (cs ++ zs.toArray.toList.drop (0 + cs.length))).toArray t (0, 0) hg
    unfold Blk
    rw [this]
    simp [List.drop_of_length_le, hn, hzs]
  · exact ⟨rfl, rfl, rfl, by simp, fun k hk hs => setRow_other w g k _ (fun e => hs (e ▸ hS))⟩
  · simp
  · exact fun k hk => setRow_other w g k _ hk

/-- 'out = append(out, u)', elements of one cell, out nil or the call's own: what is appended lies in a block of its own. -/
theorem wpList_push {P : Program} {w : World} {ops : Array Oper} {rest : List Oper} {o : Oper} {a : Act} {Q : Exit → Act → World → Prop} (hgd : o.guard = none) (s x : Operand) (t : TypeId)
    (ho : o.op = .call { callee := .builtin .append, args := #[s, x], argTypes := #[t, t] })
    (base : Nat) (e : TypeId) (z : Value) (bytes : Nat) (hzs : z.cells.size = 1) (ht : P.underlying t = some (.slice e)) (hi : (P.info? e).map (fun i => (i.zero, i.size, i.bytes)) = some (some z, 1, bytes))
    (v : Value) (n : Nat) (xs : List Value) (hs : a.eval s = v) (hown : w.ownsRow base e 1 v n xs)
    (ad : Addr) (c : Nat) (u : Value) (hx : a.eval x = .slice (some ad) 1 c) (hu : w.cell? ad = some u) (h1 : u.oneCell' = true)
    (hbytes : (n + 1) * bytes ≤ 140737488355328) (hn : n + 1 ≤ maxLen) (hbase : base ≤ w.heap.size)
    (h : ∀ v' w', w'.ownsRow base e 1 v' (n + 1) (xs ++ [u]) → Keeps (fun k => v.ownBlock = some k) w w' → (v'.ownBlock = v.ownBlock ∨ v'.ownBlock = some w.heap.size) → wpList P ops Q rest (a.put o.dst v') w') :
    wpList P ops Q (o :: rest) a w := by
  obtain ⟨i, hi, hz0, hz1, hz2⟩ := info_parts hi
  refine Go.wpList_append_own_at (P := P) w hgd s x t ho base e i z 1 bytes ht hi hz0 hz1 hz2 hzs (by decide) v n xs hs hown ad 1 c [u] hx rfl ?_ ?_ hn hbytes hbase ?_
  · intro j u' hj
    match j, hj with
    | 0, hj =>
      simp at hj; subst hj
      have : ad.add 0 = ad := by simp [Addr.add]
      rw [this]; exact hu
  · intro u' hu'; simp at hu'; subst hu'; exact h1
  · intro v' w' h1 h2 _ h4
    exact h v' w' h1 ((Keeps.refl _ w).grown h2 (fun k hk => .inl hk)) h4

theorem ownsRow_keep {w w' : World} {S : Nat → Prop} {base : Nat} {e : TypeId} {size : Nat} {v : Value} {n : Nat} {xs : List Value} (h : w.ownsRow base e size v n xs) (hk : Keeps S w w') (hS : ∀ k, v.ownBlock = some k → ¬ S k) : w'.ownsRow base e size v n xs := by
  have hlt := h.lt
  obtain ⟨h1, h2⟩ := h
  refine ⟨h1, ?_⟩
  rcases h2 with h2 | ⟨g, cap, cur, rfl, hg, hh, r⟩
  · exact .inl h2
  · exact .inr ⟨g, cap, cur, rfl, hg, (hk.block g (hlt g rfl).2 (hS g rfl)).trans hh, r⟩

/-- The one cell of a block just laid. -/
theorem cell_new_one (w : World) (u : Value) (T : TypeId) {g : Nat} (hg : g = w.heap.size) : (w.alloc (.cells #[u] T)).cell? ⟨g, 0, none⟩ = some u := by
  subst hg
  rw [World.cell?_alloc_new]; rfl

/-- The cells of a block just laid, as append's law asks them. -/
theorem news_new (w : World) (cs : Array Value) (T : TypeId) {g : Nat} (hg : g = w.heap.size) : ∀ j u, cs.toList[j]? = some u → (w.alloc (.cells cs T)).cell? ((⟨g, 0, none⟩ : Addr).add j) = some u := by
  subst hg
  intro j u hj
  rw [Addr.add_lit, Nat.zero_add, World.cell?_alloc_new, ← hj]; simp
end Go.Proofs.Qxb6617947a
