import Derived.Test.Qxb6617947aOwn
import Derived.Deep.MidRow
import Derived.Laws.AppendOwn
import Derived.OrdersHeld
/-! append within the capacity, in the midst of a block. -/
namespace Go.Proofs.Qxb6617947a
open Go.RowKit

theorem run_append_mid {P : Program} (w : World) (t ty e : TypeId) (i : TypeInfo) (ht : P.underlying t = some (.slice e)) (hi : P.info? e = some i) (hsz : i.size = 1)
    (g off n cap : Nat) (a : Addr) (m c : Nat) (news : List Value) (hl : news.length = m) (hnews : ∀ j u, news[j]? = some u → w.cell? (a.add j) = some u) (h1 : ∀ u ∈ news, u.oneCell' = true)
    (hroom : n + m ≤ cap) (hth : w.there g (off + n) m) :
    (Builtin.append_ #[t, t] ty #[.slice (some ⟨g, off, none⟩) n cap, .slice (some a) m c]).run P w = .ok (.slice (some ⟨g, off, none⟩) (n + m) cap) (w.setCells g (off + n) news) := by
  have hf := run_firstCells_some (P := P) w i.size m a m c news (by rw [hsz, hl, Nat.mul_one]) hnews
  have hst := run_storeCells_cells (P := P) g (off + n) news 0 w (fun j hj => by simpa using (hth j (by omega)).1) (fun j hj => by simpa using (hth j (by omega)).2) h1
  simp only [Nat.add_zero] at hst
  rw [hsz] at hf
  simp [Builtin.append_, run_underlying ht, sizeOf, typeInfo, hi, hsz, Builtin.lenOf, hroom, hf, Addr.add_lit, hst]

theorem wp_append_mid {P : Program} {w : World} {o : Oper} {a : Act} {K : Act → World → Prop} {Q : Exit → Act → World → Prop} (s x : Operand) (t : TypeId)
    (ho : o.op = .call { callee := .builtin .append, args := #[s, x], argTypes := #[t, t] })
    (e : TypeId) (ht : P.underlying t = some (.slice e)) (hi : (P.info? e).map (·.size) = some 1)
    (g off n cap : Nat) (hs : a.eval s = .slice (some ⟨g, off, none⟩) n cap) (ad : Addr) (m c : Nat) (hx : a.eval x = .slice (some ad) m c)
    (news : List Value) (hl : news.length = m) (hnews : ∀ j u, news[j]? = some u → w.cell? (ad.add j) = some u) (h1 : ∀ u ∈ news, u.oneCell' = true)
    (hroom : n + m ≤ cap) (hth : w.there g (off + n) m)
    (h : K (a.put o.dst (.slice (some ⟨g, off, none⟩) (n + m) cap)) (w.setCells g (off + n) news)) : o.wp P a w K Q := by
  cases hi' : P.info? e with
  | none => simp [hi'] at hi
  | some i =>
    have hsz : i.size = 1 := by simpa [hi'] using hi
    have hr := run_append_mid (P := P) w t o.type e i ht hi' hsz g off n cap ad m c news hl hnews h1 hroom hth
    unfold Oper.wp execOp
    simp only [ho, resolve, invoke, builtin, Sem.run_bind, Sem.run_pure, Result.andThen_ok, List.map_toArray, List.map_cons, List.map_nil, hs, hx, hr]
    exact h

theorem wpList_append_mid {P : Program} {w : World} {ops : Array Oper} {rest : List Oper} {o : Oper} {a : Act} {Q : Exit → Act → World → Prop} (hgd : o.guard = none) (s x : Operand) (t : TypeId)
    (ho : o.op = .call { callee := .builtin .append, args := #[s, x], argTypes := #[t, t] })
    (e : TypeId) (ht : P.underlying t = some (.slice e)) (hi : (P.info? e).map (·.size) = some 1)
    (g off n cap : Nat) (hs : a.eval s = .slice (some ⟨g, off, none⟩) n cap) (ad : Addr) (m c : Nat) (hx : a.eval x = .slice (some ad) m c)
    (news : List Value) (hl : news.length = m) (hnews : ∀ j u, news[j]? = some u → w.cell? (ad.add j) = some u) (h1 : ∀ u ∈ news, u.oneCell' = true)
    (hroom : n + m ≤ cap) (hth : w.there g (off + n) m)
    (h : wpList P ops Q rest (a.put o.dst (.slice (some ⟨g, off, none⟩) (n + m) cap)) (w.setCells g (off + n) news)) : wpList P ops Q (o :: rest) a w :=
  wpList_plain hgd fun _ hK => wp_append_mid s x t ho e ht hi g off n cap hs ad m c hx news hl hnews h1 hroom hth (hK _ _ h)

/-! ### An own array behind stores of many cells -/
theorem Own.there {w : World} {b n : Nat} {V : Nat → Value} (h : Own w b n V) {o m : Nat} (hm : o + m ≤ n) : w.there b o m := fun j hj =>
  ⟨by rw [h.cell (o + j) (by omega)]; rfl, h.free _⟩
theorem Own.setCells {b n : Nat} : ∀ (vs : List Value) (o : Nat) {w : World} {V : Nat → Value}, Own w b n V → o + vs.length ≤ n → Own (w.setCells b o vs) b n (fun j => if o ≤ j ∧ j < o + vs.length then vs.getD (j - o) undef else V j)
  | [], o, _, V, h, _ => h.congr fun j _ => by rw [if_neg (fun hh => by have := hh.2; simp only [List.length_nil] at this; omega)]
  | v :: vs, o, w, V, h, hl => by
    simp only [List.length_cons] at hl
    refine ((h.set (i := o) (by omega) v).setCells vs (o + 1) (by omega)).congr fun j hj => ?_
    simp only [List.length_cons]
    by_cases h1 : o + 1 ≤ j ∧ j < o + 1 + vs.length
    · rw [if_pos h1, if_pos (by omega)]
      obtain ⟨d, rfl⟩ : ∃ d, j = o + 1 + d := ⟨j - (o + 1), by omega⟩
      rw [show o + 1 + d - (o + 1) = d by omega, show o + 1 + d - o = d + 1 by omega]
      simp
    · rw [if_neg h1]
      unfold updV
      by_cases h2 : j = o
      · subst h2
        rw [if_pos rfl, if_pos (by omega), Nat.sub_self]
        rfl
      · rw [if_neg h2, if_neg (by omega)]
theorem Own.setCells_other {b g n : Nat} {V : Nat → Value} (hne : g ≠ b) : ∀ (vs : List Value) (o : Nat) {w : World}, Own w b n V → Own (w.setCells g o vs) b n V
  | [], _, _, h => h
  | v :: vs, o, _, h => (h.other (a := ⟨g, o, none⟩) hne v).setCells_other hne vs (o + 1)
theorem setCells_keeps {w0 w : World} {S : Nat → Prop} (h : Keeps S w0 w) {g : Nat} (hg : w0.heap.size ≤ g) : ∀ (vs : List Value) (o : Nat), Keeps S w0 (w.setCells g o vs) := by
  intro vs
  induction vs generalizing w with
  | nil => intro o; exact h
  | cons v vs ih => intro o; exact ih (keeps_set h hg v) (o + 1)
theorem Own.alloc {w : World} {b n : Nat} {V : Nat → Value} (h : Own w b n V) (o : Obj) : Own (w.alloc o) b n V := h.keep (S := Nob) ((Keeps.refl Nob w).alloc o) (fun h => h)
theorem Own.put {w : World} {b n i : Nat} {V : Nat → Value} (h : Own w b n V) (hi : i < n) (v : Value) : Own (w.setCells b i [v]) b n (updV V i v) := h.set hi v
theorem news1 (w : World) (u : Value) (T : TypeId) : ∀ j v, [u][j]? = some v → (w.alloc (.cells #[u] T)).cell? ((⟨w.heap.size, 0, none⟩ : Addr).add j) = some v := news_new w #[u] T rfl
theorem news1' (w : World) (u : Value) (T : TypeId) {H : Nat} (hH : w.heap.size = H) : ∀ j v, [u][j]? = some v → (w.alloc (.cells #[u] T)).cell? ((⟨H, 0, none⟩ : Addr).add j) = some v := by subst hH; exact news1 w u T
theorem size_setCells (g : Nat) : ∀ (vs : List Value) (o : Nat) (w : World), (w.setCells g o vs).heap.size = w.heap.size
  | [], _, _ => rfl
  | v :: vs, o, w => (size_setCells g vs (o + 1) (w.setCell ⟨g, o, none⟩ v)).trans (by simp [World.setCell])
theorem setCells_one (w : World) (g o : Nat) (v : Value) : w.setCells g o [v] = w.setCell ⟨g, o, none⟩ v := rfl
end Go.Proofs.Qxb6617947a
