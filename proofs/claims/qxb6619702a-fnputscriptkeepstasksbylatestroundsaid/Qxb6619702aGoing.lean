import Derived.Test.Qxb6619702aScript
/-! A table under a script. -/
namespace Go.Proofs.Qxb6619702a
open Go.RowKit

theorem St.keep {w w' : World} {tb bm cf n nf : Nat} {af : Option Addr} {FR R B A : Nat → Int} {L : List Nat} {ID : Nat → ByteArray} (h : St w tb bm cf af FR n nf L R ID B A) (hK : Keeps Nob w w') : St w' tb bm cf af FR n nf L R ID B A := by
  obtain ⟨v, ix, hT, hown, hv, hM, hg⟩ := h
  exact ⟨v, ix, hT.keep hK (fun h => h), ownsRow_keep hown hK (fun _ _ h => h), hv, fun b hb => ⟨(hM b hb).1, (hM b hb).2.keep hK (fun h => h)⟩, hg⟩
theorem St.ix {w : World} {tb bm cf n nf : Nat} {af : Option Addr} {FR R B A : Nat → Int} {L : List Nat} {ID : Nat → ByteArray} (h : St w tb bm cf af FR n nf L R ID B A) :
    ∃ v ix, Blk w tb 63 [v, .slice af nf cf, .map ix] ∧ IxIs w ix (idx ID L) L.length := by
  obtain ⟨v, ix, hT, hown, hv, hM, hg⟩ := h
  refine ⟨v, ix, hT, ?_⟩
  cases ix with
  | some b => exact .inr ⟨b, L.length, rfl, (hM b rfl).2⟩
  | none =>
    have hn : n = 0 := by
      rcases Nat.eq_zero_or_pos n with h | h
      · exact h
      · have := (hg.pos h).2.2.2; simp at this
    obtain ⟨rfl, -, -⟩ := hg.zero hn
    exact .inl ⟨rfl, rfl, fun _ => rfl⟩
/-- What the law's last part asks of a table. -/
theorem St.last {w : World} {tb bm cf n nf : Nat} {af : Option Addr} {FR R B A : Nat → Int} {L : List Nat} {ID : Nat → ByteArray} (h : St w tb bm cf af FR n nf L R ID B A) :
    ∃ a c ix, Blk w tb 63 [.slice a n c, .slice af nf cf, .map ix] ∧ (0 < n → ∃ g c', Value.slice a n c = .slice (some ⟨g, 0, none⟩) n c' ∧ w.ownsRow (tb + 1) 65 12 (.slice (some ⟨g, 0, none⟩) n c') n (cellsS n ⟨R, noP, ID, B, A⟩)) ∧
      IxIs w ix (idx ID L) L.length ∧ ringF n B A = some L ∧ (∀ x ∈ L, idx ID L (ID x) = some (x : Int)) ∧ (∀ x ∈ L, x < n) ∧ L.length ≤ n := by
  obtain ⟨v', ix', hT', hI⟩ := h.ix
  obtain ⟨v, ix, hT, hown, hv, hM, hg⟩ := h
  have e : v' = v ∧ ix' = ix := by
    have h0 := hT'.cell 0
    have h1 := hT.cell 0
    have h2 := hT'.cell 2
    have h3 := hT.cell 2
    rw [h1] at h0
    rw [h3] at h2
    simp at h0 h2
    exact ⟨h0.symm, h2.symm⟩
  obtain ⟨rfl, rfl⟩ := e
  rcases Nat.eq_zero_or_pos n with h0 | h0
  · subst h0
    obtain ⟨rfl, rfl, rfl⟩ := hg.zero rfl
    obtain rfl := hv rfl
    exact ⟨none, 0, none, hT, (fun h => by omega), hI, rfl, (fun x hx => by cases hx), (fun x hx => by cases hx), Nat.le_refl _⟩
  · obtain ⟨g, c, rfl, -, -⟩ := hown.form h0
    obtain ⟨hr, hd, -, -⟩ := hg.pos h0
    exact ⟨_, c, ix', hT, fun _ => ⟨g, c, rfl, hown⟩, hI, (ringF_iff h0 L).2 hr, fun x hx => idx_val hd hx, fun x hx => (hr.range x hx).2, nodup_len n L hr.nodup fun x hx => (hr.range x hx).2⟩

def Going (w : World) (tb bm cf : Nat) (af : Option Addr) (FR : Nat → Int) (n0 nf0 : Nat) (M0 : ByteArray → Option Int) (P0 : List (ByteArray × Int)) (SC : Nat → ByteArray) (k : Nat) : Prop :=
  ∃ n nf L R ID B A, St w tb bm cf af FR n nf L R ID B A ∧ Along n0 nf0 M0 P0 SC k n nf L R ID

theorem lenOf_le (n0 nf0 c : Nat) : lenOf n0 nf0 c ≤ n0 + c + 1 := by unfold lenOf; split <;> omega
end Go.Proofs.Qxb6619702a
