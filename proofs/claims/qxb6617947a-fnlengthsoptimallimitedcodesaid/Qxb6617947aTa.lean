import Derived.Test.Qxb6617947aTk
import Derived.Test.Qxb6617947aLzB
/-! takeMade, as Lengths calls it. -/
namespace Go.Proofs.Qxb6617947a
open Go.RowKit
/-- Take j's index. -/
def IdxR (w : Nat → Nat) (n j ix : Nat) : Prop := (hS w n j ∧ ix = hc w n j) ∨ (¬ hS w n j ∧ ix = n + (j - hc w n j))
theorem IdxR.lt {w : Nat → Nat} {n j ix : Nat} (hn : 2 ≤ n) (hj : j < 2 * n - 2) (h : IdxR w n j ix) : ix < 2 * n - 2 := by
  rcases h with ⟨a, rfl⟩ | ⟨a, rfl⟩
  · have := a.1; omega
  · have := h_node hn hj a; omega
theorem par_step {w PV : Nat → Nat} {n t ix : Nat} (hn : 2 ≤ n) (hw : Asc w n) (hP : ParOK w n PV t) (ht : t < 2 * n - 2) (hi : IdxR w n t ix) : ParOK w n (updF PV ix (n + t / 2)) (t + 1) := by
  have M := h_merge hn hw
  intro j hj
  rcases Nat.lt_or_ge j t with h | h
  · have hm := M.mono (i := j + 1) (j := t) h (by omega)
    have hl := M.le (j := j) (by omega)
    constructor
    · intro hs
      have h1 := (hst_yes hs).1
      have hb := hs.1
      unfold updF
      rw [if_neg, (hP j h).1 hs]
      rcases hi with ⟨_, rfl⟩ | ⟨_, rfl⟩ <;> omega
    · intro hs
      have h1 := (hst_no hs (h_node hn (by omega) hs)).1
      unfold updF
      rw [if_neg, (hP j h).2 hs]
      rcases hi with ⟨h2, rfl⟩ | ⟨_, rfl⟩
      · have := h2.1; omega
      · omega
  · obtain rfl : j = t := by omega
    constructor
    · intro hs
      rcases hi with ⟨_, rfl⟩ | ⟨h2, _⟩
      · exact if_pos rfl
      · exact absurd hs h2
    · intro hs
      rcases hi with ⟨h2, _⟩ | ⟨_, rfl⟩
      · exact absurd h2 hs
      · exact if_pos rfl

theorem own_one {w : World} {b : Nat} {v v' : Value} (h : Own w b 1 (fun _ => v)) : Own (w.setCell ⟨b, 0, none⟩ v') b 1 (fun _ => v') := (h.set (i := 0) (by decide) v').congr fun j hj => by
  obtain rfl : j = 0 := by omega
  exact if_pos rfl
theorem take_any {sb nb kb wb n j : Nat} {KV WV : Nat → Nat} {w : World} (hs : Own w sb 1 (fun _ => .int .i64 (hc (wtOf KV) n j : Nat))) (hq : Own w nb 1 (fun _ => .int .i64 (j - hc (wtOf KV) n j : Nat)))
    (hk : Own w kb 512 (fun x => .int .u64 (KV x : Nat))) (hwb : Own w wb 512 (fun x => .int .u64 (WV x : Nat))) (hWV : ∀ p, p < j / 2 → WV p = hW (wtOf KV) n p) (hn : 2 ≤ n) (hn2 : n ≤ 512) (hj : j < 2 * n - 2)
    (hKb : ∀ i, i < n → KV i < 281474976710656) (d1 : sb ≠ nb) (d2 : kb ≠ sb) (d3 : wb ≠ nb) (d4 : wb ≠ sb) (d5 : kb ≠ nb) :
    Calls Try.prog 22 #[.pointer (some ⟨sb, 0, none⟩), .pointer (some ⟨nb, 0, none⟩), .int .i64 (j / 2 : Nat), .int .i64 (n : Nat), .pointer (some ⟨kb, 0, none⟩), .pointer (some ⟨wb, 0, none⟩)] w
      fun e w' => ∃ ix : Nat, e = .returned (.tuple #[.int .u64 (hT (wtOf KV) n j : Nat), .int .i64 ix]) ∧ IdxR (wtOf KV) n j ix ∧ Keeps (fun b => b = sb ∨ b = nb) w w' ∧
        Own w' sb 1 (fun _ => .int .i64 (hc (wtOf KV) n (j + 1) : Nat)) ∧ Own w' nb 1 (fun _ => .int .i64 (j + 1 - hc (wtOf KV) n (j + 1) : Nat)) := by
  obtain ⟨a1, a2, a3⟩ := h_inv (w := wtOf KV) hn (j := j) (by omega)
  have cs := hs.cell 0 (by decide)
  have fs := hs.free 0
  have cq := hq.cell 0 (by decide)
  have fq := hq.free 0
  have symEnd : ∀ {e : Ending} {w' : World}, hS (wtOf KV) n j → (e = .returned (.tuple #[.int .u64 (((KV (hc (wtOf KV) n j) : Nat) : Int) / 65536), .int .i64 (hc (wtOf KV) n j : Nat)]) ∧ ∃ a b, w' = ((w.drewN a).setCell ⟨sb, 0, none⟩ (.int .i64 (((hc (wtOf KV) n j : Nat) : Int) + 1))).drewN b) →
      ∃ ix : Nat, e = .returned (.tuple #[.int .u64 (hT (wtOf KV) n j : Nat), .int .i64 ix]) ∧ IdxR (wtOf KV) n j ix ∧ Keeps (fun b => b = sb ∨ b = nb) w w' ∧
        Own w' sb 1 (fun _ => .int .i64 (hc (wtOf KV) n (j + 1) : Nat)) ∧ Own w' nb 1 (fun _ => .int .i64 (j + 1 - hc (wtOf KV) n (j + 1) : Nat)) := by
    rintro e w' hS1 ⟨rfl, a, b, rfl⟩
    obtain ⟨b1, b2⟩ := hst_yes hS1
    refine ⟨hc (wtOf KV) n j, ?_, .inl ⟨hS1, rfl⟩, ((((Keeps.refl _ w).drewN a).setCell (p := ⟨sb, 0, none⟩) (.inl rfl) _).drewN b), ?_, ?_⟩
    · rw [b2]
      show _ = Ending.returned (.tuple #[.int .u64 ((KV (hc (wtOf KV) n j) / 65536 : Nat)), _])
      rw [Int.natCast_ediv]; rfl
    · rw [b1]
      exact (own_one (v' := .int .i64 (((hc (wtOf KV) n j : Nat) : Int) + 1)) (hs.drewN a)).drewN b
    · rw [b1, show j + 1 - (hc (wtOf KV) n j + 1) = j - hc (wtOf KV) n j by omega]
      exact ((hq.drewN a).other (a := ⟨sb, 0, none⟩) d1 _).drewN b
  have nodEnd : ∀ {e : Ending} {w' : World}, ¬ hS (wtOf KV) n j → (e = .returned (.tuple #[.int .u64 (hW (wtOf KV) n (j - hc (wtOf KV) n j) : Nat), .int .i64 ((n : Int) + ((j - hc (wtOf KV) n j : Nat) : Int))]) ∧ ∃ a b, w' = ((w.drewN a).setCell ⟨nb, 0, none⟩ (.int .i64 (((j - hc (wtOf KV) n j : Nat) : Int) + 1))).drewN b) →
      ∃ ix : Nat, e = .returned (.tuple #[.int .u64 (hT (wtOf KV) n j : Nat), .int .i64 ix]) ∧ IdxR (wtOf KV) n j ix ∧ Keeps (fun b => b = sb ∨ b = nb) w w' ∧
        Own w' sb 1 (fun _ => .int .i64 (hc (wtOf KV) n (j + 1) : Nat)) ∧ Own w' nb 1 (fun _ => .int .i64 (j + 1 - hc (wtOf KV) n (j + 1) : Nat)) := by
    rintro e w' hS1 ⟨rfl, a, b, rfl⟩
    obtain ⟨b1, b2⟩ := hst_no hS1 (h_node hn hj hS1)
    refine ⟨n + (j - hc (wtOf KV) n j), ?_, .inr ⟨hS1, rfl⟩, ((((Keeps.refl _ w).drewN a).setCell (p := ⟨nb, 0, none⟩) (.inr rfl) _).drewN b), ?_, ?_⟩
    · rw [b2, Int.natCast_add]
    · rw [b1]
      exact ((hs.drewN a).other (a := ⟨nb, 0, none⟩) (Ne.symm d1) _).drewN b
    · rw [b1]
      have h1 := (own_one (v' := .int .i64 (((j - hc (wtOf KV) n j : Nat) : Int) + 1)) (hq.drewN a)).drewN b
      rw [show j + 1 - hc (wtOf KV) n j = (j - hc (wtOf KV) n j) + 1 by omega]
      exact h1
  by_cases hS1 : hS (wtOf KV) n j
  · have hsn := hS1.1
    have hck := hk.cell (hc (wtOf KV) n j) (by omega)
    have hb := hKb _ hsn
    by_cases hpq : j - hc (wtOf KV) n j = j / 2
    · refine (take_symA (V := 0) (wb := wb) cs fs cq fq hn2 (by omega) hck (by omega) hsn hpq d1 d2 d3 d4 d5).mono fun e w' h => symEnd hS1 h
    · have hlt : j - hc (wtOf KV) n j < j / 2 := by omega
      have hcv := hwb.cell (j - hc (wtOf KV) n j) (by omega)
      rw [hWV _ hlt] at hcv
      refine (take_symB cs fs cq fq hn2 (by omega) hck (by omega) hcv hsn hlt (hS1.2.resolve_left (by omega)) d1 d2 d3 d4 d5).mono fun e w' h => symEnd hS1 h
  · have hlt := h_node hn hj hS1
    have hcv := hwb.cell (j - hc (wtOf KV) n j) (by omega)
    rw [hWV _ hlt] at hcv
    by_cases hsn : hc (wtOf KV) n j < n
    · have hck := hk.cell (hc (wtOf KV) n j) (by omega)
      have hb := hKb _ hsn
      refine (take_nodC cs fs cq fq hn2 (by omega) hck (by omega) hcv hsn hlt (fun h => hS1 ⟨hsn, .inr h⟩) d1 d2 d3 d4 d5).mono fun e w' h => nodEnd hS1 h
    · refine (take_nodD (K := 0) (kb := kb) cs fs cq fq hn2 (by omega) hcv hsn hlt d1 d2 d3 d4 d5).mono fun e w' h => nodEnd hS1 h
end Go.Proofs.Qxb6617947a
