import Derived.OrdersHeld
/-! A region that draws its order, whose last operation (number t: a store) waits for all the others: what reads may be taken first under a condition S on the world that the last operation itself need not keep. -/
namespace Go.Proofs.Qxb6619702a
open Go

section
variable {P : Program} {ops : Array Oper} {Q : Exit → Act → World → Prop} {md : Region.Mode} {S : World → Prop} {t : Nat}

/-- Whatever order is picked from here on, and S holds behind every operation but t. -/
def wpAnyT (P : Program) (md : Region.Mode) (ops : Array Oper) (Q : Exit → Act → World → Prop) (S : World → Prop) (t : Nat) : Nat → Array Bool → Act → World → Prop
  | 0, listed, a, w => Region.ready md ops listed = [] ∧ Q .normal a w
  | fuel + 1, listed, a, w =>
    (Region.ready md ops listed = [] → Q .normal a w) ∧
    ∀ i ∈ Region.ready md ops listed, wpOp P ops Q i (fun a' w' => (i ≠ t → S w') ∧ wpAnyT P md ops Q S t fuel (listed.setIfInBounds i true) a' w') a w

theorem wpAny_of_T : ∀ (fuel : Nat) (listed : Array Bool) (a : Act) (w : World), wpAnyT P md ops Q S t fuel listed a w → wpAny P md ops Q fuel listed a w
  | 0, _, _, _, h => h
  | fuel + 1, _, _, _, h => ⟨h.1, fun i hi => wpOp_mono (fun a' w' h' => wpAny_of_T fuel _ a' w' h'.2) (h.2 i hi)⟩

theorem wpAnyT_first {i k : Nat} {oi ot : Oper} {v : Value} (hi : ops[i]? = some oi) (hsel : ∀ (j : Nat) (o : Oper) cs b, ops[j]? = some o → o.op ≠ .select cs b)
    (hQ : ∀ c a w, Q (.panic c) (a.put oi.dst v) w → Q (.panic c) a w) (ht : ops[t]? = some ot) (hti : ∃ e ∈ ot.after, Region.binds md e = true ∧ e.on = k)
    (hk : k = i ∨ ∃ ok, ops[k]? = some ok ∧ ∃ e ∈ ok.after, Region.binds md e = true ∧ e.on = i) :
    ∀ (fuel : Nat) (listed : Array Bool) (a : Act) (w : World), listed.getD k true = false →
      (∀ j oj, ops[j]? = some oj → j ≠ i → listed.getD j true = false → (∀ e ∈ oj.after, Region.binds md e = true → e.on ≠ i) → oi.apart ops oj = true) →
      i ∈ Region.ready md ops listed → YieldsIf P ops S oi v a → S w →
      wpAnyT P md ops Q S t fuel (listed.setIfInBounds i true) (a.put oi.dst v) w → wpAnyT P md ops Q S t (fuel + 1) listed a w := by
  intro fuel
  induction fuel with
  | zero =>
    intro listed a w _ _ hr hy hS H
    refine ⟨fun h => (by rw [h] at hr; cases hr), fun j hj => ?_⟩
    by_cases hji : j = i
    · subst hji; exact hy.wpOp hi hS ⟨fun _ => hS, H⟩
    · have := ready_mono hj hji
      rw [H.1] at this
      cases this
  | succ fuel ih =>
    intro listed a w hun hfree hr hy hS H
    refine ⟨fun h => (by rw [h] at hr; cases hr), fun j hj => ?_⟩
    by_cases hji : j = i
    · subst hji; exact hy.wpOp hi hS ⟨fun _ => hS, H⟩
    · have h1 := H.2 j (ready_mono hj hji)
      obtain ⟨hjun, oj, hoj, hall⟩ := mem_ready.1 hj
      have hnot : ∀ e ∈ oj.after, Region.binds md e = true → e.on ≠ i := fun e he hb heq => by
        have h1 := hall e he hb
        have h0 := (mem_ready.1 hr).1
        rw [heq] at h1
        rcases Nat.lt_or_ge i listed.size with h' | h'
        · simp [h'] at h0 h1; rw [h0] at h1; cases h1
        · simp [Array.getElem?_eq_none h'] at h1
      have hjt : j ≠ t := by
        rintro rfl
        rw [ht] at hoj; cases hoj
        obtain ⟨e, he, hb, heq⟩ := hti
        have h1 := hall e he hb
        rw [heq] at h1
        rcases Nat.lt_or_ge k listed.size with h' | h'
        · simp [h'] at hun h1; rw [hun] at h1; cases h1
        · simp [Array.getElem?_eq_none h'] at h1
      have hjk : j ≠ k := by
        rintro rfl
        rcases hk with hk | ⟨ok, hok, e, he, hb, heq⟩
        · exact hji hk
        · rw [hok] at hoj; cases hoj
          exact hnot e he hb heq
      have hun' : (listed.setIfInBounds j true).getD k true = false := by rw [getD_set_ne true hjk]; exact hun
      have h2 := wpOp_putIf hoj (hfree j oj hoj hji hjun hnot) (fun cs b => hsel i oi cs b hi) (fun cs b => hsel j oj cs b hoj) hQ hy h1
      have hfree' : ∀ k ok, ops[k]? = some ok → k ≠ i → (listed.setIfInBounds j true).getD k true = false →
          (∀ e ∈ ok.after, Region.binds md e = true → e.on ≠ i) → oi.apart ops ok = true := fun k ok hk hki hun hno => by
        refine hfree k ok hk hki ?_ hno
        by_cases hjk : j = k
        · subst hjk; exact hjun
        · rw [getD_set_ne true hjk] at hun; exact hun
      refine wpOp_mono (fun a' w' h3 => ⟨fun _ => h3.2.1 hjt, ih (listed.setIfInBounds j true) a' w' hun' hfree' (ready_mono hr (Ne.symm hji)) h3.1 (h3.2.1 hjt) ?_⟩) h2
      rw [Array.setIfInBounds_comm _ _ hji]
      exact h3.2.2

/-- Does operation t wait for i? -/
def waits (md : Region.Mode) (ops : Array Oper) (t i : Nat) : Bool := (ops[t]?.map fun o => o.after.any fun e => Region.binds md e && e.on == i).getD false

theorem waits_spec {t i : Nat} (h : waits md ops t i = true) : ∃ ot, ops[t]? = some ot ∧ ∃ e ∈ ot.after, Region.binds md e = true ∧ e.on = i := by
  unfold waits at h
  cases ht : ops[t]? with
  | none => rw [ht] at h; simp at h
  | some ot =>
    rw [ht] at h
    have hw' : ∃ k, ∃ h : k < ot.after.size, Region.binds md ot.after[k] = true ∧ ot.after[k].on = i := by simpa using h
    obtain ⟨k, hk, hb⟩ := hw'
    exact ⟨ot, rfl, ot.after[k], Array.getElem_mem hk, hb.1, hb.2⟩

theorem wpAnyT_take {i : Nat} (k : Nat) {oi : Oper} {v : Value} {fuel : Nat} {listed : Array Bool} {a : Act} {w : World} (hi : ops[i]? = some oi)
    (hs : Region.noSelect ops = true) (hf : Region.free md ops listed i = true) (hr : (Region.ready md ops listed).contains i = true) (hw : (waits md ops t k && (k == i || waits md ops k i) && !(listed.getD k true)) = true)
    (hQ : ∀ c a w, Q (.panic c) (a.put oi.dst v) w → Q (.panic c) a w) (hS : S w) (hy : YieldsIf P ops S oi v a)
    (h : wpAnyT P md ops Q S t fuel (listed.setIfInBounds i true) (a.put oi.dst v) w) : wpAnyT P md ops Q S t (fuel + 1) listed a w := by
  simp only [Bool.and_eq_true, Bool.or_eq_true, beq_iff_eq, Bool.not_eq_true'] at hw
  obtain ⟨⟨h1, h2⟩, h3⟩ := hw
  obtain ⟨ot, ht, hti⟩ := waits_spec h1
  refine wpAnyT_first hi (Region.noSelect_spec hs) hQ ht hti ?_ fuel listed a w h3 (Region.free_spec hi hf) (by simpa using hr) hy hS h
  rcases h2 with h2 | h2
  · exact .inl h2
  · exact .inr (waits_spec h2)

/-- Nothing but i may come up. -/
theorem wpAnyT_one {i : Nat} {fuel : Nat} {listed : Array Bool} {a : Act} {w : World} (hr : Region.ready md ops listed = [i])
    (h : wpOp P ops Q i (fun a' w' => (i ≠ t → S w') ∧ wpAnyT P md ops Q S t fuel (listed.setIfInBounds i true) a' w') a w) : wpAnyT P md ops Q S t (fuel + 1) listed a w := by
  refine ⟨fun h0 => (by rw [hr] at h0; cases h0), fun j hj => ?_⟩
  rw [hr] at hj
  obtain rfl : j = i := by simpa using hj
  exact h

theorem wpAnyT_done {listed : Array Bool} {a : Act} {w : World} (hr : Region.ready md ops listed = []) (h : Q .normal a w) :
    ∀ fuel, wpAnyT P md ops Q S t fuel listed a w
  | 0 => ⟨hr, h⟩
  | _ + 1 => ⟨fun _ => h, by rw [hr]; simp⟩

theorem wp_region_T {id : Nat} {a : Act} {w : World} (hm : P.follows .mixedOrders = true) (S : World → Prop) (t : Nat)
    (h : wpAnyT P .any ops Q S t ops.size (Array.replicate ops.size false) a { w with drawn := w.drawn + 1 }) : (Code.region id ops true).wp P Q a w :=
  wp_region_any hm (wpAny_of_T _ _ _ _ h)
end
end Go.Proofs.Qxb6619702a
