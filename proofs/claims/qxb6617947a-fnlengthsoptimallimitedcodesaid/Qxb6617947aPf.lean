import Derived.Test.Qxb6617947aHu
/-! package-merge: what the walk asks of the plain lists. -/
namespace Go.Proofs.Qxb6617947a

def flag (w : Nat → Nat) (n : Nat) : Nat → Nat → Bool
  | 0, _ => true
  | k + 1, j => !takesPair w n (pmL w n k) j (cnt w n (pmL w n k) j)
def flagN (w : Nat → Nat) (n k j : Nat) : Nat := psum (fun i => if flag w n k i = true then 1 else 0) j
theorem flagN_eq (w : Nat → Nat) (n : Nat) : ∀ k j, flagN w n k j = (pmL w n k).c j
  | 0, j => by
    show psum (fun i => if true = true then 1 else 0) j = j
    induction j with
    | zero => rfl
    | succ j ih => show psum _ j + 1 = j + 1; rw [ih]
  | k + 1, j => by
    show psum (fun i => if (!takesPair w n (pmL w n k) i (cnt w n (pmL w n k) i)) = true then 1 else 0) j = cnt w n (pmL w n k) j
    induction j with
    | zero => rfl
    | succ j ih =>
      show psum _ j + (if (!takesPair w n (pmL w n k) j (cnt w n (pmL w n k) j)) = true then 1 else 0) = (if takesPair w n (pmL w n k) j (cnt w n (pmL w n k) j) = true then cnt w n (pmL w n k) j else cnt w n (pmL w n k) j + 1)
      rw [ih]
      generalize takesPair w n (pmL w n k) j (cnt w n (pmL w n k) j) = z
      cases z <;> rfl
theorem pmL_bd {w : Nat → Nat} {n M : Nat} (hw : ∀ i, i < n → w i ≤ M) : ∀ k j, j < (pmL w n k).len → (pmL w n k).x j ≤ 2 ^ k * M
  | 0, j, h => by
    have := hw j h
    show w j ≤ 1 * M
    omega
  | k + 1, j, h => by
    have hp : 2 ^ (k + 1) * M = 2 * (2 ^ k * M) := by rw [Nat.pow_succ, Nat.mul_comm (2 ^ k) 2, Nat.mul_assoc]
    rcases (nextL_merge w n (pmL w n k)).step j h with ⟨_, a, b, _⟩ | ⟨_, a, b, _⟩
    · show item w n (pmL w n k) j ≤ _
      rw [b, hp]
      have h1 := hw _ a
      have h2 : M ≤ 2 ^ k * M := Nat.le_mul_of_pos_left M (Nat.two_pow_pos k)
      omega
    · show item w n (pmL w n k) j ≤ _
      rw [b, hp]
      have h1 := pmL_bd hw k (2 * (j - cnt w n (pmL w n k) j)) (by omega)
      have h2 := pmL_bd hw k (2 * (j - cnt w n (pmL w n k) j) + 1) (by omega)
      show (pmL w n k).x _ + (pmL w n k).x _ ≤ _
      omega

/-- Symbol sym i's cell is raised by g i. -/
def outF (O sym : Nat → Nat) (n : Nat) (g : Nat → Nat) (x : Nat) : Nat := O x + psum (fun i => if sym i = x then g i else 0) n
theorem outF_zero (O sym : Nat → Nat) (n : Nat) : outF O sym n (fun _ => 0) = O := by
  funext x
  unfold outF
  rw [psum_congr (g := fun _ => 0) (fun i _ => by show (if sym i = x then 0 else 0) = 0; split <;> rfl), psum_zero]
  rfl
theorem outF_congr {O sym : Nat → Nat} {n : Nat} {g g' : Nat → Nat} (h : ∀ i, i < n → g i = g' i) : outF O sym n g = outF O sym n g' := by
  funext x
  unfold outF
  rw [psum_congr fun i hi => by show (if sym i = x then g i else 0) = (if sym i = x then g' i else 0); rw [h i hi]]
theorem psum_one {f : Nat → Nat} {k v : Nat} : ∀ {n : Nat}, k < n → (∀ i, i < n → i ≠ k → f i = 0) → f k = v → psum f n = v
  | 0, h, _, _ => by omega
  | n + 1, h, h0, hv => by
    show psum f n + f n = v
    by_cases e : k = n
    · subst e
      rw [psum_congr (g := fun _ => 0) (fun i hi => h0 i (by omega) (by omega)), psum_zero, hv, Nat.zero_add]
    · rw [psum_one (n := n) (by omega) (fun i hi hne => h0 i (by omega) hne) hv, h0 n (by omega) (by omega), Nat.add_zero]
theorem outF_step {O sym : Nat → Nat} {n : Nat} {g : Nat → Nat} {j : Nat} (hj : j < n) (x : Nat) :
    outF O sym n (fun i => g i + if i = j then 1 else 0) x = if x = sym j then outF O sym n g x + 1 else outF O sym n g x := by
  unfold outF
  have h1 : psum (fun i => if sym i = x then g i + (if i = j then 1 else 0) else 0) n = psum (fun i => if sym i = x then g i else 0) n + psum (fun i => if sym i = x then (if i = j then 1 else 0) else 0) n := by
    rw [← psum_add]
    refine psum_congr fun i _ => ?_
    show (if sym i = x then g i + (if i = j then 1 else 0) else 0) = (if sym i = x then g i else 0) + (if sym i = x then (if i = j then 1 else 0) else 0)
    split <;> simp
  rw [h1]
  have h2 : psum (fun i => if sym i = x then (if i = j then 1 else 0) else 0) n = if x = sym j then 1 else 0 := by
    refine psum_one hj (fun i _ hne => ?_) ?_
    · show (if sym i = x then (if i = j then 1 else 0) else 0) = 0
      rw [if_neg hne]
      split <;> rfl
    · show (if sym j = x then (if j = j then 1 else 0) else 0) = _
      rw [if_pos rfl]
      by_cases e : sym j = x
      · rw [if_pos e, if_pos e.symm]
      · rw [if_neg e, if_neg (fun h => e h.symm)]
  rw [h2]
  split <;> omega
theorem outF_at {O sym : Nat → Nat} {n : Nat} {g : Nat → Nat} (hinj : ∀ i j, i < n → j < n → sym i = sym j → i = j) {j : Nat} (hj : j < n) : outF O sym n g (sym j) = O (sym j) + g j := by
  unfold outF
  congr 1
  refine psum_one hj (fun i hi hne => ?_) ?_
  · show (if sym i = sym j then g i else 0) = 0
    rw [if_neg (fun h => hne (hinj i j hi hj h))]
  · show (if sym j = sym j then g j else 0) = g j
    rw [if_pos rfl]
theorem outF_off {O sym : Nat → Nat} {n : Nat} {g : Nat → Nat} {x : Nat} (hx : ∀ i, i < n → sym i ≠ x) : outF O sym n g x = O x := by
  unfold outF
  rw [psum_congr (g := fun _ => 0) (fun i hi => by show (if sym i = x then g i else 0) = 0; rw [if_neg (hx i hi)]), psum_zero]
  rfl
end Go.Proofs.Qxb6617947a
