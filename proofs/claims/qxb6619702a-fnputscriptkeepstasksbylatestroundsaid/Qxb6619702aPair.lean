import Derived.Test.Qxb6619702aGoing
/-! The two wanted rows, ids and rounds, side by side. -/
namespace Go.Proofs.Qxb6619702a
open Go.RowKit

def encS (W : List (ByteArray × Int)) : List Value := W.map fun p => Value.string p.1
def encR (W : List (ByteArray × Int)) : List Value := W.map fun p => encI p.2
theorem encS_snoc (W : List (ByteArray × Int)) (s : ByteArray) (r : Int) : encS W ++ [Value.string s] = encS (W ++ [(s, r)]) := by simp [encS]
theorem encR_snoc (W : List (ByteArray × Int)) (s : ByteArray) (r : Int) : encR W ++ [Value.int .i64 r] = encR (W ++ [(s, r)]) := by simp [encR]
theorem encS_get {W : List (ByteArray × Int)} {j : Nat} (hj : j < W.length) : (encS W)[j]? = some (Value.string (W.getD j (⟨#[]⟩, 0)).1) := by simp [encS, hj]
theorem encR_get {W : List (ByteArray × Int)} {j : Nat} (hj : j < W.length) : (encR W)[j]? = some (encI (W.getD j (⟨#[]⟩, 0)).2) := by simp [encR, hj]

theorem rows_apart {w : World} {b1 b2 s1 s2 n1 n2 : Nat} {e1 e2 : TypeId} {v1 v2 : Value} {xs1 xs2 : List Value} (h1 : w.ownsRow b1 e1 s1 v1 n1 xs1) (h2 : w.ownsRow b2 e2 s2 v2 n2 xs2) (he : e1 ≠ e2) : ∀ k, v1.ownBlock = some k → ¬ v2.ownBlock = some k := by
  intro k hk1 hk2
  rcases h1.2 with ⟨hv, _⟩ | ⟨g, cap, cur, hv, _, hg, _⟩
  · rw [hv] at hk1; cases hk1
  · rcases h2.2 with ⟨hv', _⟩ | ⟨g', cap', cur', hv', _, hg', _⟩
    · rw [hv'] at hk2; cases hk2
    · rw [hv] at hk1
      rw [hv'] at hk2
      simp [Value.ownBlock] at hk1 hk2
      subst hk1; subst hk2
      rw [hg] at hg'
      simp at hg'
      exact he hg'.2

/-- The rows of ids and of rounds. -/
structure Two (w : World) (base : Nat) (v1 v2 : Value) (W : List (ByteArray × Int)) : Prop where
  ids : w.ownsRow base 9 1 v1 W.length (encS W)
  rounds : w.ownsRow base 3 1 v2 W.length (encR W)
theorem Two.nil (w : World) (base : Nat) : Two w base (.slice none 0 0) (.slice none 0 0) [] := ⟨World.ownsRow_nil _ _ _ _, World.ownsRow_nil _ _ _ _⟩
end Go.Proofs.Qxb6619702a
