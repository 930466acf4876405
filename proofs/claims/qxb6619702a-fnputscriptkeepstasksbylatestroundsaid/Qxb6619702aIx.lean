import Derived.Test.Qxb6619702aOpen
import Derived.Test.Qxb6619702aWant
/-! The table's getters, also of the table without slots. -/
namespace Go.Proofs.Qxb6619702a
open Go.RowKit

/-- The index: none, and nothing in it; or a map. -/
def IxIs (w : World) (ix : Option Nat) (M : ByteArray → Option Int) (N : Nat) : Prop := (ix = none ∧ N = 0 ∧ ∀ s, M s = none) ∨ ∃ b K, ix = some b ∧ OwnM w b M N K
theorem IxIs.keep {w w' : World} {ix : Option Nat} {M : ByteArray → Option Int} {N : Nat} {S : Nat → Prop} (h : IxIs w ix M N) (hK : Keeps S w w') (hS : ∀ b, ix = some b → ¬ S b) : IxIs w' ix M N := by
  rcases h with h | ⟨b, K, h1, h2⟩
  · exact .inl h
  · exact .inr ⟨b, K, h1, h2.keep hK (hS b h1)⟩

theorem zzIndexLen_ix (tb : Nat) (v0 v1 : Value) (ix : Option Nat) (M : ByteArray → Option Int) (N : Nat) (w : World) (hT : Blk w tb 63 [v0, v1, .map ix]) (h : IxIs w ix M N) :
    Calls Try.prog 24 #[.pointer (some ⟨tb, 0, none⟩)] w fun e w' => e = .returned (.int .i64 N) ∧ w' = w := by
  rcases h with ⟨rfl, rfl, _⟩ | ⟨b, K, rfl, h⟩
  · have hc0 := hT.cell 2
    simp only [List.getElem?_cons_succ, List.getElem?_cons_zero] at hc0
    clear hT
    go_enter Try.func24, Try.ntmps24
    go_wp2
    go_ret
    exact ⟨rfl, rfl⟩
  · exact zzIndexLen_any tb v0 v1 b M N K w hT h

theorem zzIndex_ix (tb : Nat) (v0 v1 : Value) (ix : Option Nat) (M : ByteArray → Option Int) (N : Nat) (s : ByteArray) (w : World) (hT : Blk w tb 63 [v0, v1, .map ix]) (h : IxIs w ix M N) (hs : s.size ≤ maxLen) :
    Calls Try.prog 17 #[.pointer (some ⟨tb, 0, none⟩), .string s] w fun e w' => e = .returned (.tuple #[.int .i64 ((M s).getD 0), .bool (M s).isSome]) ∧ w' = w := by
  rcases h with ⟨rfl, rfl, h⟩ | ⟨b, K, rfl, h⟩
  · have hc0 := hT.cell 2
    simp only [List.getElem?_cons_succ, List.getElem?_cons_zero] at hc0
    clear hT
    rw [h s]
    clear h
    have hlk := look_none s hs
    go_enter Try.func17, Try.ntmps17
    go_wp2
    go_ret2
    exact ⟨rfl, rfl⟩
  · exact zzIndex_any tb v0 v1 b M N K s w hT h hs

theorem ringOrder_ix (a1 a2 : Option Addr) (n c1 c2 lo1 hi1 lo2 hi2 : Nat) (B A : Nat → Int) (w : World) (hn : n ≤ 1048576) (h1 : SlF encI w lo1 hi1 a1 n B) (h2 : SlF encI w lo2 hi2 a2 n A) :
    Calls Try.prog 22 #[.slice a1 n c1, .slice a2 n c2] w (RingOut w n B A) := by
  rcases Nat.eq_zero_or_pos n with h0 | h0
  · subst h0
    clear h1 h2
    go_enter Try.func22, Try.ntmps22
    go_wp2
    go_ret2
    exact ⟨Keeps.refl _ _, none, 0, rfl, fun h => absurd h (by simp)⟩
  · exact ringOrder_any a1 a2 n c1 c2 lo1 hi1 lo2 hi2 B A w h0 hn h1 h2
end Go.Proofs.Qxb6619702a
