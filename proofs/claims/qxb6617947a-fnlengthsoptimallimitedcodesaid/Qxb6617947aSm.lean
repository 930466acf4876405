import Derived.Test.Qxb6617947aOwn
import Derived.Test.Qxb6617947aPm
import Derived.Deep.QuietTactic
import Derived.BigQuiet
import Derived.WalkSmall
/-! Small functions of the laws. -/
namespace Go.Proofs.Qxb6617947a
open Go.RowKit
def intOf : Value → Int | .int _ q => q | _ => 0

/-- How many symbols occur. -/
def occN (F : Nat → Nat) (m : Nat) : Nat := psum (fun i => if 0 < F i then 1 else 0) m
theorem occN_le (F : Nat → Nat) : ∀ m, occN F m ≤ m
  | 0 => Nat.le_refl _
  | m + 1 => by
    have := occN_le F m
    show occN F m + (if 0 < F m then 1 else 0) ≤ m + 1
    split <;> omega

abbrev encU32 : Nat → Value := fun x => .int .u32 x
abbrev encU8 : Nat → Value := fun x => .int .u8 x

set_option maxHeartbeats 1000000 in
theorem count_any {ao : Option Addr} {m c lo hi : Nat} {F : Nat → Nat} {w : World} (hO : SlF encU32 w lo hi ao m F) (hm : m ≤ 1048576) :
    Calls Try.prog 14 #[.slice ao m c] w fun e w' => e = .returned (.int .i64 (occN F m : Nat)) ∧ w' = w := by
  go_enter Try.func14, Try.ntmps14
  go_wp2
  go_loop [3, 4] (fun z i => ∃ k : Nat, k ≤ m ∧ i = .int .i64 k ∧ z = .int .i64 (occN F k : Nat)) (fun _ i => m - (intOf i).toNat)
  case atStart => exact ⟨0, Nat.zero_le _, rfl, rfl⟩
  case round =>
    obtain ⟨k, hk, rfl, rfl⟩ := hrel
    have hl := occN_le F k
    by_cases hlt : k < m
    · obtain ⟨b, off, rfl, -, -, hc⟩ := hO (by omega)
      replace hc := hc k hlt
      have hs : occN F (k + 1) = occN F k + (if 0 < F k then 1 else 0) := rfl
      obtain ⟨x, hx⟩ : ∃ x, F k = x := ⟨_, rfl⟩
      rw [hx] at hc hs
      obtain ⟨q, hq⟩ : ∃ q, occN F k = q := ⟨_, rfl⟩
      rw [hq] at hs hl
      rw [hq]
      have HS : Hid (occN F (k + 1) = q + (if 0 < x then 1 else 0)) := hs
      clear hx hs hq
      by_cases hx : 0 < x
      · have hx' : (x : Int) > 0 := by omega
        go_wp2
        go_round
        case rel => exact ⟨k + 1, by omega, by go_num, by rw [HS.out, if_pos hx]; go_num⟩
        case measure => simp [intOf]; omega
      · have hx' : ¬ (x : Int) > 0 := by omega
        go_wp2
        go_round
        case rel => exact ⟨k + 1, by omega, by go_num, by rw [HS.out, if_neg hx]; go_num⟩
        case measure => simp [intOf]; omega
    · obtain rfl : k = m := by omega
      go_wp2
      go_ret
      exact ⟨rfl, rfl⟩

theorem bytes6 {a0 a1 : Option Addr} {n0 c0 n1 c1 : Nat} {x y : Int} {w : World} (h0 : n0 ≤ 9223372036854775807) (h1 : n1 ≤ 9223372036854775807) :
    Calls Try.prog 20 #[.slice a0 n0 c0, .slice a1 n1 c1, .int .i64 x, .int .u32 y] w fun e w' => e = .returned (.bool (decide (n0 + n1 ≤ 1048576))) ∧ w' = w := by
  by_cases hs : n0 + n1 ≤ 1048576
  · rw [decide_eq_true hs]
    go_enter Try.func20, Try.ntmps20
    go_wp2
    go_ret
    exact ⟨rfl, rfl⟩
  · rw [decide_eq_false hs]
    by_cases h2 : n0 ≤ 1048576
    · by_cases h3 : n1 ≤ 1048576
      · have hz : ¬ (n0 : Int) + (n1 : Int) ≤ 1048576 := by omega
        have hz3 : (n1 : Int) ≤ 1048576 := by omega
        have hz2 : (n0 : Int) ≤ 1048576 := by omega
        go_enter Try.func20, Try.ntmps20
        go_wp2
        go_ret
        exact ⟨rfl, rfl⟩
      · have hz3 : ¬ (n1 : Int) ≤ 1048576 := by omega
        have hz2 : (n0 : Int) ≤ 1048576 := by omega
        go_enter Try.func20, Try.ntmps20
        go_wp2
        go_ret
        exact ⟨rfl, rfl⟩
    · have hz2 : ¬ (n0 : Int) ≤ 1048576 := by omega
      go_enter Try.func20, Try.ntmps20
      go_wp2
      go_ret
      exact ⟨rfl, rfl⟩
end Go.Proofs.Qxb6617947a
