import Derived.Test.Qxb6617947aSm
/-! zzCodeComplete. -/
namespace Go.Proofs.Qxb6617947a
open Go.RowKit

/-- A complete code, as zzCodeComplete asks it. -/
structure Complete (F O : Nat → Nat) (m K : Nat) : Prop where
  zero : ∀ s, s < m → F s = 0 → O s = 0
  one : ∀ s, s < m → 0 < F s → 1 ≤ O s ∧ O s ≤ K
  sum : psum (fun i => if 0 < F i then 2 ^ (K - O i) else 0) m = 2 ^ K

theorem wrap2 {d : Nat} (h : 2 ^ d ≤ 1048576) : IntKind.u64.wrap ((2 : Int) ^ d) = ((2 ^ d : Nat) : Int) := by
  rw [show ((2 : Int) ^ d) = ((2 ^ d : Nat) : Int) by push_cast; rfl, IntKind.wrap_u64]
  generalize 2 ^ d = p at h ⊢
  omega
set_option maxHeartbeats 2000000 in
theorem complete_any {a0 a1 : Option Addr} {m c0 l c1 K lo hi lo' hi' : Nat} {F O : Nat → Nat} {w : World} (hF : SlF encU32 w lo hi a0 m F) (hO : SlF encU8 w lo' hi' a1 l O) (hm : m ≤ 512) (hml : m ≤ l) (hl : l ≤ 1048576) (hK : K ≤ 20)
    (hC : Complete F O m K) : Calls Try.prog 16 #[.slice a0 m c0, .slice a1 l c1, .int .i64 K] w fun e w' => e = .returned (.bool true) ∧ w' = w := by
  have HC : Hid (Complete F O m K) := hC
  clear hC
  go_enter Try.func16, Try.ntmps16
  go_wp2
  go_loop [7, 8] (fun z i => ∃ k : Nat, k ≤ m ∧ i = .int .i64 k ∧ z = .int .u64 (psum (fun i => if 0 < F i then 2 ^ (K - O i) else 0) k : Nat)) (fun _ i => m - (intOf i).toNat)
  case atStart => exact ⟨0, Nat.zero_le _, rfl, rfl⟩
  case round =>
    obtain ⟨k, hk, rfl, rfl⟩ := hrel
    have hle := Nat.le_trans (psum_mono (f := fun i => if 0 < F i then 2 ^ (K - O i) else 0) hk) (Nat.le_of_eq HC.out.sum)
    have hp : 2 ^ K ≤ 1048576 := Nat.pow_le_pow_right (n := 2) (by decide) hK
    by_cases hlt : k < m
    · have hs : psum (fun i => if 0 < F i then 2 ^ (K - O i) else 0) (k + 1) = psum (fun i => if 0 < F i then 2 ^ (K - O i) else 0) k + (if 0 < F k then 2 ^ (K - O k) else 0) := rfl
      obtain ⟨b, off, rfl, -, -, hc⟩ := hF (by omega)
      obtain ⟨b2, off2, rfl, -, -, hc2⟩ := hO (by omega)
      replace hc := hc k hlt
      replace hc2 := hc2 k (by omega)
      have h0 := HC.out.zero k hlt
      have h1 := HC.out.one k hlt
      obtain ⟨x, hx⟩ : ∃ x, F k = x := ⟨_, rfl⟩
      obtain ⟨y, hy⟩ : ∃ y, O k = y := ⟨_, rfl⟩
      rw [hx, hy] at hs h0 h1
      rw [hx] at hc
      rw [hy] at hc2
      obtain ⟨q, hq⟩ : ∃ q, psum (fun i => if 0 < F i then 2 ^ (K - O i) else 0) k = q := ⟨_, rfl⟩
      rw [hq] at hs hle
      rw [hq]
      have HS : Hid (psum (fun i => if 0 < F i then 2 ^ (K - O i) else 0) (k + 1) = q + (if 0 < x then 2 ^ (K - y) else 0)) := hs
      clear hx hy hs hq
      by_cases hx : x = 0
      · have hy0 := h0 hx
        subst hx hy0
        clear h0 h1
        go_wp2
        go_round
        case rel => exact ⟨k + 1, by omega, by go_num, by rw [HS.out, if_neg (by omega)]; go_num⟩
        case measure => simp [intOf]; omega
      · obtain ⟨g1, g2⟩ := h1 (by omega)
        have hx' : ((x : Int) == 0) = false := by simp; omega
        obtain ⟨d, hd⟩ : ∃ d, K = y + d := ⟨K - y, by omega⟩
        clear h0 h1
        have hy1 : ¬ (y : Int) < 1 := by omega
        have hy2 : ¬ (y : Int) > (K : Int) := by omega
        have hdd : (K : Int) - (y : Int) = (d : Int) := by omega
        have hpd : 2 ^ d ≤ 1048576 := Nat.pow_le_pow_right (n := 2) (i := d) (j := 20) (by decide) (by omega)
        have hpd2 : 2 ^ d ≤ 2 ^ K := Nat.pow_le_pow_right (n := 2) (by decide) (by omega)
        have HP : Hid (2 ^ d ≤ 1048576) := hpd
        clear hpd hpd2
        go_wp2
        refine ⟨?rel, ?measure⟩
        case rel =>
          refine ⟨k + 1, by omega, by go_num, ?_⟩
          rw [HS.out, if_pos (by omega), show K - y = d by omega, wrap2 HP.out]
          congr 1
          have h7 := HP.out
          rw [IntKind.wrap_u64]
          generalize 2 ^ d = p at h7 ⊢
          omega
        case measure => simp [intOf]; omega
    · obtain rfl : k = m := by omega
      have HP : Hid (2 ^ K ≤ 1048576) := hp
      clear hp hle
      go_wp2
      go_ret
      refine ⟨?_, rfl⟩
      show Ending.returned (.bool (((psum (fun i => if 0 < F i then 2 ^ (K - O i) else 0) k : Nat) : Int) == IntKind.u64.wrap (2 ^ K))) = _
      rw [HC.out.sum, wrap2 HP.out]
      simp
end Go.Proofs.Qxb6617947a
