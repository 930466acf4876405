import Derived.Test.Qxb6617947aCb
/-! zzRankMonotone. -/
namespace Go.Proofs.Qxb6617947a
open Go.RowKit
set_option linter.unusedVariables false
set_option linter.unusedSimpArgs false

set_option maxHeartbeats 1000000 in
theorem rank_any {a0 a1 : Option Addr} {m c0 l c1 lo hi lo' hi' : Nat} {F O : Nat → Nat} {w : World} (hF : SlF encU32 w lo hi a0 m F) (hO : SlF encU8 w lo' hi' a1 l O) (hm : m ≤ 512) (hml : m ≤ l) (hl : l ≤ 1048576)
    (hR : ∀ s t, s < m → t < m → 0 < F s → 0 < F t → (F s < F t ∨ (F s = F t ∧ s < t)) → O t ≤ O s) :
    Calls Try.prog 17 #[.slice a0 m c0, .slice a1 l c1] w fun e w' => e = .returned (.bool true) ∧ Keeps Nob w w' := by
  have HR : Hid (∀ s t, s < m → t < m → 0 < F s → 0 < F t → (F s < F t ∨ (F s = F t ∧ s < t)) → O t ≤ O s) := hR
  clear hR
  go_enter Try.func17, Try.ntmps17
  go_wp2
  go_loopw [5] (fun v5 wr => ∃ s : Nat, s ≤ m ∧ v5 = .int .i64 s ∧ Keeps Nob w wr) (fun v5 _ => m - (intOf v5).toNat)
  case atStart => exact ⟨0, Nat.zero_le _, rfl, Keeps.refl _ _⟩
  case round =>
    obtain ⟨s, hs, rfl, hKs⟩ := hrel
    by_cases hlt : s < m
    · obtain ⟨bf, of, rfl, -, hbf, hc⟩ := hF (by omega)
      obtain ⟨bo, oo, rfl, -, hbo, hco⟩ := hO (by omega)
      have hcK : ∀ {wr : World}, Keeps Nob w wr → ∀ j, j < m → wr.cell? ⟨bf, of + j, none⟩ = some (.int .u32 (F j : Nat)) := fun hk j hj => (hk.cell (p := ⟨bf, of + j, none⟩) (World.block_lt_of_cell? w _ (hc j hj)) (fun h => h)).trans (hc j hj)
      have hoK : ∀ {wr : World}, Keeps Nob w wr → ∀ j, j < l → wr.cell? ⟨bo, oo + j, none⟩ = some (.int .u8 (O j : Nat)) := fun hk j hj => (hk.cell (p := ⟨bo, oo + j, none⟩) (World.block_lt_of_cell? w _ (hco j hj)) (fun h => h)).trans (hco j hj)
      have HCK : Hid (∀ {wr : World}, Keeps Nob w wr → ∀ j, j < m → wr.cell? ⟨bf, of + j, none⟩ = some (.int .u32 (F j : Nat))) := hcK
      have HOK : Hid (∀ {wr : World}, Keeps Nob w wr → ∀ j, j < l → wr.cell? ⟨bo, oo + j, none⟩ = some (.int .u8 (O j : Nat))) := hoK
      have hcs := hcK hKs s hlt
      clear hc hco hcK hoK
      obtain ⟨fs, hfs⟩ : ∃ fs, F s = fs := ⟨_, rfl⟩
      have HFS : Hid (F s = fs) := hfs
      rw [hfs] at hcs
      clear hfs
      have hs0 : (0 : Int) ≤ (s : Int) := by omega
      have hs1 : (s : Int) < (m : Int) := by omega
      have hs2 : (s : Int) < (l : Int) := by omega
      obtain ⟨wi, rfl⟩ : ∃ wi, wi = wr := ⟨wr, rfl⟩
      by_cases hz : fs = 0
      · subst hz
        go_wp2
        go_roundw
        case rel => exact ⟨s + 1, by omega, by go_num, hKs⟩
        case measure => simp [intOf]; omega
      · have hzb : ((fs : Int) == 0) = false := by simp; omega
        go_wp2
        go_loopw [6] (fun v6 wr2 => ∃ t : Nat, t ≤ m ∧ v6 = .int .i64 t ∧ Keeps Nob w wr2) (fun v6 _ => m - (intOf v6).toNat)
        case atStart => exact ⟨0, Nat.zero_le _, rfl, hKs⟩
        case round =>
          obtain ⟨t, ht, rfl, hKt⟩ := hrel
          by_cases htm : t < m
          · have hct := HCK.out hKt t htm
            have hcs2 := HCK.out hKt s hlt
            have hos := HOK.out hKt s (by omega)
            have hot := HOK.out hKt t (by omega)
            have HRst := HR.out s t hlt htm
            obtain ⟨ft, hft⟩ : ∃ ft, F t = ft := ⟨_, rfl⟩
            obtain ⟨o1, ho1⟩ : ∃ o1, O s = o1 := ⟨_, rfl⟩
            obtain ⟨o2, ho2⟩ : ∃ o2, O t = o2 := ⟨_, rfl⟩
            rw [hft, HFS.out, ho1, ho2] at HRst
            rw [hft] at hct
            rw [HFS.out] at hcs2
            rw [ho1] at hos
            rw [ho2] at hot
            have HRS : Hid (0 < fs → 0 < ft → (fs < ft ∨ (fs = ft ∧ s < t)) → o2 ≤ o1) := HRst
            have ht0 : (0 : Int) ≤ (t : Int) := by omega
            have ht1 : (t : Int) < (m : Int) := by omega
            have ht2 : (t : Int) < (l : Int) := by omega
            clear HRst hft ho1 ho2 hcs
            by_cases hts : t = s
            · subst hts
              have hb1 : ((t : Int) == (t : Int)) = true := by simp
              go_wp2
              go_roundw
              case rel => exact ⟨t + 1, by omega, by go_num, hKt⟩
              case measure => simp [intOf]; omega
            · have hb1 : ((t : Int) == (s : Int)) = false := by simp; omega
              by_cases hf0 : ft = 0
              · subst hf0
                go_wp2
                go_roundw
                case rel => exact ⟨t + 1, by omega, by go_num, hKt⟩
                case measure => simp [intOf]; omega
              · have hb2 : ((ft : Int) == 0) = false := by simp; omega
                rcases Nat.lt_trichotomy fs ft with h3 | h3 | h3
                · have h3' : (fs : Int) < (ft : Int) := by omega
                  have h4 := HRS.out (by omega) (by omega) (.inl h3)
                  have h4' : ¬ (o1 : Int) < (o2 : Int) := by omega
                  go_wp2
                  go_quiet (fail)
                  go_wp2
                  go_quiet (fail)
                  go_wp2
                  refine ⟨?rel, ?measure⟩
                  case rel => exact ⟨t + 1, by omega, by go_num, hKt.drewN _⟩
                  case measure => simp [intOf]; omega
                · subst h3
                  have h3' : ¬ (fs : Int) < (fs : Int) := by omega
                  have h3b : ((fs : Int) == (fs : Int)) = true := by simp
                  by_cases h5 : s < t
                  · have h5' : (s : Int) < (t : Int) := by omega
                    have h4 := HRS.out (by omega) (by omega) (.inr ⟨rfl, h5⟩)
                    have h4' : ¬ (o1 : Int) < (o2 : Int) := by omega
                    go_wp2
                    go_quiet (fail)
                    go_wp2
                    go_quiet (fail)
                    go_wp2
                    refine ⟨?rel, ?measure⟩
                    case rel => exact ⟨t + 1, by omega, by go_num, hKt.drewN _⟩
                    case measure => simp [intOf]; omega
                  · have h5' : ¬ (s : Int) < (t : Int) := by omega
                    go_wp2
                    go_quiet (fail)
                    go_wp2
                    go_quiet (fail)
                    go_wp2
                    refine ⟨?rel, ?measure⟩
                    case rel => exact ⟨t + 1, by omega, by go_num, hKt.drewN _⟩
                    case measure => simp [intOf]; omega
                · have h3' : ¬ (fs : Int) < (ft : Int) := by omega
                  have h3n : ¬ fs < ft := by omega
                  have h3e : ¬ fs = ft := by omega
                  have h3b : ((fs : Int) == (ft : Int)) = false := by simp; omega
                  go_wp2
                  go_quiet (fail)
                  go_wp2
                  go_quiet (fail)
                  go_wp2
                  refine ⟨?rel, ?measure⟩
                  case rel => exact ⟨t + 1, by omega, by go_num, hKt.drewN _⟩
                  case measure => simp [intOf]; omega
          · obtain rfl : t = m := by omega
            go_wp2
            refine ⟨?rel, ?measure⟩
            case rel => exact ⟨s + 1, by omega, by go_num, hKt⟩
            case measure => simp [intOf]; omega
    · obtain rfl : s = m := by omega
      go_wp2
      go_ret
      exact ⟨rfl, hKs⟩

end Go.Proofs.Qxb6617947a
