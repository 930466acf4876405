import Derived.Test.Qxb6617355aBit
/-! What a tally holds. -/
namespace Go.Proofs.Qxb6617355a
open Go.RowKit

def pos (N next k : Nat) : Nat := if N = 1000 then (next + k) % 1000 else k

theorem zzhBit_int (B : Nat → Nat) (z : Int) (p : Nat) (w : World) (hz : z = (p : Int)) (hp : p < 1024) (hB : ∀ i, B i < 18446744073709551616) :
    Calls Try.prog 15 #[aggB B, .int .i64 z] w fun e w' => e = .returned (.bool (bit B p)) ∧ Keeps Nob w w' := by
  subst hz
  exact zzhBit_any B p w hp hB

theorem zzhHeld_any (B : Nat → Nat) (N next k : Nat) (w : World) (hn : next < 1000) (hk : k < 1000) (hB : ∀ i, B i < 18446744073709551616) :
    Calls Try.prog 19 #[aggB B, .int .i64 N, .int .i64 next, .int .i64 k] w fun e w' => e = .returned (.bool (bit B (pos N next k))) ∧ Keeps Nob w w' := by
  by_cases h : N = 1000
  · have hp : pos N next k = (next + k) % 1000 := if_pos h
    rw [hp]
    have hN1 : ((N : Int) == 1000) = true := by rw [h]; decide
    clear h hp
    go_enter Try.func19, Try.ntmps19
    go_wp2_with (first | (refine wpList_load_row rfl 30 (.tmp 4) rfl w.heap.size rfl 30 _ _ _ (heap_alloc_new w (objB B)) Try.underlying30 rfl (by kernel_rfl) ?_) | (go_at_call 15; refine (zzhBit_int B _ ((next + k) % 1000) _ (by omega) (by omega) hB).mono ?_; rintro e w' ⟨rfl, hK⟩))
    go_ret
    exact ⟨rfl, ((Keeps.refl Nob w).alloc _).trans (hK.mono fun _ _ h => h)⟩
  · have hp : pos N next k = k := if_neg h
    rw [hp]
    have hN1 : ((N : Int) == 1000) = false := by simp; omega
    clear h hp
    go_enter Try.func19, Try.ntmps19
    go_wp2_with (first | (refine wpList_load_row rfl 30 (.tmp 4) rfl w.heap.size rfl 30 _ _ _ (heap_alloc_new w (objB B)) Try.underlying30 rfl (by kernel_rfl) ?_) | (go_at_call 15; refine (zzhBit_any B k _ (by omega) hB).mono ?_; rintro e w' ⟨rfl, hK⟩))
    go_ret
    exact ⟨rfl, ((Keeps.refl Nob w).alloc _).trans (hK.mono fun _ _ h => h)⟩

def held (B : Nat → Nat) (N next : Nat) (k : Nat) : List Bool := (List.range k).map fun j => bit B (pos N next j)
theorem held_succ (B : Nat → Nat) (N next k : Nat) : held B N next (k + 1) = held B N next k ++ [bit B (pos N next k)] := by simp [held, List.range_succ]
theorem held_le (B : Nat → Nat) (N next k : Nat) : (held B N next k).count true ≤ k := Nat.le_trans List.count_le_length (by simp [held])

def intOf : Value → Int | .int _ q => q | _ => 0

set_option maxHeartbeats 1000000 in
theorem zzhHeldOnes_any (B : Nat → Nat) (N next : Nat) (w : World) (hN : N ≤ 1000) (hn : next < 1000) (hB : ∀ i, B i < 18446744073709551616) :
    Calls Try.prog 13 #[aggB B, .int .i64 N, .int .i64 next] w fun e w' => e = .returned (.int .i64 ((held B N next N).count true : Nat)) ∧ Keeps Nob w w' := by
  have HB : Hid (∀ i, B i < 18446744073709551616) := hB
  clear hB
  go_enter Try.func13, Try.ntmps13
  go_wp2
  go_loopw [7, 8] (fun c i wr => ∃ k : Nat, k ≤ N ∧ i = .int .i64 k ∧ c = .int .i64 ((held B N next k).count true : Nat) ∧ Keeps Nob (w.alloc (objB B)) wr) (fun _ i _ => N - (intOf i).toNat)
  case atStart => exact ⟨0, Nat.zero_le _, rfl, rfl, Keeps.refl _ _⟩
  case round =>
    obtain ⟨k, hk, rfl, rfl, hK⟩ := hrel
    have hg : wr.heap[w.heap.size]? = some (objB B) := (hK.block _ (by simp) (fun h => h)).trans (heap_alloc_new w (objB B))
    by_cases hlt : k < N
    · have hc := held_le B N next k
      have hcs : (held B N next (k + 1)).count true = (held B N next k).count true + (if bit B (pos N next k) = true then 1 else 0) := by
        rw [held_succ, List.count_append]
        cases bit B (pos N next k) <;> rfl
      have HCS : Hid (_ = _) := hcs
      clear hcs
      obtain ⟨b, hb⟩ : ∃ b, bit B (pos N next k) = b := ⟨_, rfl⟩
      rw [hb] at HCS
      have HBt : Hid (bit B (pos N next k) = b) := hb
      clear hb
      obtain ⟨c, hcc⟩ : ∃ c, (held B N next k).count true = c := ⟨_, rfl⟩
      rw [hcc] at HCS hc
      rw [hcc]
      clear hcc
      cases b
      · go_wp2_with (first | (refine wpList_load_row rfl 30 (.tmp 3) rfl w.heap.size rfl 30 _ _ _ hg Try.underlying30 rfl (by kernel_rfl) ?_) | (go_at_call 19; refine (zzhHeld_any B N next k wr hn (by omega) HB.out).mono ?_; rintro e w' ⟨rfl, hK2⟩; rw [HBt.out]))
        have hK3 := hK.trans (hK2.mono fun _ _ h => h)
        clear hK2 hg
        refine ⟨?rel, ?measure⟩
        case rel => exact ⟨k + 1, hlt, by go_num, by rw [HCS.out]; rfl, hK3⟩
        case measure => simp [intOf]; omega
      · go_wp2_with (first | (refine wpList_load_row rfl 30 (.tmp 3) rfl w.heap.size rfl 30 _ _ _ hg Try.underlying30 rfl (by kernel_rfl) ?_) | (go_at_call 19; refine (zzhHeld_any B N next k wr hn (by omega) HB.out).mono ?_; rintro e w' ⟨rfl, hK2⟩; rw [HBt.out]))
        have hK3 := hK.trans (hK2.mono fun _ _ h => h)
        clear hK2 hg
        refine ⟨?rel, ?measure⟩
        case rel => exact ⟨k + 1, hlt, by go_num, by rw [HCS.out]; rfl, hK3⟩
        case measure => simp [intOf]; omega
    · have hkn : k = N := by omega
      subst hkn
      go_wp2
      go_ret
      exact ⟨rfl, ((Keeps.refl Nob w).alloc _).trans (hK.mono fun _ _ h => h)⟩
end Go.Proofs.Qxb6617355a
