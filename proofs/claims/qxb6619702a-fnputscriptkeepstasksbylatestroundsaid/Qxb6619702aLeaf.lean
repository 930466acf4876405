import Derived.Test.Qxb6619702aProg
import Derived.Test.Qxb6619702aMem
import Derived.Deep.QuietTactic
import Derived.BigQuiet
/-! Walks of the small functions. -/
namespace Go.Proofs.Qxb6619702a
open Go.RowKit

/-- The call hands back some bool. -/
def RetBool (e : Ending) : Prop := ∃ z, e = .returned (.bool z)
theorem RetBool.mk (z : Bool) : RetBool (.returned (.bool z)) := ⟨z, rfl⟩

set_option maxHeartbeats 400000 in
theorem addStrings_any (t : Int) (ao : Option Addr) (n c lo hi : Nat) (F : Nat → ByteArray) (w : World) (hn : n ≤ 9223372036854775807)
    (h1 : SlF Value.string w lo hi ao n F) :
    Calls Try.prog 8 #[.int .i64 t, .slice ao n c] w fun e w' => (∃ z, e = .returned (.int .i64 z)) ∧ w' = w := by
  go_enter Try.func8, Try.ntmps8
  go_wp2
  go_loop [0, 9] (fun z i => ∃ (k : Nat) (zz : Int), k ≤ n ∧ i = .int .i64 k ∧ z = .int .i64 zz) (fun _ i => n - (intOf i).toNat)
  case atStart => exact ⟨0, _, Nat.zero_le _, rfl, rfl⟩
  case round =>
    obtain ⟨k, zz, hk, rfl, rfl⟩ := hrel
    by_cases hlt : k < n
    · obtain ⟨b, off, rfl, -, -, hc⟩ := h1 (by omega)
      replace hc := hc k hlt
      go_wp2
      · go_ret
        exact ⟨⟨_, rfl⟩, rfl⟩
      · go_round
        case rel => exact ⟨k + 1, _, by omega, by go_num, rfl⟩
        case measure => simp [intOf]; omega
    · go_wp2
      go_ret
      exact ⟨⟨_, rfl⟩, rfl⟩

set_option maxHeartbeats 1000000 in
theorem bytesPut_any (ao a1 a2 a3 a4 : Option Addr) (n c n1 c1 n2 c2 n3 c3 n4 c4 lo hi : Nat) (F : Nat → ByteArray) (i t : Int) (id pr : ByteArray) (w : World)
    (hn : n ≤ 9223372036854775807) (h1 : SlF Value.string w lo hi ao n F) :
    Calls Try.prog 25 #[.slice ao n c, .slice a1 n1 c1, .slice a2 n2 c2, .slice a3 n3 c3, .slice a4 n4 c4, .int .i64 i, .string id, .int .i64 t, .string pr] w fun e w' => RetBool e ∧ w' = w := by
  go_enter Try.func25, Try.ntmps25
  go_wp2
  · go_ret; exact ⟨RetBool.mk _, rfl⟩
  go_loop [19, 20] (fun z i => ∃ (k : Nat) (zz : Int), k ≤ n ∧ i = .int .i64 k ∧ z = .int .i64 zz) (fun _ i => n - (intOf i).toNat)
  case atStart => exact ⟨0, _, Nat.zero_le _, rfl, rfl⟩
  case round =>
    obtain ⟨k, zz, hk, rfl, rfl⟩ := hrel
    by_cases hlt : k < n
    · obtain ⟨b, off, rfl, -, -, hc⟩ := h1 (by omega)
      replace hc := hc k hlt
      go_wp2
      · go_ret
        exact ⟨RetBool.mk _, rfl⟩
      · go_ret
        exact ⟨RetBool.mk _, rfl⟩
      · go_round
        case rel => exact ⟨k + 1, _, by omega, by go_num, rfl⟩
        case measure => simp [intOf]; omega
    · go_wp2
      all_goals (go_ret; exact ⟨RetBool.mk _, rfl⟩)

set_option maxHeartbeats 1000000 in
theorem bytesScript_any (ao a1 a2 a3 a4 a5 : Option Addr) (n c n1 c1 n2 c2 n3 c3 n4 c4 n5 c5 lo hi : Nat) (F G : Nat → ByteArray) (w : World)
    (hn : n ≤ 9223372036854775807) (hn5 : n5 ≤ 9223372036854775807) (h1 : SlF Value.string w lo hi ao n F) (h5 : SlF Value.string w lo hi a5 n5 G) :
    Calls Try.prog 12 #[.slice ao n c, .slice a1 n1 c1, .slice a2 n2 c2, .slice a3 n3 c3, .slice a4 n4 c4, .slice a5 n5 c5] w fun e w' => RetBool e ∧ w' = w := by
  go_enter Try.func12, Try.ntmps12
  go_wp2
  · go_ret; exact ⟨RetBool.mk _, rfl⟩
  go_loop [13, 14] (fun z i => ∃ (k : Nat) (zz : Int), k ≤ n ∧ i = .int .i64 k ∧ z = .int .i64 zz) (fun _ i => n - (intOf i).toNat)
  case atStart => exact ⟨0, _, Nat.zero_le _, rfl, rfl⟩
  case round =>
    obtain ⟨k, zz, hk, rfl, rfl⟩ := hrel
    by_cases hlt : k < n
    · obtain ⟨b, off, rfl, -, -, hc⟩ := h1 (by omega)
      replace hc := hc k hlt
      clear h5
      go_wp2
      · go_ret; exact ⟨RetBool.mk _, rfl⟩
      · go_ret; exact ⟨RetBool.mk _, rfl⟩
      · go_round
        case rel => exact ⟨k + 1, _, by omega, by go_num, rfl⟩
        case measure => simp [intOf]; omega
    · go_wp2
      all_goals try (go_ret; exact ⟨RetBool.mk _, rfl⟩)
      go_loop [13, 15] (fun z i => ∃ (k : Nat) (zz : Int), k ≤ n5 ∧ i = .int .i64 k ∧ z = .int .i64 zz) (fun _ i => n5 - (intOf i).toNat)
      case atStart => exact ⟨0, _, Nat.zero_le _, rfl, rfl⟩
      case round =>
        obtain ⟨k, zz, hk, rfl, rfl⟩ := hrel
        by_cases hlt : k < n5
        · obtain ⟨b, off, rfl, -, -, hc⟩ := h5 (by omega)
          replace hc := hc k hlt
          go_wp2
          · go_ret; exact ⟨RetBool.mk _, rfl⟩
          · go_ret; exact ⟨RetBool.mk _, rfl⟩
          · go_round
            case rel => exact ⟨k + 1, _, by omega, by go_num, rfl⟩
            case measure => simp [intOf]; omega
        · go_wp2
          go_ret; exact ⟨RetBool.mk _, rfl⟩

set_option maxHeartbeats 1000000 in
/-- Both of one length: do they hold the same numbers? -/
theorem equalInts_any (a1 a2 : Option Addr) (n1 c1 n2 c2 lo1 hi1 lo2 hi2 : Nat) (F G : Nat → Int) (w : World) (hn : n1 ≤ 281474976710656) (h12 : n1 = n2)
    (h1 : SlF encI w lo1 hi1 a1 n1 F) (h2 : SlF encI w lo2 hi2 a2 n2 G) (heq : ∀ j, j < n1 → F j = G j) :
    Calls Try.prog 26 #[.slice a1 n1 c1, .slice a2 n2 c2] w fun e w' => e = .returned (.bool true) ∧ ∃ n, w' = w.drewN n := by
  subst h12
  go_enter Try.func26, Try.ntmps26
  go_wp2
  go_loopw [13] (fun i wr => ∃ (k nq : Nat), k ≤ n1 ∧ i = .int .i64 k ∧ wr = w.drewN nq) (fun i _ => n1 - (intOf i).toNat)
  case atStart => exact ⟨0, 0, Nat.zero_le _, rfl, rfl⟩
  case round =>
    obtain ⟨k, nq, hk, rfl, rfl⟩ := hrel
    by_cases hlt : k < n1
    · obtain ⟨b, off, rfl, -, -, hc⟩ := h1 (by omega)
      obtain ⟨b2, off2, rfl, -, -, hc2⟩ := h2 (by omega)
      replace hc := hc k hlt
      replace hc2 := hc2 k hlt
      have he := heq k hlt
      rw [← he] at hc2
      clear heq he h1 h2
      go_wp2
      go_quiet (fail)
      go_wp2
      refine ⟨?rel, ?measure⟩
      case rel => exact ⟨k + 1, _, by omega, by go_num, rfl⟩
      case measure => simp [intOf]; omega
    · go_wp2
      go_ret; exact ⟨rfl, _, rfl⟩

theorem Try.info3 : (Try.prog.info? 3).map (fun i => (i.zero, i.size, i.bytes)) = some (some (.int .i64 0), 1, 8) := by kernel_rfl
theorem Try.info9 : (Try.prog.info? 9).map (fun i => (i.zero, i.size, i.bytes)) = some (some (.string ByteArray.empty), 1, 16) := by kernel_rfl
theorem Try.info4 : (Try.prog.info? 4).map (fun i => (i.zero, i.size, i.bytes)) = some (some (.bool false), 1, 1) := by kernel_rfl
theorem Try.size3 : (Try.prog.info? 3).map (·.size) = some 1 := by kernel_rfl
theorem Try.size9 : (Try.prog.info? 9).map (·.size) = some 1 := by kernel_rfl

/-- A copy: nil of nil; else a new block. -/
def Cloned {α : Type} (enc : α → Value) (w : World) (n : Nat) (F : Nat → α) (e : Ending) (w' : World) : Prop :=
  ∃ ao c, e = .returned (.slice ao n c) ∧ (n ≤ c ∧ (ao = none → n = 0 ∧ c = 0)) ∧ Keeps Nob w w' ∧ SlF enc w' w.heap.size w'.heap.size ao n F

theorem cloneInts_nil (w : World) : 
    Calls Try.prog 14 #[.slice none 0 0] w fun e w' => e = .returned (.slice none 0 0) ∧ w' = w := by
  have hnil := fun w => Lib.run_eql_slice_nil (P := Try.prog) w 31 3 none 0 0 0 0 Try.underlying31
  go_enter Try.func14, Try.ntmps14
  go_wp2
  go_ret
  exact ⟨rfl, rfl⟩
set_option maxHeartbeats 1000000 in
theorem cloneInts_some (ad : Addr) (n c : Nat) (w : World) (hn : n ≤ 281474976710656 / 8) (xs : List Value) (hl : xs.length = n) (h1 : ∀ j v, xs[j]? = some v → w.cell? (ad.add j) = some v) (hone : ∀ v ∈ xs, v.oneCell' = true): 
    Calls Try.prog 14 #[.slice (some ad) n c] w fun e w' => e = .returned (.slice (some ⟨w.heap.size, 0, none⟩) n n) ∧ Keeps Nob w w' ∧ Blk w' w.heap.size 3 xs := by
  have hnil := fun w => Lib.run_eql_slice_nil (P := Try.prog) w 31 3 (some ad) n c 0 0 Try.underlying31
  go_enter Try.func14, Try.ntmps14
  go_wp2_with (at_make; refine wpList_make_blk _ rfl _ _ 31 rfl 3 (.int .i64 0) 8 rfl Try.underlying31 Try.info3 _ _ n rfl rfl (by omega) (by unfold maxLen; omega) ?_)
  intro w1 hB hK
  go_wp2_with (refine wpList_copy_blk rfl (.tmp 9) (.tmp 10) 31 31 rfl 3 Try.underlying31 Try.size3 w.heap.size n n ad c rfl rfl _ 3 hB (by simp) xs hl ?_ hone ?_)
  · intro j v hj
    rw [hK.cell (World.block_lt_of_cell? w (ad.add j) (h1 j v hj)) (fun h => h)]; exact h1 j v hj
  · intro w2 hB2 hK2 hsz hoth
    go_wp2
    go_ret
    exact ⟨rfl, ⟨(hK2 (fun k => k = w.heap.size) rfl).os.trans hK.os, (hK2 (fun k => k = w.heap.size) rfl).tape.trans hK.tape, (hK2 (fun k => k = w.heap.size) rfl).output.trans hK.output, by rw [hsz]; exact hK.size, fun k hk hs => (hoth k (by omega)).trans (hK.block k hk hs)⟩, hB2⟩
theorem cloneInts_any (ao : Option Addr) (n c lo hi : Nat) (F : Nat → Int) (w : World) (hnil : ao = none → n = 0 ∧ c = 0) (hn : n ≤ 281474976710656 / 8) (h1 : SlF encI w lo hi ao n F) : 
    Calls Try.prog 14 #[.slice ao n c] w (Cloned encI w n F) := by
  cases ao with
  | none =>
    obtain ⟨rfl, rfl⟩ := hnil rfl
    refine (cloneInts_nil w).mono ?_
    rintro e w' ⟨rfl, rfl⟩
    exact ⟨_, _, rfl, ⟨Nat.le_refl _, fun _ => ⟨rfl, rfl⟩⟩, Keeps.refl _ _, fun h => absurd h (by omega)⟩
  | some ad =>
    refine (cloneInts_some ad n c w hn ((List.range n).map fun j => encI (F j)) (by simp) ?_ ?_).mono ?_
    · intro j v hj
      rw [List.getElem?_map, Option.map_eq_some_iff] at hj
      obtain ⟨j', hj', rfl⟩ := hj
      obtain ⟨hjn, rfl⟩ := List.getElem?_eq_some_iff.1 hj'
      rw [List.length_range] at hjn
      obtain ⟨b, off, h2, -, -, h3⟩ := h1 (by omega)
      cases h2
      rw [List.getElem_range]
      rw [Addr.add_lit]
      exact h3 j hjn
    · intro v hv
      obtain ⟨j, _, rfl⟩ := List.mem_map.1 hv
      rfl
    · rintro e w' ⟨rfl, hK, hB⟩
      refine ⟨_, _, rfl, ⟨Nat.le_refl _, fun h => by cases h⟩, hK, fun hn0 => ⟨_, 0, rfl, Nat.le_refl _, hB.lt, fun j hj => ?_⟩⟩
      rw [hB.cell]
      simp [hj]
theorem cloneStrings_nil (w : World) : 
    Calls Try.prog 13 #[.slice none 0 0] w fun e w' => e = .returned (.slice none 0 0) ∧ w' = w := by
  have hnil := fun w => Lib.run_eql_slice_nil (P := Try.prog) w 22 9 none 0 0 0 0 Try.underlying22
  go_enter Try.func13, Try.ntmps13
  go_wp2
  go_ret
  exact ⟨rfl, rfl⟩
set_option maxHeartbeats 1000000 in
theorem cloneStrings_some (ad : Addr) (n c : Nat) (w : World) (hn : n ≤ 281474976710656 / 16) (xs : List Value) (hl : xs.length = n) (h1 : ∀ j v, xs[j]? = some v → w.cell? (ad.add j) = some v) (hone : ∀ v ∈ xs, v.oneCell' = true): 
    Calls Try.prog 13 #[.slice (some ad) n c] w fun e w' => e = .returned (.slice (some ⟨w.heap.size, 0, none⟩) n n) ∧ Keeps Nob w w' ∧ Blk w' w.heap.size 9 xs := by
  have hnil := fun w => Lib.run_eql_slice_nil (P := Try.prog) w 22 9 (some ad) n c 0 0 Try.underlying22
  go_enter Try.func13, Try.ntmps13
  go_wp2_with (at_make; refine wpList_make_blk _ rfl _ _ 22 rfl 9 (.string ByteArray.empty) 16 rfl Try.underlying22 Try.info9 _ _ n rfl rfl (by omega) (by unfold maxLen; omega) ?_)
  intro w1 hB hK
  go_wp2_with (refine wpList_copy_blk rfl (.tmp 9) (.tmp 10) 22 22 rfl 9 Try.underlying22 Try.size9 w.heap.size n n ad c rfl rfl _ 9 hB (by simp) xs hl ?_ hone ?_)
  · intro j v hj
    rw [hK.cell (World.block_lt_of_cell? w (ad.add j) (h1 j v hj)) (fun h => h)]; exact h1 j v hj
  · intro w2 hB2 hK2 hsz hoth
    go_wp2
    go_ret
    exact ⟨rfl, ⟨(hK2 (fun k => k = w.heap.size) rfl).os.trans hK.os, (hK2 (fun k => k = w.heap.size) rfl).tape.trans hK.tape, (hK2 (fun k => k = w.heap.size) rfl).output.trans hK.output, by rw [hsz]; exact hK.size, fun k hk hs => (hoth k (by omega)).trans (hK.block k hk hs)⟩, hB2⟩
theorem cloneStrings_any (ao : Option Addr) (n c lo hi : Nat) (F : Nat → ByteArray) (w : World) (hnil : ao = none → n = 0 ∧ c = 0) (hn : n ≤ 281474976710656 / 16) (h1 : SlF Value.string w lo hi ao n F) : 
    Calls Try.prog 13 #[.slice ao n c] w (Cloned Value.string w n F) := by
  cases ao with
  | none =>
    obtain ⟨rfl, rfl⟩ := hnil rfl
    refine (cloneStrings_nil w).mono ?_
    rintro e w' ⟨rfl, rfl⟩
    exact ⟨_, _, rfl, ⟨Nat.le_refl _, fun _ => ⟨rfl, rfl⟩⟩, Keeps.refl _ _, fun h => absurd h (by omega)⟩
  | some ad =>
    refine (cloneStrings_some ad n c w hn ((List.range n).map fun j => Value.string (F j)) (by simp) ?_ ?_).mono ?_
    · intro j v hj
      rw [List.getElem?_map, Option.map_eq_some_iff] at hj
      obtain ⟨j', hj', rfl⟩ := hj
      obtain ⟨hjn, rfl⟩ := List.getElem?_eq_some_iff.1 hj'
      rw [List.length_range] at hjn
      obtain ⟨b, off, h2, -, -, h3⟩ := h1 (by omega)
      cases h2
      rw [List.getElem_range]
      rw [Addr.add_lit]
      exact h3 j hjn
    · intro v hv
      obtain ⟨j, _, rfl⟩ := List.mem_map.1 hv
      rfl
    · rintro e w' ⟨rfl, hK, hB⟩
      refine ⟨_, _, rfl, ⟨Nat.le_refl _, fun h => by cases h⟩, hK, fun hn0 => ⟨_, 0, rfl, Nat.le_refl _, hB.lt, fun j hj => ?_⟩⟩
      rw [hB.cell]
      simp [hj]

end Go.Proofs.Qxb6619702a
