import Derived.Test.Qxb6617355aHeld
/-! One outcome added to a tally. -/
namespace Go.Proofs.Qxb6617355a
open Go.RowKit

def upd {α : Type} (f : Nat → α) (i : Nat) (v : α) : Nat → α := fun j => if j = i then v else f j
theorem upd_same {α : Type} (f : Nat → α) (i : Nat) (v : α) : upd f i v i = v := if_pos rfl
theorem upd_other {α : Type} {f : Nat → α} {i j : Nat} {v : α} (h : j ≠ i) : upd f i v j = f j := if_neg h

def clearW (x k : Nat) : Nat := x &&& (18446744073709551615 - 2 ^ k)
def wordW (x k : Nat) (o : Bool) : Nat := if o then clearW x k ||| 2 ^ k else clearW x k
def setB (B : Nat → Nat) (p : Nat) (o : Bool) : Nat → Nat := upd B (p / 64) (wordW (B (p / 64)) (p % 64) o)

theorem pow_lt {k : Nat} (hk : k < 64) : 2 ^ k < 18446744073709551616 := by
  have : 2 ^ k < 2 ^ 64 := Nat.pow_lt_pow_right (by decide) hk
  simpa using this
theorem clearW_lt {x k : Nat} (hx : x < 18446744073709551616) : clearW x k < 18446744073709551616 := Nat.lt_of_le_of_lt Nat.and_le_left hx
theorem wordW_lt {x k : Nat} {o : Bool} (hx : x < 18446744073709551616) (hk : k < 64) : wordW x k o < 18446744073709551616 := by
  unfold wordW
  split
  · have h1 := clearW_lt (k := k) hx
    have h2 := pow_lt hk
    have := Nat.or_lt_two_pow (n := 64) (x := clearW x k) (y := 2 ^ k) (by simpa using h1) (by simpa using h2)
    simpa using this
  · exact clearW_lt hx
theorem clearW_bit {x k j : Nat} (hk : k < 64) (hj : j < 64) : (clearW x k).testBit j = (x.testBit j && decide (j ≠ k)) := by
  unfold clearW
  have e : 18446744073709551615 - 2 ^ k = 2 ^ 64 - (2 ^ k + 1) := by have := pow_lt hk; omega
  rw [Nat.testBit_and, e, Nat.testBit_two_pow_sub_succ (by have := pow_lt hk; simpa using this), Nat.testBit_two_pow]
  by_cases h : j = k
  · subst h; simp
  · have : ¬ k = j := fun e => h e.symm
    simp [h, this, hj]
theorem wordW_bit {x k j : Nat} {o : Bool} (hk : k < 64) (hj : j < 64) : (wordW x k o).testBit j = if j = k then o else x.testBit j := by
  unfold wordW
  cases o
  · simp only [Bool.false_eq_true, if_false, clearW_bit hk hj]
    by_cases h : j = k <;> simp [h]
  · simp only [if_true, Nat.testBit_or, clearW_bit hk hj, Nat.testBit_two_pow]
    by_cases h : j = k
    · simp [h]
    · have : ¬ k = j := fun e => h e.symm
      simp [h, this]
theorem setB_bit {B : Nat → Nat} {p q : Nat} {o : Bool} : bit (setB B p o) q = if q = p then o else bit B q := by
  unfold bit setB
  by_cases h : q / 64 = p / 64
  · rw [h, upd_same, wordW_bit (Nat.mod_lt _ (by decide)) (Nat.mod_lt _ (by decide))]
    by_cases h2 : q % 64 = p % 64
    · have : q = p := by omega
      simp [this]
    · have : q ≠ p := fun e => h2 (by rw [e])
      simp [h2, this]
  · have : q ≠ p := fun e => h (by rw [e])
    rw [upd_other h, if_neg this]
theorem setB_lt {B : Nat → Nat} {p : Nat} {o : Bool} (h : ∀ i, B i < 18446744073709551616) : ∀ i, setB B p o i < 18446744073709551616 := by
  intro i
  unfold setB
  by_cases e : i = p / 64
  · subst e; rw [upd_same]; exact wordW_lt (h _) (Nat.mod_lt _ (by decide))
  · rw [upd_other e]; exact h i

def cellsT (B : Nat → Nat) (N next cnt : Int) : List Value := cellsB B ++ [.int .i64 N, .int .i64 next, .int .i64 cnt]
theorem cellsT_word {B : Nat → Nat} {N next cnt : Int} {i : Nat} (hi : i < 16) : (cellsT B N next cnt)[i]? = some (.int .u64 (B i)) := by
  unfold cellsT
  rw [List.getElem?_append_left (by simpa [cellsB] using hi)]
  exact cellsB_get hi
theorem cellsT_set {B : Nat → Nat} {N next cnt : Int} {i y : Nat} (hi : i < 16) : (cellsT B N next cnt).set i (.int .u64 (y : Nat)) = cellsT (upd B i y) N next cnt := by
  have h : i = 0 ∨ i = 1 ∨ i = 2 ∨ i = 3 ∨ i = 4 ∨ i = 5 ∨ i = 6 ∨ i = 7 ∨ i = 8 ∨ i = 9 ∨ i = 10 ∨ i = 11 ∨ i = 12 ∨ i = 13 ∨ i = 14 ∨ i = 15 := by omega
  rcases h with rfl | rfl | rfl | rfl | rfl | rfl | rfl | rfl | rfl | rfl | rfl | rfl | rfl | rfl | rfl | rfl <;> rfl

theorem wrap_pow {k : Nat} (hk : k < 64) : IntKind.u64.wrap (2 ^ k) = ((2 ^ k : Nat) : Int) := by
  have h := pow_lt hk
  rw [IntKind.wrap_u64]
  have e : ((2 : Int) ^ k) = ((2 ^ k : Nat) : Int) := by simp
  rw [e]
  generalize 2 ^ k = y at h
  omega
theorem clear_eq {x k : Nat} (hx : x < 18446744073709551616) (hk : k < 64) : bits BinOp.andNot IntKind.u64 (x : Int) (IntKind.u64.wrap (2 ^ k)) = ((clearW x k : Nat) : Int) := by
  rw [wrap_pow hk]
  exact u64_andNot_nat x (2 ^ k) hx (pow_lt hk)
theorem or_eq {x k : Nat} (hx : x < 18446744073709551616) (hk : k < 64) : bits BinOp.or IntKind.u64 ((clearW x k : Nat) : Int) (IntKind.u64.wrap (2 ^ k)) = ((clearW x k ||| 2 ^ k : Nat) : Int) := by
  rw [wrap_pow hk]
  exact bits_or_u64_nat _ _ (clearW_lt hx) (pow_lt hk)
theorem and_eq {x k : Nat} (hx : x < 18446744073709551616) : bits BinOp.and IntKind.u64 ((x : Int) / 2 ^ k) 1 = if x.testBit k = true then 1 else 0 := by
  have h := bit_test (k := k) hx
  have e : (x : Int) / 2 ^ k = ((x / 2 ^ k : Nat) : Int) := by simp
  have h2 : x / 2 ^ k ≤ x := Nat.div_le_self _ _
  rw [← h, e]
  generalize x / 2 ^ k = y at h2
  rw [and_one_u64 _ (by omega) (by omega)]
  by_cases h1 : (y : Int) % 2 = 1
  · simp [h1]
  · have : (y : Int) % 2 = 0 := by omega
    simp [this]

theorem Blk.drew {w : World} {g : Nat} {T : TypeId} {xs : List Value} (h : Blk w g T xs) : Blk w.drew g T xs := h
theorem cellsT_16 {B : Nat → Nat} {N next cnt z : Int} : (cellsT B N next cnt).set 16 (.int .i64 z) = cellsT B z next cnt := rfl
theorem cellsT_17 {B : Nat → Nat} {N next cnt z : Int} : (cellsT B N next cnt).set 17 (.int .i64 z) = cellsT B N z cnt := rfl
theorem cellsT_18 {B : Nat → Nat} {N next cnt z : Int} : (cellsT B N next cnt).set 18 (.int .i64 z) = cellsT B N next z := rfl
theorem upd_twice {α : Type} (f : Nat → α) (i : Nat) (a b : α) : upd (upd f i a) i b = upd f i b := by
  funext j; unfold upd; split <;> rfl

set_option maxHeartbeats 2000000 in
theorem add_no (g : Nat) (B : Nat → Nat) (N next : Nat) (cnt : Int) (w : World) (hT : Blk w g 41 (cellsT B N next cnt)) (hN : N < 1000) (hn : next < 1000) (hB : ∀ i, B i < 18446744073709551616) :
    Calls Try.prog 18 #[.pointer (some ⟨g, 0, none⟩), .bool false] w fun e w' => e = .returned (.tuple #[]) ∧ Keeps (fun k => k = g) w w' ∧ Blk w' g 41 (cellsT (setB B next false) (N + 1) ((next + 1) % 1000) cnt) := by
  have c16 : w.cell? ⟨g, 16, none⟩ = some (.int .i64 N) := hT.cell 16
  have c17 : w.cell? ⟨g, 17, none⟩ = some (.int .i64 next) := hT.cell 17
  have c18 : w.cell? ⟨g, 18, none⟩ = some (.int .i64 cnt) := hT.cell 18
  have cw : w.cell? ⟨g, next / 64, none⟩ = some (.int .u64 (B (next / 64))) := by rw [hT.cell]; exact cellsT_word (by omega)
  have f16 := hT.free 16
  have f17 := hT.free 17
  have f18 := hT.free 18
  have fw := hT.free (next / 64)
  have hx := hB (next / 64)
  have hwi : next / 64 < 16 := by omega
  have hki : next % 64 < 64 := Nat.mod_lt _ (by decide)
  generalize hxx : B (next / 64) = x at cw hx
  have HX : Hid (B (next / 64) = x) := hxx
  clear hxx hB
  have HT : Hid (Blk w g 41 (cellsT B N next cnt)) := hT
  clear hT
  go_enter Try.func18, Try.ntmps18
  go_wp2
  go_region
  go_wp2
  go_region
  go_wp2
  go_end0
  rw [clear_eq hx hki]
  refine ⟨rfl, (((((Keeps.refl (fun k => k = g) w).setCell (p := ⟨g, 16, none⟩) rfl _).setCell (p := ⟨g, next / 64, none⟩) rfl _).setCell (p := ⟨g, 17, none⟩) rfl _).drewN 2), ?_⟩
  have h := ((HT.out.set 16 (.int .i64 ((N : Int) + 1))).set (next / 64) (.int .u64 ((clearW x (next % 64) : Nat) : Int))).set 17 (.int .i64 (((next : Int) + 1) % 1000))
  rw [cellsT_16, cellsT_set hwi, cellsT_17] at h
  have e : setB B next false = upd B (next / 64) (clearW x (next % 64)) := by unfold setB wordW; rw [HX.out]; rfl
  rw [e]
  exact h
set_option maxHeartbeats 2000000 in
theorem add_yes (g : Nat) (B : Nat → Nat) (N next : Nat) (cnt : Int) (w : World) (hT : Blk w g 41 (cellsT B N next cnt)) (hN : N < 1000) (hn : next < 1000) (hB : ∀ i, B i < 18446744073709551616) (hc : 0 ≤ cnt ∧ cnt ≤ 2000) :
    Calls Try.prog 18 #[.pointer (some ⟨g, 0, none⟩), .bool true] w fun e w' => e = .returned (.tuple #[]) ∧ Keeps (fun k => k = g) w w' ∧ Blk w' g 41 (cellsT (setB B next true) (N + 1) ((next + 1) % 1000) (cnt + 1)) := by
  have c16 : w.cell? ⟨g, 16, none⟩ = some (.int .i64 N) := hT.cell 16
  have c17 : w.cell? ⟨g, 17, none⟩ = some (.int .i64 next) := hT.cell 17
  have c18 : w.cell? ⟨g, 18, none⟩ = some (.int .i64 cnt) := hT.cell 18
  have cw : w.cell? ⟨g, next / 64, none⟩ = some (.int .u64 (B (next / 64))) := by rw [hT.cell]; exact cellsT_word (by omega)
  have f16 := hT.free 16
  have f17 := hT.free 17
  have f18 := hT.free 18
  have fw := hT.free (next / 64)
  have hx := hB (next / 64)
  have hwi : next / 64 < 16 := by omega
  have hki : next % 64 < 64 := Nat.mod_lt _ (by decide)
  generalize hxx : B (next / 64) = x at cw hx
  have HX : Hid (B (next / 64) = x) := hxx
  clear hxx hB
  have HT : Hid (Blk w g 41 (cellsT B N next cnt)) := hT
  clear hT
  go_enter Try.func18, Try.ntmps18
  go_wp2
  go_region
  go_wp2
  go_region
  go_wp2
  go_region
  go_wp2
  go_end0
  rw [clear_eq hx hki, or_eq hx hki]
  refine ⟨rfl, (((((((Keeps.refl (fun k => k = g) w).setCell (p := ⟨g, 16, none⟩) rfl _).setCell (p := ⟨g, (next / 64), none⟩) rfl _).setCell (p := ⟨g, (next / 64), none⟩) rfl _).setCell (p := ⟨g, 18, none⟩) rfl _).setCell (p := ⟨g, 17, none⟩) rfl _).drewN 3), ?_⟩
  have h := (((((HT.out.set 16 (.int .i64 ((N : Int) + 1))).set (next / 64) (.int .u64 ((clearW x (next % 64) : Nat) : Int))).set (next / 64) (.int .u64 ((clearW x (next % 64) ||| 2 ^ (next % 64) : Nat) : Int))).set 18 (.int .i64 (cnt + 1))).set 17 (.int .i64 (((next : Int) + 1) % 1000)))
  rw [cellsT_16, cellsT_set hwi, cellsT_set hwi, upd_twice, cellsT_18, cellsT_17] at h
  have e : setB B next true = upd B (next / 64) (clearW x (next % 64) ||| 2 ^ (next % 64)) := by unfold setB wordW; rw [HX.out]; rfl
  rw [e]
  exact h
set_option maxHeartbeats 2000000 in
theorem full_no (g : Nat) (B : Nat → Nat) (N next : Nat) (cnt : Int) (w : World) (hT : Blk w g 41 (cellsT B N next cnt)) (hN : N = 1000) (hn : next < 1000) (hB : ∀ i, B i < 18446744073709551616) (hc : 0 ≤ cnt ∧ cnt ≤ 2000) (d : Int) (hd : Hid ((if bit B next = true then 1 else 0) = d)) (hd2 : 0 ≤ d ∧ d ≤ 1) :
    Calls Try.prog 18 #[.pointer (some ⟨g, 0, none⟩), .bool false] w fun e w' => e = .returned (.tuple #[]) ∧ Keeps (fun k => k = g) w w' ∧ Blk w' g 41 (cellsT (setB B next false) N ((next + 1) % 1000) (cnt - d)) := by
  have c16 : w.cell? ⟨g, 16, none⟩ = some (.int .i64 N) := hT.cell 16
  have c17 : w.cell? ⟨g, 17, none⟩ = some (.int .i64 next) := hT.cell 17
  have c18 : w.cell? ⟨g, 18, none⟩ = some (.int .i64 cnt) := hT.cell 18
  have cw : w.cell? ⟨g, next / 64, none⟩ = some (.int .u64 (B (next / 64))) := by rw [hT.cell]; exact cellsT_word (by omega)
  have f16 := hT.free 16
  have f17 := hT.free 17
  have f18 := hT.free 18
  have fw := hT.free (next / 64)
  have hx := hB (next / 64)
  have hwi : next / 64 < 16 := by omega
  have hki : next % 64 < 64 := Nat.mod_lt _ (by decide)
  generalize hxx : B (next / 64) = x at cw hx
  have HX : Hid (B (next / 64) = x) := hxx
  clear hxx hB
  have HT : Hid (Blk w g 41 (cellsT B N next cnt)) := hT
  clear hT
  have hN1 : ((N : Int) == 1000) = true := by rw [hN]; decide
  clear hN
  have hbd : bits BinOp.and IntKind.u64 ((x : Int) / 2 ^ (next % 64)) 1 = d := by
    rw [and_eq hx, ← hd.out]
    unfold bit
    rw [HX.out]
  go_enter Try.func18, Try.ntmps18
  go_wp2
  go_region
  go_wp2
  go_region
  go_wp2
  go_region
  go_wp2
  go_end0
  rw [clear_eq hx hki]
  refine ⟨rfl, (((((Keeps.refl (fun k => k = g) w).setCell (p := ⟨g, 18, none⟩) rfl _).setCell (p := ⟨g, (next / 64), none⟩) rfl _).setCell (p := ⟨g, 17, none⟩) rfl _).drewN 3), ?_⟩
  have h := (((HT.out.set 18 (.int .i64 (cnt - d))).set (next / 64) (.int .u64 ((clearW x (next % 64) : Nat) : Int))).set 17 (.int .i64 (((next : Int) + 1) % 1000)))
  rw [cellsT_18, cellsT_set hwi, cellsT_17] at h
  have e : setB B next false = upd B (next / 64) (clearW x (next % 64)) := by unfold setB wordW; rw [HX.out]; rfl
  rw [e]
  exact h
set_option maxHeartbeats 2000000 in
theorem full_yes (g : Nat) (B : Nat → Nat) (N next : Nat) (cnt : Int) (w : World) (hT : Blk w g 41 (cellsT B N next cnt)) (hN : N = 1000) (hn : next < 1000) (hB : ∀ i, B i < 18446744073709551616) (hc : 0 ≤ cnt ∧ cnt ≤ 2000) (d : Int) (hd : Hid ((if bit B next = true then 1 else 0) = d)) (hd2 : 0 ≤ d ∧ d ≤ 1) :
    Calls Try.prog 18 #[.pointer (some ⟨g, 0, none⟩), .bool true] w fun e w' => e = .returned (.tuple #[]) ∧ Keeps (fun k => k = g) w w' ∧ Blk w' g 41 (cellsT (setB B next true) N ((next + 1) % 1000) (cnt - d + 1)) := by
  have c16 : w.cell? ⟨g, 16, none⟩ = some (.int .i64 N) := hT.cell 16
  have c17 : w.cell? ⟨g, 17, none⟩ = some (.int .i64 next) := hT.cell 17
  have c18 : w.cell? ⟨g, 18, none⟩ = some (.int .i64 cnt) := hT.cell 18
  have cw : w.cell? ⟨g, next / 64, none⟩ = some (.int .u64 (B (next / 64))) := by rw [hT.cell]; exact cellsT_word (by omega)
  have f16 := hT.free 16
  have f17 := hT.free 17
  have f18 := hT.free 18
  have fw := hT.free (next / 64)
  have hx := hB (next / 64)
  have hwi : next / 64 < 16 := by omega
  have hki : next % 64 < 64 := Nat.mod_lt _ (by decide)
  generalize hxx : B (next / 64) = x at cw hx
  have HX : Hid (B (next / 64) = x) := hxx
  clear hxx hB
  have HT : Hid (Blk w g 41 (cellsT B N next cnt)) := hT
  clear hT
  have hN1 : ((N : Int) == 1000) = true := by rw [hN]; decide
  clear hN
  have hbd : bits BinOp.and IntKind.u64 ((x : Int) / 2 ^ (next % 64)) 1 = d := by
    rw [and_eq hx, ← hd.out]
    unfold bit
    rw [HX.out]
  go_enter Try.func18, Try.ntmps18
  go_wp2
  go_region
  go_wp2
  go_region
  go_wp2
  go_region
  go_wp2
  go_region
  go_wp2
  go_end0
  rw [clear_eq hx hki, or_eq hx hki]
  refine ⟨rfl, (((((((Keeps.refl (fun k => k = g) w).setCell (p := ⟨g, 18, none⟩) rfl _).setCell (p := ⟨g, (next / 64), none⟩) rfl _).setCell (p := ⟨g, (next / 64), none⟩) rfl _).setCell (p := ⟨g, 18, none⟩) rfl _).setCell (p := ⟨g, 17, none⟩) rfl _).drewN 4), ?_⟩
  have h := (((((HT.out.set 18 (.int .i64 (cnt - d))).set (next / 64) (.int .u64 ((clearW x (next % 64) : Nat) : Int))).set (next / 64) (.int .u64 ((clearW x (next % 64) ||| 2 ^ (next % 64) : Nat) : Int))).set 18 (.int .i64 (cnt - d + 1))).set 17 (.int .i64 (((next : Int) + 1) % 1000)))
  rw [cellsT_18, cellsT_set hwi, cellsT_set hwi, upd_twice, cellsT_18, cellsT_17] at h
  have e : setB B next true = upd B (next / 64) (clearW x (next % 64) ||| 2 ^ (next % 64)) := by unfold setB wordW; rw [HX.out]; rfl
  rw [e]
  exact h
end Go.Proofs.Qxb6617355a
