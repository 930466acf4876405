import Derived.Test.Qxb6617947aProg
import Derived.Test.Qxb6617947aMem
import Derived.Deep.QuietTactic
import Derived.BigQuiet
import Derived.BigRegion
import Derived.Laws.Bits64
/-! takeMade. -/
namespace Go.Proofs.Qxb6617947a
open Go.RowKit
set_option linter.unusedVariables false in
set_option maxHeartbeats 2000000 in
theorem take_symA {sb nb kb wb s q m n K V : Nat} {w : World} (hs : w.cell? ⟨sb, 0, none⟩ = some (.int .i64 s)) (fs : w.frozen? ⟨sb, 0, none⟩ = false) (hq : w.cell? ⟨nb, 0, none⟩ = some (.int .i64 q)) (fq : w.frozen? ⟨nb, 0, none⟩ = false) (hn : n ≤ 512) (hm : m ≤ 512) (hk : w.cell? ⟨kb, s, none⟩ = some (.int .u64 K)) (hK : K < 18446744073709551616) (hsn : s < n) (hqm : q = m) (d1 : sb ≠ nb) (d2 : kb ≠ sb) (d3 : wb ≠ nb) (d4 : wb ≠ sb) (d5 : kb ≠ nb) :
    Calls Try.prog 22 #[.pointer (some ⟨sb, 0, none⟩), .pointer (some ⟨nb, 0, none⟩), .int .i64 m, .int .i64 n, .pointer (some ⟨kb, 0, none⟩), .pointer (some ⟨wb, 0, none⟩)] w
      fun e w' => e = .returned (.tuple #[.int .u64 ((K : Int) / 65536), .int .i64 s]) ∧ ∃ a b, w' = ((w.drewN a).setCell ⟨sb, 0, none⟩ (.int .i64 ((s : Int) + 1))).drewN b := by
  subst hqm
  have hsn' : decide ((s : Int) < (n : Int)) = true := decide_eq_true (by omega)
  have hb : ((q : Int) == (q : Int)) = true := by simp
  go_enter Try.func22, Try.ntmps22
  go_wp2
  go_quiet (fail)
  go_wp2
  go_quiet (fail)
  go_wp2
  go_ret2
  exact ⟨rfl, _, _, rfl⟩
set_option linter.unusedVariables false in
set_option maxHeartbeats 2000000 in
theorem take_symB {sb nb kb wb s q m n K V : Nat} {w : World} (hs : w.cell? ⟨sb, 0, none⟩ = some (.int .i64 s)) (fs : w.frozen? ⟨sb, 0, none⟩ = false) (hq : w.cell? ⟨nb, 0, none⟩ = some (.int .i64 q)) (fq : w.frozen? ⟨nb, 0, none⟩ = false) (hn : n ≤ 512) (hm : m ≤ 512) (hk : w.cell? ⟨kb, s, none⟩ = some (.int .u64 K)) (hK : K < 18446744073709551616) (hv : w.cell? ⟨wb, q, none⟩ = some (.int .u64 V)) (hsn : s < n) (hqm : q < m) (hle : K / 65536 ≤ V) (d1 : sb ≠ nb) (d2 : kb ≠ sb) (d3 : wb ≠ nb) (d4 : wb ≠ sb) (d5 : kb ≠ nb) :
    Calls Try.prog 22 #[.pointer (some ⟨sb, 0, none⟩), .pointer (some ⟨nb, 0, none⟩), .int .i64 m, .int .i64 n, .pointer (some ⟨kb, 0, none⟩), .pointer (some ⟨wb, 0, none⟩)] w
      fun e w' => e = .returned (.tuple #[.int .u64 ((K : Int) / 65536), .int .i64 s]) ∧ ∃ a b, w' = ((w.drewN a).setCell ⟨sb, 0, none⟩ (.int .i64 ((s : Int) + 1))).drewN b := by
  have hsn' : decide ((s : Int) < (n : Int)) = true := decide_eq_true (by omega)
  have hb : ((q : Int) == (m : Int)) = false := by simp; omega
  have hle' : (K : Int) / 65536 ≤ (V : Int) := by omega
  go_enter Try.func22, Try.ntmps22
  go_wp2
  go_quiet (fail)
  go_wp2
  go_quiet (fail)
  go_wp2
  go_ret2
  exact ⟨rfl, _, _, rfl⟩
set_option linter.unusedVariables false in
set_option maxHeartbeats 2000000 in
theorem take_nodC {sb nb kb wb s q m n K V : Nat} {w : World} (hs : w.cell? ⟨sb, 0, none⟩ = some (.int .i64 s)) (fs : w.frozen? ⟨sb, 0, none⟩ = false) (hq : w.cell? ⟨nb, 0, none⟩ = some (.int .i64 q)) (fq : w.frozen? ⟨nb, 0, none⟩ = false) (hn : n ≤ 512) (hm : m ≤ 512) (hk : w.cell? ⟨kb, s, none⟩ = some (.int .u64 K)) (hK : K < 18446744073709551616) (hv : w.cell? ⟨wb, q, none⟩ = some (.int .u64 V)) (hsn : s < n) (hqm : q < m) (hle : ¬ K / 65536 ≤ V) (d1 : sb ≠ nb) (d2 : kb ≠ sb) (d3 : wb ≠ nb) (d4 : wb ≠ sb) (d5 : kb ≠ nb) :
    Calls Try.prog 22 #[.pointer (some ⟨sb, 0, none⟩), .pointer (some ⟨nb, 0, none⟩), .int .i64 m, .int .i64 n, .pointer (some ⟨kb, 0, none⟩), .pointer (some ⟨wb, 0, none⟩)] w
      fun e w' => e = .returned (.tuple #[.int .u64 V, .int .i64 ((n : Int) + (q : Int))]) ∧ ∃ a b, w' = ((w.drewN a).setCell ⟨nb, 0, none⟩ (.int .i64 ((q : Int) + 1))).drewN b := by
  have hsn' : decide ((s : Int) < (n : Int)) = true := decide_eq_true (by omega)
  have hb : ((q : Int) == (m : Int)) = false := by simp; omega
  have hle' : ¬ (K : Int) / 65536 ≤ (V : Int) := by omega
  go_enter Try.func22, Try.ntmps22
  go_wp2
  go_quiet (fail)
  go_wp2
  go_quiet (fail)
  go_wp2
  go_ret2
  refine ⟨?_, _, _, rfl⟩
  show Ending.returned (.tuple #[.int .u64 V, .int .i64 ((n : Int) + ((q : Int) + 1) - 1)]) = _
  rw [show (n : Int) + ((q : Int) + 1) - 1 = (n : Int) + (q : Int) by omega]
set_option linter.unusedVariables false in
set_option maxHeartbeats 2000000 in
theorem take_nodD {sb nb kb wb s q m n K V : Nat} {w : World} (hs : w.cell? ⟨sb, 0, none⟩ = some (.int .i64 s)) (fs : w.frozen? ⟨sb, 0, none⟩ = false) (hq : w.cell? ⟨nb, 0, none⟩ = some (.int .i64 q)) (fq : w.frozen? ⟨nb, 0, none⟩ = false) (hn : n ≤ 512) (hm : m ≤ 512) (hv : w.cell? ⟨wb, q, none⟩ = some (.int .u64 V)) (hsn : ¬ s < n) (hqm : q < m) (d1 : sb ≠ nb) (d2 : kb ≠ sb) (d3 : wb ≠ nb) (d4 : wb ≠ sb) (d5 : kb ≠ nb) :
    Calls Try.prog 22 #[.pointer (some ⟨sb, 0, none⟩), .pointer (some ⟨nb, 0, none⟩), .int .i64 m, .int .i64 n, .pointer (some ⟨kb, 0, none⟩), .pointer (some ⟨wb, 0, none⟩)] w
      fun e w' => e = .returned (.tuple #[.int .u64 V, .int .i64 ((n : Int) + (q : Int))]) ∧ ∃ a b, w' = ((w.drewN a).setCell ⟨nb, 0, none⟩ (.int .i64 ((q : Int) + 1))).drewN b := by
  have hsn' : decide ((s : Int) < (n : Int)) = false := decide_eq_false (by omega)
  go_enter Try.func22, Try.ntmps22
  go_wp2
  go_quiet (fail)
  go_wp2
  go_quiet (fail)
  go_wp2
  go_ret2
  refine ⟨?_, _, _, rfl⟩
  show Ending.returned (.tuple #[.int .u64 V, .int .i64 ((n : Int) + ((q : Int) + 1) - 1)]) = _
  rw [show (n : Int) + ((q : Int) + 1) - 1 = (n : Int) + (q : Int) by omega]

end Go.Proofs.Qxb6617947a
