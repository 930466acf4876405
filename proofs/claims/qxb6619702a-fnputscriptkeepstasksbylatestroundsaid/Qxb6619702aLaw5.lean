import Derived.Test.Qxb6619702aL5z
/-! FnPutScriptKeepsTasksByLatestRound: the whole. -/
namespace Go.Proofs.Qxb6619702a
open Go.RowKit

set_option maxHeartbeats 4000000 in
set_option maxRecDepth 100000 in
/-- FnPutScriptKeepsTasksByLatestRound says true, at every input. -/
theorem law5 {a0 a1 a2 a3 a4 a5 : Option Addr} {n c nb c1 na c2 nr c3 nf c4 sn c5 : Nat} {ID SC : Nat → ByteArray} {B A R FR : Nat → Int} {w : World}
    (h0 : Arg Value.string w a0 n c ID) (h1 : Arg encI w a1 nb c1 B) (h2 : Arg encI w a2 na c2 A) (h3 : Arg encI w a3 nr c3 R) (h4 : Arg encI w a4 nf c4 FR) (h5 : Arg Value.string w a5 sn c5 SC)
    (hID : Hid (∀ j, j < n → (ID j).size ≤ maxLen)) (hSC : Hid (∀ j, j < sn → (SC j).size ≤ maxLen)) :
    Calls Try.prog 5 #[.slice a0 n c, .slice a1 nb c1, .slice a2 na c2, .slice a3 nr c3, .slice a4 nf c4, .slice a5 sn c5] w fun e w' => e = .returned (.bool true) ∧ Keeps Nob w w' := by
  refine calls_of_wp Try.func5 body5 ?_
  simp only [Try.ntmps5, List.size_toArray, List.length_cons, List.length_nil, Nat.reduceAdd, Nat.reduceSub, Array.replicate_succ,
    Array.replicate_zero, List.push_toArray, List.append_toArray, List.nil_append, List.cons_append]
  exact law5z h0 h1 h2 h3 h4 h5 hID hSC
end Go.Proofs.Qxb6619702a
