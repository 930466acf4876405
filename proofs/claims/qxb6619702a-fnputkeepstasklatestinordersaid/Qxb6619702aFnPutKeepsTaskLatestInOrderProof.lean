import Derived.Test.Qxb6619702aRows
import Derived.Test.Qxb6619702aLaw6
import Derived.Test.Qxb6619702aOpen
import Derived.WalkKit
import Derived.ProofKit
import Derived.OpenShut
import Derived.ShutString
import Derived.ChangeOld
import Derived.Below
/-! FnPutKeepsTaskLatestInOrder: the statement. -/
namespace Go.Proofs.Qxb6619702a.fnPutKeepsTaskLatestInOrder
open Go.ChangeShapes Go.WideShapes Go.ChangeAt Go.RowKit
open Go.ChangeMaps (open_string shut_string)

theorem own : ownKnob Try.prog.godebug = none := by kernel_rfl
theorem laidOut : laidOutB Try.prog = true := by kernel_rfl

set_option maxRecDepth 100000 in
theorem lifted (os : Os) (started : os.Started) (H : Type) (enc : TypeId × Value → H) :
    ReturnsInHanded {} Try.checked os 6 .any (Rows.fnPutKeepsTaskLatestInOrderSpec.pre6 enc Try.prog Try.f6 Rows.fnPutKeepsTaskLatestInOrderRow.domain false) (Rows.fnPutKeepsTaskLatestInOrderSpec.post enc Try.prog Try.f6 false true false false) := by
  refine returnsInHanded_of_change (C := Try.checked) own started (by kernel_rfl) Try.func6
    (ChangeSpec.witness6 (enc := enc) (C := Try.checked) false ⟨#[], #[.slice none 0 0, .slice none 0 0, .slice none 0 0, .slice none 0 0, .slice none 0 0, .int .i64 0, .string ByteArray.empty, .int .i64 0, .string ByteArray.empty], []⟩ 8 (by kernel_rfl) (by kernel_rfl) (by kernel_rfl) (by kernel_rfl)) ?_
  intro W base args ds gs before hval0 hW hcnd _
  have hval : ∀ (j : Nat) t v, Try.f6.params[j]? = some t → args[j]? = some v → Value.okWide Try.prog W .any base t v := hval0
  have hW' := hW
  obtain ⟨p, q, hA0, hV, rfl, hfz, hnd⟩ := hW
  have hA : DataW.TrodAll enc Try.prog W 0 (fun _ => true) true Try.f6.params.toList args.toList ds p := hA0
  rw [Try.params6] at hA hval
  obtain ⟨v0, vs0, d0, ds0, p0, q0, hargs, rfl, rfl, h0, r0⟩ := trodAll_cons hA
  obtain ⟨v1, vs1, d1, ds1, p1, q1, rfl, rfl, rfl, h1, r1⟩ := trodAll_cons r0
  obtain ⟨v2, vs2, d2, ds2, p2, q2, rfl, rfl, rfl, h2, r2⟩ := trodAll_cons r1
  obtain ⟨v3, vs3, d3, ds3, p3, q3, rfl, rfl, rfl, h3, r3⟩ := trodAll_cons r2
  obtain ⟨v4, vs4, d4, ds4, p4, q4, rfl, rfl, rfl, h4, r4⟩ := trodAll_cons r3
  obtain ⟨v5, vs5, d5, ds5, p5, q5, rfl, rfl, rfl, h5, r5⟩ := trodAll_cons r4
  obtain ⟨v6, vs6, d6, ds6, p6, q6, rfl, rfl, rfl, h6, r6⟩ := trodAll_cons r5
  obtain ⟨v7, vs7, d7, ds7, p7, q7, rfl, rfl, rfl, h7, r7⟩ := trodAll_cons r6
  obtain ⟨v8, vs8, d8, ds8, p8, q8, rfl, rfl, rfl, h8, r8⟩ := trodAll_cons r7
  obtain ⟨rfl, rfl, rfl⟩ := trodAll_nil r8
  obtain rfl : args = #[v0, v1, v2, v3, v4, v5, v6, v7, v8] := by cases args; simp_all
  obtain ⟨rfl, rfl⟩ := trodVars_none hV
  obtain ⟨a0, n0, c0, rfl⟩ := okWide_slice Try.underlying22 (hval 0 22 v0 rfl rfl)
  have lt0 : ∀ x ∈ p0, x.block < W.heap.size := by obtain ⟨m, hm⟩ := h0; exact DataW.trod_lt m _ _ _ hm
  obtain ⟨F0, w0, ws⟩ := arg_strings h0
  obtain ⟨a1, n1, c1, rfl⟩ := okWide_slice Try.underlying31 (hval 1 31 v1 rfl rfl)
  have lt1 : ∀ x ∈ p1, x.block < W.heap.size := by obtain ⟨m, hm⟩ := h1; exact DataW.trod_lt m _ _ _ hm
  obtain ⟨F1, w1⟩ := arg_ints h1
  obtain ⟨a2, n2, c2, rfl⟩ := okWide_slice Try.underlying31 (hval 2 31 v2 rfl rfl)
  have lt2 : ∀ x ∈ p2, x.block < W.heap.size := by obtain ⟨m, hm⟩ := h2; exact DataW.trod_lt m _ _ _ hm
  obtain ⟨F2, w2⟩ := arg_ints h2
  obtain ⟨a3, n3, c3, rfl⟩ := okWide_slice Try.underlying31 (hval 3 31 v3 rfl rfl)
  have lt3 : ∀ x ∈ p3, x.block < W.heap.size := by obtain ⟨m, hm⟩ := h3; exact DataW.trod_lt m _ _ _ hm
  obtain ⟨F3, w3⟩ := arg_ints h3
  obtain ⟨a4, n4, c4, rfl⟩ := okWide_slice Try.underlying31 (hval 4 31 v4 rfl rfl)
  have lt4 : ∀ x ∈ p4, x.block < W.heap.size := by obtain ⟨m, hm⟩ := h4; exact DataW.trod_lt m _ _ _ hm
  obtain ⟨F4, w4⟩ := arg_ints h4
  obtain ⟨a5, rfl, rfl, rfl, w5⟩ := open_int Try.underlying3 (hval 5 3 v5 rfl rfl) h5
  obtain ⟨a6, rfl, rfl, rfl, w6⟩ := open_string Try.underlying9 (hval 6 9 v6 rfl rfl) h6
  obtain ⟨a7, rfl, rfl, rfl, w7⟩ := open_int Try.underlying3 (hval 7 3 v7 rfl rfl) h7
  obtain ⟨a8, rfl, rfl, rfl, w8⟩ := open_string Try.underlying9 (hval 8 9 v8 rfl rfl) h8
  clear hA0 hval0
  refine (law6 w0 w1 w2 w3 w4 ws w6).mono fun e W' ⟨he, hK⟩ => ?_
  subst he
  have bel : Below W.heap.size W W' := hK.below (Nat.le_refl _) (fun _ _ h => h)
  exact ⟨_, rfl, _, _, _, [], _, [], hW', trodAll_mk1 (shut_bool Try.underlying4 _), (trodAll_cons_mk (Below.trod laidOut (by kernel_rfl) (of_decide_eq_true (by kernel_rfl)) h0 bel lt0) (trodAll_cons_mk (Below.trod laidOut (by kernel_rfl) (of_decide_eq_true (by kernel_rfl)) h1 bel lt1) (trodAll_cons_mk (Below.trod laidOut (by kernel_rfl) (of_decide_eq_true (by kernel_rfl)) h2 bel lt2) (trodAll_cons_mk (Below.trod laidOut (by kernel_rfl) (of_decide_eq_true (by kernel_rfl)) h3 bel lt3) (trodAll_cons_mk (Below.trod laidOut (by kernel_rfl) (of_decide_eq_true (by kernel_rfl)) h4 bel lt4) (trodAll_cons_mk (shut_int Try.underlying3 w5) (trodAll_cons_mk (shut_string Try.underlying9 w6) (trodAll_cons_mk (shut_int Try.underlying3 w7) (trodAll_cons_mk (shut_string Try.underlying9 w8) trodAll_mk0))))))))), rfl, bel.frame _, fun h => by cases h⟩

theorem over : Rows.fnPutKeepsTaskLatestInOrderRow.holds Try.pinned (OpenSpec.ofChange Rows.fnPutKeepsTaskLatestInOrderSpec) :=
  OpenClaim.holds_of_wide 6 Try.f6 rfl rfl rfl rfl rfl rfl rfl ⟨rfl, rfl, rfl, rfl, rfl⟩ rfl rfl rfl rfl rfl (by kernel_rfl) Try.func6 (by kernel_rfl)
    (of_decide_eq_true (by kernel_rfl)) (by unfold Func.isWrapper; first | (rw [if_pos (by decide +kernel)]; kernel_rfl) | (rw [if_neg (by decide +kernel)]; exact ⟨rfl, rfl⟩))
    (fun os started H enc _ => lifted os started H enc)

end Go.Proofs.Qxb6619702a.fnPutKeepsTaskLatestInOrder
namespace Go.Proofs.Qxb6619702a
/-- The statement. -/
theorem provedFnPutKeepsTaskLatestInOrder : Rows.FnPutKeepsTaskLatestInOrderSaid := fnPutKeepsTaskLatestInOrder.over
end Go.Proofs.Qxb6619702a
