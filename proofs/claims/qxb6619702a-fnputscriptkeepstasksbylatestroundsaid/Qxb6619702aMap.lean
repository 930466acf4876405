import Derived.Test.Qxb6619702aLeaf
import Derived.Maps.OwnSet
import Derived.Maps.OwnOps
/-! A map from strings to ints that the call itself makes, as a plain function. -/
namespace Go.Proofs.Qxb6619702a
open Go.RowKit Go.Maps Go.WideMaps Go.WideElems Go.ChangeMaps

abbrev keyS (s : ByteArray) : Lit := .string s.data.toList
abbrev litI (c : Int) : DataW Unit := .lit (.int .i64 c)

theorem keyS_inj {s t : ByteArray} (h : keyS s = keyS t) : s = t := by
  cases s; cases t
  simp at h
  simp [h]

def put (M : ByteArray → Option Int) (s : ByteArray) (v : Int) : ByteArray → Option Int := fun t => if t = s then some v else M t
theorem put_same (M : ByteArray → Option Int) (s : ByteArray) (v : Int) : put M s v s = some v := if_pos rfl
theorem put_other {M : ByteArray → Option Int} {s t : ByteArray} {v : Int} (h : t ≠ s) : put M s v t = M t := if_neg h

structure MapIs (D : DataW Unit) (M : ByteArray → Option Int) (N : Nat) : Prop where
  tidy : Tidy D
  has : ∀ s, Maps.has D (keyS s) = (M s).isSome
  at_ : ∀ s, D.atKey (keyS s) (litI 0) = litI ((M s).getD 0)
  size : Maps.size D = N

theorem MapIs.empty : MapIs (.map []) (fun _ => none) 0 := ⟨tidy_empty, fun _ => rfl, fun _ => rfl, rfl⟩

theorem MapIs.put {D : DataW Unit} {M : ByteArray → Option Int} {N : Nat} (h : MapIs D M N) (s : ByteArray) (v : Int) : MapIs (D.put (keyS s) (litI v)) (put M s v) (if (M s).isSome then N else N + 1) := by
  have hk : WideAt.IsKeyLit (keyS s) := by constructor
  refine ⟨h.tidy.put hk _, fun t => ?_, fun t => ?_, ?_⟩
  · by_cases e : t = s
    · subst e; rw [put_same, has_put_same h.tidy.isMap hk]; rfl
    · rw [put_other e, has_put_other (fun x => e (keyS_inj x)), h.has]
  · by_cases e : t = s
    · subst e; rw [put_same, atKey_put_same h.tidy.isMap hk]; rfl
    · rw [put_other e, atKey_put_other (fun x => e (keyS_inj x)), h.at_]
  · rw [size_put h.tidy, h.has, h.size]

/-- Block b is a map that reads as M, of N entries, N at most K. -/
def OwnM (w : World) (b : Nat) (M : ByteArray → Option Int) (N K : Nat) : Prop :=
  ∃ D, w.ownsMap (H := Unit) Try.prog 9 (plainElem Try.prog 3) b K D ∧ MapIs D M N

theorem law9 : Keyed Try.prog 9 := string_keyed Try.underlying9
theorem zero3 (w : World) : (zeroValue 3).run Try.prog w = .ok (.int .i64 0) w := by kernel_rfl

theorem OwnM.made (w : World) : OwnM (w.alloc (.map #[] 0)) w.heap.size (fun _ => none) 0 0 := ⟨_, World.ownsMap_made _ _ _ _, MapIs.empty⟩
theorem OwnM.lt {w : World} {b : Nat} {M : ByteArray → Option Int} {N K : Nat} (h : OwnM w b M N K) : b < w.heap.size := by
  obtain ⟨D, h, _⟩ := h; exact h.lt
theorem OwnM.keep {w w' : World} {b : Nat} {M : ByteArray → Option Int} {N K : Nat} {S : Nat → Prop} (h : OwnM w b M N K) (hk : Keeps S w w') (hS : ¬ S b) : OwnM w' b M N K := by
  have hl := h.lt
  obtain ⟨D, ⟨es, clock, hb, r⟩, hM⟩ := h
  exact ⟨D, ⟨es, clock, (hk.block b hl hS).trans hb, r⟩, hM⟩
theorem OwnM.mono {w : World} {b : Nat} {M : ByteArray → Option Int} {N K K' : Nat} (h : OwnM w b M N K) (hK : K ≤ K') : OwnM w b M N K' := by
  obtain ⟨D, h, hM⟩ := h
  exact ⟨D, h.mono hK, hM⟩

section
variable {w : World} {ops : Array Oper} {rest : List Oper} {o : Oper} {a : Act} {Q : Exit → Act → World → Prop} {b : Nat} {M : ByteArray → Option Int} {N K : Nat}

/-- 'v, ok := m[s]' -/
theorem wpList_mlook_ok (hg : o.guard = none) (m x : Operand) (hop : o.op = Op.lookup 35 m x true) (hm : a.eval m = .map (some b)) (hown : OwnM w b M N K) (s : ByteArray) (hx : a.eval x = .string s) (hs : s.size ≤ maxLen)
    (hK : wpList Try.prog ops Q rest (a.put o.dst (.tuple #[.int .i64 ((M s).getD 0), .bool (M s).isSome])) w) : wpList Try.prog ops Q (o :: rest) a w := by
  obtain ⟨D, hown, hM⟩ := hown
  refine wpList_lookup_own_ok_int w hg m x 35 hop 9 3 .i64 law9 Try.underlying35 Try.underlying3 (zero3 w) b K D hm hown _ _ hx (keyOf_string_mk Try.underlying9 hs) fun c hc _ => ?_
  have h1 := hM.at_ s
  rw [h1] at hc
  have h2 : (M s).getD 0 = c := by simpa [litI] using hc
  rw [← h2, hM.has]
  exact hK
theorem wpList_mlook_none (hg : o.guard = none) (m x : Operand) (hop : o.op = Op.lookup 35 m x true) (hm : a.eval m = .map (some b)) (hown : OwnM w b M N K) (s : ByteArray) (hx : a.eval x = .string s) (hs : s.size ≤ maxLen) (hv : Hid (M s = none))
    (hK : wpList Try.prog ops Q rest (a.put o.dst (.tuple #[.int .i64 0, .bool false])) w) : wpList Try.prog ops Q (o :: rest) a w :=
  wpList_mlook_ok hg m x hop hm hown s hx hs (by rw [hv.out]; exact hK)
theorem wpList_mlook_some (hg : o.guard = none) (m x : Operand) (hop : o.op = Op.lookup 35 m x true) (hm : a.eval m = .map (some b)) (hown : OwnM w b M N K) (s : ByteArray) (hx : a.eval x = .string s) (hs : s.size ≤ maxLen) (c : Int) (hv : Hid (M s = some c))
    (hK : wpList Try.prog ops Q rest (a.put o.dst (.tuple #[.int .i64 c, .bool true])) w) : wpList Try.prog ops Q (o :: rest) a w :=
  wpList_mlook_ok hg m x hop hm hown s hx hs (by rw [hv.out]; exact hK)
/-- Of the nil map. -/
theorem look_none (id : ByteArray) (hid : id.size ≤ maxLen) (w : World) : (Instr.lookup 35 (.map none) (.string id) true).run Try.prog w = .ok (.tuple #[.int .i64 0, .bool false]) w :=
  Go.Maps.look_nil true law9 Try.underlying35 (zero3 w) (keyOf_string_mk Try.underlying9 hid)
/-- 'm[s]' -/
theorem wpList_mlook (hg : o.guard = none) (m x : Operand) (hop : o.op = Op.lookup 35 m x false) (hm : a.eval m = .map (some b)) (hown : OwnM w b M N K) (s : ByteArray) (hx : a.eval x = .string s) (hs : s.size ≤ maxLen)
    (hK : wpList Try.prog ops Q rest (a.put o.dst (.int .i64 ((M s).getD 0))) w) : wpList Try.prog ops Q (o :: rest) a w := by
  obtain ⟨D, hown, hM⟩ := hown
  refine wpList_lookup_own_int w hg m x 35 hop 9 3 .i64 law9 Try.underlying35 Try.underlying3 (zero3 w) b K D hm hown _ _ hx (keyOf_string_mk Try.underlying9 hs) fun c hc _ => ?_
  have h1 := hM.at_ s
  rw [h1] at hc
  have h2 : (M s).getD 0 = c := by simpa [litI] using hc
  rw [← h2]
  exact hK
/-- 'm[s] = v' -/
theorem wpList_mstore (hg : o.guard = none) (m x v : Operand) (hop : o.op = Op.mapUpdate 35 m x v) (hm : a.eval m = .map (some b)) (hown : OwnM w b M N K) (hKm : K < 1000000000) (s : ByteArray) (hx : a.eval x = .string s) (hs : s.size ≤ maxLen)
    (c : Int) (hv : a.eval v = .int .i64 c) (hc : (Lit.int .i64 c).wf = true)
    (hK : ∀ w', OwnM w' b (put M s c) (if (M s).isSome then N else N + 1) (K + 1) → Keeps (fun k => k = b) w w' → wpList Try.prog ops Q rest (a.put o.dst undef) w') : wpList Try.prog ops Q (o :: rest) a w := by
  obtain ⟨D, hown, hM⟩ := hown
  refine wpList_mapUpdate_own w hg m x v 35 hop 9 3 law9 Try.underlying35 _ b K D hm hown (by unfold maxLen; omega) _ _ _ hx hv (keyOf_string_mk Try.underlying9 hs) (litI c) [] (plainElem_int Try.underlying3 hc) fun w' h1 h2 => ?_
  exact hK w' ⟨_, h1, hM.put s c⟩ ((Keeps.refl _ w).grown h2 (fun k hk => .inl (by cases hk; rfl)))
/-- 'm[s] = v', s not there yet. -/
theorem wpList_mstore_new (hg : o.guard = none) (m x v : Operand) (hop : o.op = Op.mapUpdate 35 m x v) (hm : a.eval m = .map (some b)) (hown : OwnM w b M N K) (hKm : K < 1000000000) (s : ByteArray) (hx : a.eval x = .string s) (hs : s.size ≤ maxLen)
    (c : Int) (hv : a.eval v = .int .i64 c) (hc : (Lit.int .i64 c).wf = true) (hnew : Hid (M s = none))
    (hK : ∀ w', OwnM w' b (put M s c) (N + 1) (K + 1) → Keeps (fun k => k = b) w w' → wpList Try.prog ops Q rest (a.put o.dst undef) w') : wpList Try.prog ops Q (o :: rest) a w :=
  wpList_mstore hg m x v hop hm hown hKm s hx hs c hv hc fun w' h1 h2 => hK w' (by rw [hnew.out] at h1; exact h1) h2
/-- 'len(m)' -/
theorem wpList_mlen (hg : o.guard = none) (m : Operand) (hop : o.op = Op.call { callee := Callee.builtin Builtin.len, args := #[m], argTypes := #[35] }) (hm : a.eval m = .map (some b)) (hown : OwnM w b M N K)
    (hK : wpList Try.prog ops Q rest (a.put o.dst (.int .i64 N)) w) : wpList Try.prog ops Q (o :: rest) a w := by
  obtain ⟨D, hown, hM⟩ := hown
  refine wpList_len_own w hg m 35 hop 9 3 Try.underlying35 _ b K D hm hown ?_
  rw [hM.size]; exact hK
end
end Go.Proofs.Qxb6619702a
