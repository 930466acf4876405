import Derived.Test.Qxb6619702aLeaf
import Derived.Test.Qxb6619702aRing
/-! The walk of ringOrder. -/
namespace Go.Proofs.Qxb6619702a
open Go.RowKit

def seenC (n : Nat) (L : List Nat) : List Value := (List.range n).map fun j => .bool (decide (j = 0 ∨ j ∈ L))
theorem seenC_length (n : Nat) (L : List Nat) : (seenC n L).length = n := by simp [seenC]
theorem seenC_get {n : Nat} {L : List Nat} {x : Nat} (hx : x < n) : (seenC n L)[x]? = some (.bool (decide (x = 0 ∨ x ∈ L))) := by
  simp [seenC, hx]
theorem seenC_set {n : Nat} {L : List Nat} {x : Nat} : (seenC n L).set x (.bool true) = seenC n (L ++ [x]) := by
  apply List.ext_getElem
  · simp [seenC]
  · intro i h1 h2
    simp [seenC, List.getElem_set]
    by_cases h : x = i
    · simp [h]
    · have : ¬ i = x := fun e => h e.symm
      simp [h, this]
theorem seenC_start {n : Nat} : (List.replicate n (Value.bool false)).set 0 (.bool true) = seenC n [] := by
  apply List.ext_getElem
  · simp [seenC]
  · intro i h1 h2
    simp [seenC, List.getElem_set]
    by_cases h : i = 0
    · simp [h]
    · have : ¬ 0 = i := fun e => h e.symm
      simp [h, this]

def encL (L : List Nat) : List Value := L.map fun x : Nat => encI (x : Int)
theorem encL_get {L : List Nat} {j : Nat} (hj : j < L.length) : (encL L)[j]? = some (encI ((L.getD j 0 : Nat) : Int)) := by simp [encL, hj]
theorem encL_snoc (L : List Nat) (x : Nat) : encL L ++ [encI (x : Int)] = encL (L ++ [x]) := by simp [encL]
/-- What ringOrder hands back. -/
def RingOut (w : World) (n : Nat) (B A : Nat → Int) (e : Ending) (w' : World) : Prop :=
  Keeps Nob w w' ∧ match ringF n B A with
  | some L => ∃ ao c, e = .returned (.tuple #[.slice ao L.length c, .bool true]) ∧ SlF encI w' w.heap.size w'.heap.size ao L.length (fun j => (L.getD j 0 : Int))
  | none => e = .returned (.tuple #[.slice none 0 0, .bool false])

theorem Keeps.nob {S : Nat → Prop} {w w' : World} (h : Keeps S w w') (hS : ∀ k, k < w.heap.size → ¬ S k) : Keeps Nob w w' :=
  h.mono fun k hk hs => absurd hs (hS k hk)

set_option maxHeartbeats 2000000 in
theorem ringOrder_any (a1 a2 : Option Addr) (n c1 c2 lo1 hi1 lo2 hi2 : Nat) (B A : Nat → Int) (w : World) (hn0 : 0 < n) (hn : n ≤ 1048576) (h1 : SlF encI w lo1 hi1 a1 n B) (h2 : SlF encI w lo2 hi2 a2 n A) :
    Calls Try.prog 22 #[.slice a1 n c1, .slice a2 n c2] w (RingOut w n B A) := by
  obtain ⟨b1, o1, rfl, -, hb1', hB⟩ := h1 hn0
  obtain ⟨b2, o2, rfl, -, hb2', hA⟩ := h2 hn0
  have hb1 := World.block_lt_of_cell? w _ (hB 0 hn0)
  have hb2 := World.block_lt_of_cell? w _ (hA 0 hn0)
  simp only at hb1 hb2
  clear h1 h2 hb1' hb2'
  have hz : ((n : Int) == 0) = false := by simp; omega
  have hz' : ((n : Int) != n) = false := by simp
  go_enter Try.func22, Try.ntmps22
  go_wp2_with (at_make; refine wpList_make_blk _ rfl _ _ 60 rfl 4 (.bool false) 1 rfl Try.underlying60 Try.info4 _ _ n rfl rfl (by omega) (by unfold maxLen; omega) ?_; intro w1 hS hK; have hc0 : w1.cell? ⟨w.heap.size, 0, none⟩ = some (.bool false) := (by rw [hS.cell]; simp [hn0]); have hf0 := hS.free 0)
  have hW := hS.set 0 (.bool true)
  rw [seenC_start] at hW
  have hK1 := hK.setNew (p := ⟨w.heap.size, 0, none⟩) (Nat.le_refl _) (.bool true)
  clear hc0 hf0 hS hK
  generalize hw2 : w1.setCell ⟨w.heap.size, 0, none⟩ (.bool true) = w2 at hW hK1
  clear hw2 w1
  have hG : Hid (ringF n B A = ringGo n B A n [] 0) := by unfold ringF; exact if_neg (by omega)
  have hw2s := hW.lt
  go_loopw [8, 9, 10] (fun v s i wr => ∃ (L : List Nat) (p : Nat), L.length ≤ n ∧ i = .int .i64 L.length ∧ s = .int .i64 p ∧ p < n ∧ wr.ownsRow (w.heap.size + 1) 3 1 v L.length (encL L) ∧ Blk wr w.heap.size 4 (seenC n L) ∧ Keeps Nob w wr ∧ Hid (ringF n B A = ringGo n B A (n - L.length) L p)) (fun _ _ i _ => n - (intOf i).toNat)
  case atStart => exact ⟨[], 0, Nat.zero_le _, rfl, rfl, hn0, World.ownsRow_nil _ _ _ _, hW, hK1, hG⟩
  case round =>
    obtain ⟨L, p, hL, rfl, rfl, hp, hown, hS, hK, hG⟩ := hrel
    clear hW hK1 hw2s
    by_cases hlt : L.length < n
    · obtain ⟨f, hf⟩ : ∃ f, n - L.length = f + 1 := ⟨n - L.length - 1, by omega⟩
      rw [hf] at hG
      have hAp := (hK.cell (p := ⟨b2, o2 + p, none⟩) hb2 (fun h => h)).trans (hA p hp)
      by_cases c1 : A p < 0
      · have hR : Hid (ringF n B A = none) := hG.out.trans (ringGo_lt c1)
        clear hG hown
        go_wp2
        go_ret2
        refine ⟨hK, ?_⟩
        rw [hR.out]; rfl
      by_cases c2 : (n : Int) ≤ A p
      · have hR : Hid (ringF n B A = none) := hG.out.trans (ringGo_ge c2)
        clear hG hown
        go_wp2
        go_ret2
        refine ⟨hK, ?_⟩
        rw [hR.out]; rfl
      obtain ⟨x, hx⟩ : ∃ x : Nat, A p = x := ⟨(A p).toNat, by omega⟩
      have hxn : x < n := by omega
      replace hG : Hid (ringF n B A = _) := hG.out.trans (ringGo_x hx hxn)
      rw [hx] at hAp
      clear hx c1 c2
      have hBx := (hK.cell (p := ⟨b1, o1 + x, none⟩) hb1 (fun h => h)).trans (hB x hxn)
      by_cases c3 : (B x != (p : Int)) = true
      · have hR : Hid (ringF n B A = none) := by
          have := hG.out
          rwa [if_pos (by simpa using c3)] at this
        clear hG hown
        go_wp2
        go_ret2
        refine ⟨hK, ?_⟩
        rw [hR.out]; rfl
      have c3' : (B x != (p : Int)) = false := by simpa using c3
      replace hG : Hid (ringF n B A = _) := hG.out.trans (if_neg (by simpa using c3'))
      clear c3
      by_cases c4 : x = 0
      · subst c4
        have hR : Hid (ringF n B A = some L) := hG.out
        clear hG
        have e0 : ((0 : Nat) : Int) = 0 := rfl
        rw [e0] at hAp
        rw [Nat.add_zero] at hBx
        clear e0
        go_wp2
        go_ret2
        refine ⟨hK, ?_⟩
        rw [hR.out]
        obtain ⟨ao, c, rfl, -, hF⟩ := SlF.owns (enc := encI) hown
        exact ⟨ao, c, rfl, (hF _ fun j hj => encL_get hj).wide (by omega) (Nat.le_refl _)⟩
      have c4' : ((x : Int) == 0) = false := by simp; omega
      replace hG : Hid (ringF n B A = _) := hG.out.trans (if_neg c4)
      by_cases c5 : x ∈ L
      · have hsx : wr.cell? ⟨w.heap.size, x, none⟩ = some (.bool true) := by rw [hS.cell, seenC_get hxn]; simp [c5]
        have hR : Hid (ringF n B A = none) := hG.out.trans (if_pos c5)
        clear hG hown
        go_wp2
        go_ret2
        refine ⟨hK, ?_⟩
        rw [hR.out]; rfl
      have hsx : wr.cell? ⟨w.heap.size, x, none⟩ = some (.bool false) := by rw [hS.cell, seenC_get hxn]; simp [c5, c4]
      have hfx := hS.free x
      replace hG : Hid (ringF n B A = _) := hG.out.trans (if_neg c5)
      have hown1 := ownsRow_setCell_below hown (a := ⟨w.heap.size, x, none⟩) (Nat.lt_succ_self _) (.bool true)
      have hS1 := hS.set x (.bool true)
      rw [seenC_set] at hS1
      have hK1 := hK.setNew (p := ⟨w.heap.size, x, none⟩) (Nat.le_refl _) (.bool true)
      have hsz := hS.lt
      clear c5 c4
      go_wp2_with (at_builtin; refine wpList_push rfl (.tmp 62) (.tmp 64) 31 rfl (w.heap.size + 1) 3 (.int .i64 0) 8 rfl Try.underlying31 Try.info3 _ _ _ rfl (hown1.alloc _) ⟨wr.heap.size, 0, none⟩ 1 (.int .i64 x) rfl ?_ rfl ?_ ?_ ?_ ?_)
      · exact cell_new_one (wr.setCell ⟨w.heap.size, x, none⟩ (.bool true)) _ 3 (by simp)
      · omega
      · unfold maxLen; omega
      · simp; omega
      · intro v' w' hown' hk hloc
        have hu8 := hown.lt
        rw [encL_snoc] at hown'
        have hK' : Keeps Nob w w' := ⟨hk.os.trans hK1.os, hk.tape.trans hK1.tape, hk.output.trans hK1.output, Nat.le_trans hK1.size (Nat.le_trans (by simp) hk.size), fun k hkk hs => by
          refine (hk.block k (by simp; omega) (fun e => ?_)).trans ((Below.heap_alloc _ _ _ (by simp; omega)).trans (hK1.block k hkk hs))
          have := (hu8 k e).1
          omega⟩
        have hS' : Blk w' w.heap.size 4 (seenC n (L ++ [x])) := (hS1.alloc _).keep hk (fun e => by have := (hu8 _ e).1; omega)
        clear hown hown1 hk hloc hu8 hS1 hK1 hS hK hAp hBx hsx hfx
        go_wp2
        refine ⟨?rel, ?measure⟩
        case rel =>
          exact ⟨L ++ [x], x, by simp; omega, by simp, rfl, hxn, by simpa using hown', hS', hK', by
            have e : n - (L ++ [x]).length = f := by simp; omega
            rw [e]; exact hG⟩
        case measure => simp [intOf]; omega
    · go_wp2
      go_ret2
      refine ⟨hK, ?_⟩
      have e0 : n - L.length = 0 := by omega
      have := hG.out
      rw [e0] at this
      rw [this]
      rfl
end Go.Proofs.Qxb6619702a
