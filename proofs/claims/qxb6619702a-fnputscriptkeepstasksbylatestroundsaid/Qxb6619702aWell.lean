import Derived.Test.Qxb6619702aRingW
import Derived.Test.Qxb6619702aMap
/-! The walk of wellFormed. -/
namespace Go.Proofs.Qxb6619702a
open Go.RowKit

/-- The index of the held ids. -/
def idx (ID : Nat → ByteArray) (L : List Nat) : ByteArray → Option Int := L.foldl (fun M s => put M (ID s) s) (fun _ => none)
theorem idx_snoc (ID : Nat → ByteArray) (L : List Nat) (x : Nat) : idx ID (L ++ [x]) = put (idx ID L) (ID x) x := by simp [idx]

theorem idx_go (ID : Nat → ByteArray) (s : ByteArray) : ∀ (L : List Nat) (M : ByteArray → Option Int), ((L.foldl (fun M s => put M (ID s) s) M) s).isSome = true ↔ (s ∈ L.map ID ∨ (M s).isSome = true)
  | [], M => by simp
  | x :: L, M => by
    simp only [List.foldl_cons]
    rw [idx_go ID s L]
    by_cases h : s = ID x
    · subst h; simp [put_same]
    · rw [put_other h]; simp [h]
theorem idx_isSome (ID : Nat → ByteArray) (s : ByteArray) (L : List Nat) : (idx ID L s).isSome = true ↔ s ∈ L.map ID := by
  unfold idx; rw [idx_go]; simp

structure FreeOK (n : Nat) (L : List Nat) (nf : Nat) (FR : Nat → Int) : Prop where
  range : ∀ k, k < nf → 0 < FR k ∧ FR k < n
  notin : ∀ k, k < nf → (FR k).toNat ∉ L
  apart : ∀ k, k < nf → ∀ j, j < k → FR j ≠ FR k

def frees (FR : Nat → Int) (k : Nat) : List Nat := (List.range k).map fun j => (FR j).toNat
theorem frees_succ (FR : Nat → Int) (k : Nat) : frees FR (k + 1) = frees FR k ++ [(FR k).toNat] := by simp [frees, List.range_succ]

/-- What wellFormed hands back. -/
def WellOut (w : World) (n nb na nr nf : Nat) (ID : Nat → ByteArray) (B A FR : Nat → Int) (e : Ending) (w' : World) : Prop :=
  Keeps Nob w w' ∧
  (e = .returned (.tuple #[.slice none 0 0, .map none, .bool false]) ∨
   (n = 0 ∧ nb = 0 ∧ na = 0 ∧ nr = 0 ∧ nf = 0 ∧ e = .returned (.tuple #[.slice none 0 0, .map none, .bool true])) ∨
   (0 < n ∧ nb = n ∧ na = n ∧ nr = n ∧ ∃ L, RingOK n B A L ∧ (L.map ID).Nodup ∧ FreeOK n L nf FR ∧ ∃ ao c bm, e = .returned (.tuple #[.slice ao L.length c, .map (some bm), .bool true]) ∧
      w.heap.size ≤ bm ∧ bm < w'.heap.size ∧ SlF encI w' w.heap.size bm ao L.length (fun j => (L.getD j 0 : Int)) ∧ OwnM w' bm (idx ID L) L.length L.length))

theorem WellOut.no {w : World} {n nb na nr nf : Nat} {ID : Nat → ByteArray} {B A FR : Nat → Int} {w' : World} (h : Keeps Nob w w') : WellOut w n nb na nr nf ID B A FR (.returned (.tuple #[.slice none 0 0, .map none, .bool false])) w' := ⟨h, .inl rfl⟩

set_option maxHeartbeats 2000000 in
theorem wellFormed_any (a0 a1 a2 a3 a4 : Option Addr) (n c nb c1 na c2 nr c3 nf c4 hi0 hi1 hi2 hi4 : Nat) (ID : Nat → ByteArray) (B A FR : Nat → Int) (w : World) (hn : n ≤ 1048576) (hnf : nf ≤ 1048576)
    (h0 : SlF Value.string w 0 hi0 a0 n ID) (h1 : SlF encI w 0 hi1 a1 nb B) (h2 : SlF encI w 0 hi2 a2 na A) (h4 : SlF encI w 0 hi4 a4 nf FR) (hID : ∀ j, j < n → (ID j).size ≤ maxLen)
    (k0 : hi0 ≤ w.heap.size) (k4 : hi4 ≤ w.heap.size) :
    Calls Try.prog 15 #[.slice a0 n c, .slice a1 nb c1, .slice a2 na c2, .slice a3 nr c3, .slice a4 nf c4] w (WellOut w n nb na nr nf ID B A FR) := by
  have hmm := @run_makeMap Try.prog
  by_cases e1 : nb = n
  case neg =>
    have t1 : ((nb : Int) != n) = true := by simp; omega
    go_enter Try.func15, Try.ntmps15
    go_wp2
    go_ret3
    exact WellOut.no (Keeps.refl _ _)
  subst e1
  by_cases e2 : na = nb
  case neg =>
    have t1 : ((na : Int) != nb) = true := by simp; omega
    go_enter Try.func15, Try.ntmps15
    go_wp2
    go_ret3
    exact WellOut.no (Keeps.refl _ _)
  subst e2
  by_cases e3 : nr = na
  case neg =>
    have t1 : ((nr : Int) != na) = true := by simp; omega
    go_enter Try.func15, Try.ntmps15
    go_wp2
    go_ret3
    exact WellOut.no (Keeps.refl _ _)
  subst e3
  by_cases e4 : nr = 0
  · subst e4
    by_cases e5 : nf = 0
    · subst e5
      go_enter Try.func15, Try.ntmps15
      go_wp2
      go_ret3
      exact ⟨Keeps.refl _ _, .inr (.inl ⟨rfl, rfl, rfl, rfl, rfl, rfl⟩)⟩
    · have t5 : ((nf : Int) == 0) = false := by simp; omega
      go_enter Try.func15, Try.ntmps15
      go_wp2
      go_ret3
      exact WellOut.no (Keeps.refl _ _)
  have t4 : ((nr : Int) == 0) = false := by simp; omega
  have hr0 : 0 < nr := by omega
  obtain ⟨b0, o0, rfl, -, hb0, hI⟩ := h0 hr0
  replace hb0 : b0 < w.heap.size := by omega
  clear h0 k0
  go_enter Try.func15, Try.ntmps15
  go_wp2_with (go_at_call 22; refine (ringOrder_any a1 a2 nr c1 c2 0 hi1 0 hi2 B A w hr0 hn h1 h2).mono ?_)
  rintro e w1 ⟨hK1, hm⟩
  cases hR : ringF nr B A with
  | none =>
    rw [hR] at hm
    have hm : e = _ := hm
    subst hm
    clear hR
    go_wp2
    go_ret3
    exact WellOut.no hK1
  | some L =>
    rw [hR] at hm
    obtain ⟨ao, co, rfl, hO⟩ := hm
    have hR : Hid (RingOK nr B A L) := (ringF_iff hr0 L).1 hR
    have hLl : L.length ≤ nr := nodup_len nr L hR.out.nodup (fun x hx => (hR.out.range x hx).2)
    go_wp2_with (at_make; refine wpList_make_blk _ rfl _ _ 60 rfl 4 (.bool false) 1 rfl Try.underlying60 Try.info4 _ _ nr rfl rfl (by omega) (by unfold maxLen; omega) ?_; intro w2 hS hK2; have hc0 : w2.cell? ⟨w1.heap.size, 0, none⟩ = some (.bool false) := (by rw [hS.cell]; simp [hr0]); have hf0 := hS.free 0)
    have hS1 := (hS.set 0 (.bool true)).alloc (.map #[] 0)
    rw [seenC_start] at hS1
    have hKa : Keeps Nob w1 ((w2.setCell ⟨w1.heap.size, 0, none⟩ (.bool true)).alloc (.map #[] 0)) := (hK2.setNew (p := ⟨w1.heap.size, 0, none⟩) (Nat.le_refl _) (.bool true)).alloc _
    have hM := OwnM.made (w2.setCell ⟨w1.heap.size, 0, none⟩ (.bool true))
    have e1 : (w2.setCell ⟨w1.heap.size, 0, none⟩ (.bool true)).heap.size = w2.heap.size := by simp
    rw [e1] at hM
    have hlt2 := hS.lt
    generalize hw3 : (w2.setCell ⟨w1.heap.size, 0, none⟩ (.bool true)).alloc (.map #[] 0) = w3 at hS1 hKa hM
    have hs3 : w2.heap.size < w3.heap.size := by rw [← hw3]; simp
    clear hw3 hc0 hf0 hS hK2 e1
    generalize hbm : w2.heap.size = bm at hM hlt2 hs3
    clear hbm w2
    have hKw : Keeps Nob w w3 := hK1.trans (hKa.mono fun _ _ h => h)
    have hO3 := hO.keep hKa (Nat.le_refl _) (fun _ _ _ h => h)
    have hs1 : w.heap.size ≤ w1.heap.size := hK1.size
    clear hKa hO hK1 h1 h2
    go_loopw [62] (fun i wr => ∃ (k : Nat), k ≤ L.length ∧ i = .int .i64 k ∧ SlF encI wr w.heap.size w1.heap.size ao L.length (fun j => (L.getD j 0 : Int)) ∧ Blk wr w1.heap.size 4 (seenC nr (L.take k)) ∧ OwnM wr bm (idx ID (L.take k)) k k ∧ ((L.take k).map ID).Nodup ∧ Keeps Nob w wr ∧ bm < wr.heap.size) (fun i _ => L.length - (intOf i).toNat)
    case atStart => exact ⟨0, Nat.zero_le _, rfl, hO3, hS1, hM, by simp, hKw, hs3⟩
    case round =>
      clear hKw hO3 hM hS1 hs3 w3
      obtain ⟨k, hk, rfl, hO, hS, hM, hd, hK, hs⟩ := hrel
      by_cases hlt : k < L.length
      · obtain ⟨bo, oo, rfl, hbo1, hbo2, hOc⟩ := hO (by omega)
        have hO' : Hid True := trivial
        obtain ⟨x, hx⟩ : ∃ x, L.getD k 0 = x := ⟨_, rfl⟩
        have hOx := hOc k hlt
        simp only [hx] at hOx
        clear hOc
        have hxL : L[k]? = some x := by rw [← hx]; simp [hlt]
        have hxm : x ∈ L := List.mem_of_getElem? hxL
        have hxr := hR.out.range x hxm
        have hIx := (hK.cell (p := ⟨b0, o0 + x, none⟩) hb0 (fun h => h)).trans (hI x hxr.2)
        have hsx : wr.cell? ⟨w1.heap.size, x, none⟩ = some (.bool (decide (x = 0 ∨ x ∈ L.take k))) := by rw [hS.cell, seenC_get hxr.2]
        have hfx := hS.free x
        have hS4 := hS.set x (.bool true)
        rw [seenC_set] at hS4
        have htk : L.take k ++ [x] = L.take (k + 1) := by
          rw [List.take_add_one, hxL]; rfl
        have hM4 : OwnM (wr.setCell ⟨w1.heap.size, x, none⟩ (.bool true)) bm (idx ID (L.take k)) k k := hM.keep ((Keeps.refl (fun i => i = w1.heap.size) wr).setCell (p := ⟨w1.heap.size, x, none⟩) rfl (.bool true)) (by omega)
        have hK4 : Keeps Nob w (wr.setCell ⟨w1.heap.size, x, none⟩ (.bool true)) := hK.setNew (p := ⟨w1.heap.size, x, none⟩) hs1 (.bool true)
        have hbl : b0 < w1.heap.size := by omega
        have hidl := hID x hxr.2
        have HX : Hid (L.getD k 0 = x) := hx
        clear hx hxL hO'
        by_cases hdup : (idx ID (L.take k) (ID x)).isSome = true
        · go_wp2_with (at_lookup; refine wpList_mlook_ok rfl _ _ rfl rfl hM4 (ID x) rfl hidl ?_)
          go_ret3
          exact WellOut.no hK4
        · have hdup' : (idx ID (L.take k) (ID x)).isSome = false := by simpa using hdup
          have hnin : ID x ∉ (L.take k).map ID := fun h => hdup ((idx_isSome _ _ _).2 h)
          clear hdup
          go_wp2_with (first | (at_lookup; refine wpList_mlook_ok rfl _ _ rfl rfl hM4 (ID x) rfl hidl ?_) | (at_mapUpdate; refine wpList_mstore rfl _ _ _ rfl rfl hM4 (by omega) (ID x) rfl hidl (x : Int) rfl (WalkArith.wf_i64 (by omega)) ?_; intro w5 hM5 hK5))
          have hK5' : Keeps Nob w w5 := ⟨hK5.os.trans hK4.os, hK5.tape.trans hK4.tape, hK5.output.trans hK4.output, Nat.le_trans hK4.size hK5.size, fun i hi hn => (hK5.block i (by simp; omega) (by omega)).trans (hK4.block i hi hn)⟩
          have hS5 := hS4.keep hK5 (by omega)
          have hO5 : SlF encI w5 w.heap.size w1.heap.size (some ⟨bo, oo, none⟩) L.length (fun j => (L.getD j 0 : Int)) := (hO.keep ((Keeps.refl (fun i => i = w1.heap.size) wr).setCell (p := ⟨w1.heap.size, x, none⟩) rfl (.bool true)) (by omega) (by intro i h1 h2; omega)).keep hK5 (by simp; omega) (by intro i h1 h2; omega)
          have hs5 := hM5.lt
          rw [hdup'] at hM5
          rw [htk] at hS5
          refine ⟨?rel, ?measure⟩
          case rel => exact ⟨k + 1, hlt, by go_num, hO5, hS5, by rw [← htk, idx_snoc]; exact hM5, by rw [← htk, List.map_append, List.nodup_append]; exact ⟨hd, by simp, by intro a ha b hb e; simp at hb; subst hb; exact hnin (e ▸ ha)⟩, hK5', hs5⟩
          case measure => simp [intOf]; omega
      · have hkl : k = L.length := by omega
        subst hkl
        go_wp2
        have hKw := hK
        have hs2 := hs
        have htl : L.take L.length = L := List.take_length
        rw [htl] at hS hM hd
        have hSt : seenC nr L = seenC nr (L ++ frees FR 0) := by simp [frees]
        rw [hSt] at hS
        clear hSt htl hlt hk
        go_loopw [88] (fun i wr => ∃ (k : Nat), k ≤ nf ∧ i = .int .i64 k ∧ SlF encI wr w.heap.size w1.heap.size ao L.length (fun j => (L.getD j 0 : Int)) ∧ Blk wr w1.heap.size 4 (seenC nr (L ++ frees FR k)) ∧ OwnM wr bm (idx ID L) L.length L.length ∧ Hid (FreeOK nr L k FR) ∧ Keeps Nob w wr ∧ bm < wr.heap.size) (fun i _ => nf - (intOf i).toNat)
        case atStart => exact ⟨0, Nat.zero_le _, rfl, hO, hS, hM, ⟨fun k h => absurd h (by omega), fun k h => absurd h (by omega), fun k h => absurd h (by omega)⟩, hK, hs⟩
        case round =>
          clear hO hS hM hK hs hKw hs2
          obtain ⟨k, hk, rfl, hO, hS, hM, hF, hK, hs⟩ := hrel
          by_cases hlt : k < nf
          · obtain ⟨b4, o4, rfl, -, hb4, hF4⟩ := h4 (by omega)
            have hFk := (hK.cell (p := ⟨b4, o4 + k, none⟩) (by show b4 < _; omega) (fun h => h)).trans (hF4 k hlt)
            clear hF4
            by_cases c1 : FR k ≤ 0
            · go_wp2
              go_ret3
              exact WellOut.no hK
            by_cases c2 : (nr : Int) ≤ FR k
            · go_wp2
              go_ret3
              exact WellOut.no hK
            obtain ⟨x, hx⟩ : ∃ x : Nat, FR k = x := ⟨(FR k).toNat, by omega⟩
            have hxn : x < nr := by omega
            have hx0 : 0 < x := by omega
            rw [hx] at hFk
            have hHx : Hid (FR k = x) := hx
            clear hx c1 c2
            have hfx := hS.free x
            by_cases c3 : x ∈ L ++ frees FR k
            · have hsx : wr.cell? ⟨w1.heap.size, x, none⟩ = some (.bool true) := by rw [hS.cell, seenC_get hxn, decide_eq_true (.inr c3)]
              clear c3
              go_wp2
              go_ret3
              exact WellOut.no hK
            · have hsx : wr.cell? ⟨w1.heap.size, x, none⟩ = some (.bool false) := by rw [hS.cell, seenC_get hxn, decide_eq_false]; rintro (h | h); omega; exact c3 h
              have hC3 : Hid (¬ x ∈ L ++ frees FR k) := c3
              clear c3
              go_wp2
              refine ⟨?rel, ?measure⟩
              case rel =>
                have hKs := (Keeps.refl (fun i => i = w1.heap.size) wr).setCell (p := ⟨w1.heap.size, x, none⟩) rfl (.bool true)
                refine ⟨k + 1, hlt, by go_num, hO.keep hKs (by omega) (by intro i h1 h2; omega), ?_, hM.keep hKs (by omega), ?_, hK.setNew (p := ⟨w1.heap.size, x, none⟩) hs1 (.bool true), by simpa using hs⟩
                · have := hS.set x (.bool true)
                  rw [seenC_set] at this
                  rw [frees_succ, hHx.out]
                  simpa using this
                · have hF := hF.out
                  have hx := hHx.out
                  have hn := hC3.out
                  rw [List.mem_append] at hn
                  refine ⟨fun j hj => ?_, fun j hj => ?_, fun j hj i hi => ?_⟩
                  · by_cases e : j = k
                    · subst e; rw [hx]; omega
                    · exact hF.range j (by omega)
                  · by_cases e : j = k
                    · subst e; rw [hx]; exact fun h => hn (.inl (by simpa using h))
                    · exact hF.notin j (by omega)
                  · by_cases e : j = k
                    · subst e
                      intro h
                      refine hn (.inr (List.mem_map.2 ⟨i, by simpa using hi, ?_⟩))
                      rw [h, hx]; rfl
                    · exact hF.apart j (by omega) i hi
              case measure => simp [intOf]; omega
          · have hkf : k = nf := by omega
            subst hkf
            go_wp2
            go_ret3
            refine ⟨hK, .inr (.inr ⟨hr0, rfl, rfl, rfl, L, hR.out, hd, hF.out, ao, co, bm, rfl, by omega, hs, hO.wide (Nat.le_refl _) (by omega), hM⟩)⟩
end Go.Proofs.Qxb6619702a
