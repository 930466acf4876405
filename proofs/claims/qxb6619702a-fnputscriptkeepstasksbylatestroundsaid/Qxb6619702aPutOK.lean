import Derived.Test.Qxb6619702aFin
/-! put, in each of its ways, in the one form that the law takes. -/
namespace Go.Proofs.Qxb6619702a
open Go.RowKit

theorem SlF.less {α : Type} {enc : α → Value} {w : World} {lo hi : Nat} {ao : Option Addr} {n q : Nat} {F : Nat → α} (h : SlF enc w lo hi ao n F) (hq : q ≤ n) : SlF enc w lo hi ao q F := by
  intro h0
  obtain ⟨b, o, h1, h2, h3, h4⟩ := h (by omega)
  exact ⟨b, o, h1, h2, h3, fun j hj => h4 j (by omega)⟩
/-- The slots of L but i. -/
def without (i : Int) (L : List Nat) : List Nat := L.filter fun s : Nat => decide ((s : Int) ≠ i)
theorem without_le (i : Int) (L : List Nat) : (without i L).length ≤ L.length := List.length_filter_le _ _
theorem without_drop {i : Int} {L : List Nat} {x : Nat} (h : (x : Int) = i) : without i (L ++ [x]) = without i L := by simp [without, List.filter_append, h]
theorem without_keep {i : Int} {L : List Nat} {x : Nat} (h : ¬ (x : Int) = i) : without i (L ++ [x]) = without i L ++ [x] := by simp [without, List.filter_append, h]

def PutOK (n nf m q : Nat) (ix : Option Nat) (L : List Nat) (ID : Nat → ByteArray) (FR : Nat → Int) (S0 S' : Slots) (M' : ByteArray → Option Int) (N' : Nat) (i : Int) (id : ByteArray) (t : Int) (pr : ByteArray) : Prop :=
  ∀ (w : World) (tb cf : Nat) (af : Option Addr) (v : Value), Blk w tb 63 [v, .slice af nf cf, .map ix] → w.ownsRow (tb + 1) 65 12 v n (cellsS n S0) → SlF encI w 0 tb af nf FR → nf ≤ cf → (∀ b, ix = some b → b < tb ∧ OwnM w b (idx ID L) L.length L.length) → (n = 0 → v = .slice none 0 0) →
    Calls Try.prog 28 #[.pointer (some ⟨tb, 0, none⟩), .int .i64 i, .string id, taskV t pr] w fun e w' => e = .returned (.tuple #[]) ∧ ∃ g c bm KK, Blk w' tb 63 [.slice (some ⟨g, 0, none⟩) m c, .slice af q cf, .map (some bm)] ∧
      w'.ownsRow (tb + 1) 65 12 (.slice (some ⟨g, 0, none⟩) m c) m (cellsS m S') ∧ OwnM w' bm M' N' KK ∧ Keeps (fun k => ix = some k ∨ tb ≤ k) w w'

theorem ok_old {n nf b : Nat} {L1 L2 : List Nat} {ID : Nat → ByteArray} {FR B A R : Nat → Int} {j a bb l : Nat} {id : ByteArray} {t : Int} {pr : ByteArray} (hn : 0 < n) (hn' : n ≤ 1048576)
    (hr : RingOK n B A (L1 ++ j :: L2)) (hb : B j = (bb : Int)) (ha : A j = (a : Int)) (hl : upd B a (bb : Int) 0 = (l : Int)) (hbn : bb < n) (han : a < n) (hln : l < n) (hlj : l ≠ j) :
    PutOK n nf n nf (some b) (L1 ++ j :: L2) ID FR ⟨R, fun _ => ⟨#[]⟩, ID, B, A⟩ (putS (setB (setA ⟨R, fun _ => ⟨#[]⟩, ID, B, A⟩ bb a) a bb) j l t pr) (idx ID (L1 ++ j :: L2)) (L1 ++ L2 ++ [j]).length j id t pr := by
  intro w tb cf af v hT hown _ _ hM _
  obtain ⟨g, c, rfl, hg, hg2⟩ := hown.form hn
  obtain ⟨hbt, hMb⟩ := hM b rfl
  have hj := hr.range j (by simp)
  refine (put_old tb g n c j a bb l _ _ _ id t pr w hj.1 hj.2 han hbn hln hlj hn' hT hown hb ha hl).mono ?_
  rintro e w' ⟨rfl, hK, hown'⟩
  have h1 := hMb.keep hK (by omega)
  have e : (L1 ++ L2 ++ [j]).length = (L1 ++ j :: L2).length := by simp
  exact ⟨rfl, g, c, b, (L1 ++ j :: L2).length, hT.keep hK (by omega), hown', by rw [e]; exact h1, hK.mono fun k _ hk => .inr (by omega)⟩

theorem ok_free {n nf q b x : Nat} {L : List Nat} {ID : Nat → ByteArray} {FR : Nat → Int} {S0 : Slots} {l : Nat} {id : ByteArray} {t : Int} {pr : ByteArray} (hn : 0 < n) (hn' : n ≤ 1048576) (hnf : nf = q + 1) (hnf' : nf ≤ 1048576) (hL : L.length < 1000000000)
    (hx0 : 0 < x) (hx : x < n) (hFR : FR q = (x : Int)) (hl : l < n) (hlx : l ≠ x) (hid : id.size ≤ maxLen) (hl0 : S0.B 0 = (l : Int)) (hnew : Hid (idx ID L id = none)) :
    PutOK n nf n q (some b) L ID FR S0 (putS (setID S0 x id) x l t pr) (put (idx ID L) id x) (L ++ [x]).length 0 id t pr := by
  intro w tb cf af v hT hown hF hcf hM _
  obtain ⟨g, c, rfl, hg, hg2⟩ := hown.form hn
  obtain ⟨hbt, hMb⟩ := hM b rfl
  have htl := hT.lt
  refine (put_new tb n x l nf q cf b L.length L.length _ af _ n S0 (idx ID L) id t pr w hx0 hx hl hlx hn' hL hid hl0 hT hown hMb hnew ?_).mono ?_
  · intro W hKW
    exact vac_free hn (hT.keep hKW (fun h => h)) (ownsRow_keep hown hKW (fun _ _ h => h)) hnf (hF.keep hKW (by omega) (fun _ _ _ h => h)) hcf hnf' hFR
  · rintro e w' ⟨rfl, g', c', hown', hT', hM', hK', _⟩
    refine ⟨rfl, g', c', b, _, hT', hown', by rw [List.length_append]; exact hM', hK'.mono fun k _ hk => ?_⟩
    rcases hk with h | h | h
    · exact .inr (by omega)
    · simp [Value.ownBlock] at h; exact .inr (by omega)
    · exact .inl (by rw [h])

theorem ok_new {n b : Nat} {L : List Nat} {ID : Nat → ByteArray} {FR : Nat → Int} {S0 : Slots} {l : Nat} {id : ByteArray} {t : Int} {pr : ByteArray} (hn : 0 < n) (hn' : n + 1 ≤ 1048576) (hL : L.length < 1000000000)
    (hl : l < n) (hid : id.size ≤ maxLen) (hl0 : S0.B 0 = (l : Int)) (hnew : Hid (idx ID L id = none)) :
    PutOK n 0 (n + 1) 0 (some b) L ID FR S0 (putS (setID (zeroAt S0 n) n id) n l t pr) (put (idx ID L) id n) (L ++ [n]).length 0 id t pr := by
  intro w tb cf af v hT hown hF hcf hM _
  obtain ⟨g, c, rfl, hg, hg2⟩ := hown.form hn
  obtain ⟨hbt, hMb⟩ := hM b rfl
  have htl := hT.lt
  have hz0 : (zeroAt S0 n).B 0 = (l : Int) := by show upd S0.B n 0 0 = _; rw [upd_other (by omega)]; exact hl0
  refine (put_new tb (n + 1) n l 0 0 cf b L.length L.length _ af _ n (zeroAt S0 n) (idx ID L) id t pr w hn (by omega) (by omega) (by omega) hn' hL hid hz0 hT hown hMb hnew ?_).mono ?_
  · intro W hKW
    exact vac_new hn (by omega) (hT.keep hKW (fun h => h)) (ownsRow_keep hown hKW (fun _ _ h => h))
  · rintro e w' ⟨rfl, g', c', hown', hT', hM', hK', _⟩
    refine ⟨rfl, g', c', b, _, hT', hown', by rw [List.length_append]; exact hM', hK'.mono fun k _ hk => ?_⟩
    rcases hk with h | h | h
    · exact .inr (by omega)
    · simp [Value.ownBlock] at h; exact .inr (by omega)
    · exact .inl (by rw [h])

theorem ok_zero {L : List Nat} {ID : Nat → ByteArray} {FR : Nat → Int} {S0 : Slots} {id : ByteArray} {t : Int} {pr : ByteArray} (hid : id.size ≤ maxLen) :
    PutOK 0 0 2 0 none L ID FR S0 (putS (setID (zeroAt (zeroAt S0 0) 1) 1 id) 1 0 t pr) (put (fun _ => none) id ((1 : Nat) : Int)) 1 0 id t pr := by
  intro w tb cf af v hT hown _ _ _ hv
  obtain rfl := hv rfl
  have htl := hT.lt
  refine (put_zero tb cf af S0 id t pr w hid hT).mono ?_
  rintro e w' ⟨rfl, g, c, bm, h1, h2, h3, h4, _, _⟩
  exact ⟨rfl, g, c, bm, 0 + 1, h2, h1, h3, h4.mono fun k _ hk => .inr (by omega)⟩
/-- A slice that came in. -/
structure Arg {α : Type} (enc : α → Value) (w : World) (ao : Option Addr) (n c : Nat) (F : Nat → α) : Prop where
  nil : ao = none → n = 0 ∧ c = 0
  cells : SlF enc w 0 w.heap.size ao n F
  le : n ≤ 9223372036854775807

/-- wellFormed's outcome in one form: refused; or a ring L (empty, and no index, where there are no slots). -/
structure WGood (n nb na nr nf : Nat) (ID : Nat → ByteArray) (B A FR : Nat → Int) (L : List Nat) (ix : Option Nat) : Prop where
  lens : nb = n ∧ na = n ∧ nr = n
  zero : n = 0 → L = [] ∧ ix = none ∧ nf = 0
  pos : 0 < n → RingOK n B A L ∧ (L.map ID).Nodup ∧ FreeOK n L nf FR ∧ ix.isSome = true

theorem WellOut.uni {w : World} {n nb na nr nf : Nat} {ID : Nat → ByteArray} {B A FR : Nat → Int} {e : Ending} {w' : World} (h : WellOut w n nb na nr nf ID B A FR e w') :
    Keeps Nob w w' ∧ (e = .returned (.tuple #[.slice none 0 0, .map none, .bool false]) ∨
      ∃ L ao c ix bm, e = .returned (.tuple #[.slice ao L.length c, .map ix, .bool true]) ∧ WGood n nb na nr nf ID B A FR L ix ∧ w.heap.size ≤ bm ∧ bm ≤ w'.heap.size ∧ SlF encI w' w.heap.size bm ao L.length (fun j => (L.getD j 0 : Int)) ∧
        ∀ b, ix = some b → b = bm ∧ bm < w'.heap.size ∧ OwnM w' bm (idx ID L) L.length L.length) := by
  obtain ⟨hK, h⟩ := h
  refine ⟨hK, ?_⟩
  rcases h with h | ⟨rfl, rfl, rfl, rfl, rfl, h⟩ | ⟨h0, rfl, rfl, rfl, L, h1, h2, h3, ao, c, bm, h4, h5, h6, h7, h8⟩
  · exact .inl h
  · exact .inr ⟨[], none, 0, none, w.heap.size, h, ⟨⟨rfl, rfl, rfl⟩, fun _ => ⟨rfl, rfl, rfl⟩, fun h => absurd h (by omega)⟩, Nat.le_refl _, hK.size, fun h => absurd h (by simp), fun b hb => by cases hb⟩
  · exact .inr ⟨L, ao, c, some bm, bm, h4, ⟨⟨rfl, rfl, rfl⟩, fun h => by omega, fun _ => ⟨h1, h2, h3, rfl⟩⟩, h5, Nat.le_of_lt h6, h7, fun b hb => by cases hb; exact ⟨rfl, h6, h8⟩⟩

end Go.Proofs.Qxb6619702a
