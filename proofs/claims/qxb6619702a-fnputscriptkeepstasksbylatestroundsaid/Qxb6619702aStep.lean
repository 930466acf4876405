import Derived.Test.Qxb6619702aIx
/-! One put of a script, in each of its ways. -/
namespace Go.Proofs.Qxb6619702a
open Go.RowKit

abbrev noP : Nat → ByteArray := fun _ => ⟨#[]⟩
theorem upd_const {α : Type} (c : α) (i : Nat) : upd (fun _ => c) i c = fun _ => c := by
  funext j; unfold upd; split <;> rfl
theorem slots_eta {S : Slots} (h : S.P = noP) : S = ⟨S.R, noP, S.ID, S.B, S.A⟩ := by
  cases S; simp at h; subst h; rfl

/-- A table's tasks in the ring's order: id and round. -/
def prs (R : Nat → Int) (ID : Nat → ByteArray) (L : List Nat) : List (ByteArray × Int) := L.map fun s => (ID s, R s)
theorem prs_append (R : Nat → Int) (ID : Nat → ByteArray) (L1 L2 : List Nat) : prs R ID (L1 ++ L2) = prs R ID L1 ++ prs R ID L2 := by simp [prs]
theorem prs_congr {R R' : Nat → Int} {ID ID' : Nat → ByteArray} {L : List Nat} (h : ∀ s ∈ L, ID' s = ID s ∧ R' s = R s) : prs R' ID' L = prs R ID L := by
  unfold prs
  exact List.map_congr_left fun s hs => by rw [(h s hs).1, (h s hs).2]
def drop (x : ByteArray) (P : List (ByteArray × Int)) : List (ByteArray × Int) := P.filter fun p => decide (p.1 ≠ x)
theorem drop_append (x : ByteArray) (P Q : List (ByteArray × Int)) : drop x (P ++ Q) = drop x P ++ drop x Q := by simp [drop, List.filter_append]
theorem drop_none {x : ByteArray} {P : List (ByteArray × Int)} (h : x ∉ P.map (·.1)) : drop x P = P := by
  unfold drop
  refine List.filter_eq_self.2 fun p hp => ?_
  have : p.1 ≠ x := fun e => h (List.mem_map.2 ⟨p, hp, e⟩)
  simpa using this
theorem prs_names (R : Nat → Int) (ID : Nat → ByteArray) (L : List Nat) : (prs R ID L).map (·.1) = L.map ID := by simp [prs]

theorem idx_eq {ID : Nat → ByteArray} {L L' : List Nat} (hd : (L.map ID).Nodup) (hd' : (L'.map ID).Nodup) (h : ∀ s, s ∈ L ↔ s ∈ L') : idx ID L = idx ID L' := by
  funext x
  cases hv : idx ID L x with
  | some c =>
    obtain ⟨j, hj, rfl, rfl⟩ := idx_some hv
    exact (idx_val hd' ((h j).1 hj)).symm
  | none =>
    cases hv' : idx ID L' x with
    | none => rfl
    | some c =>
      obtain ⟨j, hj, rfl, rfl⟩ := idx_some hv'
      rw [idx_val hd ((h j).2 hj)] at hv
      cases hv
theorem idx_congr {ID ID' : Nat → ByteArray} {L : List Nat} (h : ∀ s ∈ L, ID' s = ID s) : idx ID' L = idx ID L := by
  unfold idx
  generalize (fun _ => none : ByteArray → Option Int) = M
  induction L generalizing M with
  | nil => rfl
  | cons x L ih =>
    simp only [List.foldl_cons]
    rw [h x (by simp)]
    exact ih (fun s hs => h s (by simp [hs])) _

/-- What one put does to the pairs, the number of slots and the number of free ones. -/
structure Trans (n nf : Nat) (L : List Nat) (R : Nat → Int) (ID : Nat → ByteArray) (x : ByteArray) (r : Int) (n' nf' : Nat) (L' : List Nat) (R' : Nat → Int) (ID' : Nat → ByteArray) : Prop where
  sizes : ∀ s ∈ L', (ID' s).size ≤ maxLen
  pairs : prs R' ID' L' = drop x (prs R ID L) ++ [(x, r)]
  count : (x ∈ L.map ID ∧ n' = n ∧ nf' = nf) ∨ (x ∉ L.map ID ∧ ((nf = nf' + 1 ∧ n' = n ∧ 0 < n) ∨ (nf = 0 ∧ nf' = 0 ∧ ((n = 0 ∧ n' = 2) ∨ (0 < n ∧ n' = n + 1)))))

/-- A table that holds the ring L. -/
def St (w : World) (tb bm cf : Nat) (af : Option Addr) (FR : Nat → Int) (n nf : Nat) (L : List Nat) (R : Nat → Int) (ID : Nat → ByteArray) (B A : Nat → Int) : Prop :=
  ∃ v ix, Blk w tb 63 [v, .slice af nf cf, .map ix] ∧ w.ownsRow (tb + 1) 65 12 v n (cellsS n ⟨R, noP, ID, B, A⟩) ∧ (n = 0 → v = .slice none 0 0) ∧
    (∀ b, ix = some b → (b = bm ∨ tb ≤ b) ∧ OwnM w b (idx ID L) L.length L.length) ∧ WGood n n n n nf ID B A FR L ix


section
variable {w : World} {tb bm cf n nf : Nat} {af : Option Addr} {FR R B A : Nat → Int} {L : List Nat} {ID : Nat → ByteArray} {x : ByteArray} {r : Int}

/-- put's outcome on a table. -/
def StepRest (w : World) (tb bm cf : Nat) (af : Option Addr) (FR : Nat → Int) (n nf : Nat) (L : List Nat) (R : Nat → Int) (ID : Nat → ByteArray) (x : ByteArray) (r : Int) (w' : World) : Prop :=
  Keeps (fun k => k = bm ∨ tb ≤ k) w w' ∧ ∃ n' nf' L' R' ID' B' A', Trans n nf L R ID x r n' nf' L' R' ID' ∧ St w' tb bm cf af FR n' nf' L' R' ID' B' A'
def StepOut (w : World) (tb bm cf : Nat) (af : Option Addr) (FR : Nat → Int) (n nf : Nat) (L : List Nat) (R : Nat → Int) (ID : Nat → ByteArray) (x : ByteArray) (r : Int) (e : Ending) (w' : World) : Prop :=
  e = .returned (.tuple #[]) ∧ StepRest w tb bm cf af FR n nf L R ID x r w'

theorem step_old {L1 L2 : List Nat} {j : Nat} (hSt : St w tb bm cf af FR n nf (L1 ++ j :: L2) R ID B A) (hn : n ≤ 1048576) (hsz : ∀ s ∈ L1 ++ j :: L2, (ID s).size ≤ maxLen) :
    Calls Try.prog 28 #[.pointer (some ⟨tb, 0, none⟩), .int .i64 j, .string (ID j), taskV r ⟨#[]⟩] w (StepOut w tb bm cf af FR n nf (L1 ++ j :: L2) R ID (ID j) r) := by
  obtain ⟨v, ix, hT, hown, hv, hM, hg⟩ := hSt
  have hn0 : 0 < n := by
    rcases Nat.eq_zero_or_pos n with h | h
    · have := (hg.zero h).1; simp at this
    · exact h
  obtain ⟨hr, hd, hf, hix⟩ := hg.pos hn0
  obtain ⟨b, rfl⟩ := Option.isSome_iff_exists.1 hix
  obtain ⟨hbb, hMb⟩ := hM b rfl
  obtain ⟨hB, a, ha, ha2⟩ := ring_nbrs hr
  have hrr := ring_remove hr hB ha
  have hl := hrr.last
  have hjn := hr.range j (by simp)
  have hbn : lastOf 0 L1 < n := by
    rcases List.mem_cons.1 (lastOf_mem L1 0) with e | e
    · omega
    · exact (hr.range _ (by simp [e])).2
  have han : a < n := by
    rw [ha2]
    cases L2 with
    | nil => simpa using hn0
    | cons y L2 => simpa using (hr.range y (by simp)).2
  obtain ⟨hlj, hln, hfin⟩ := fin_old (R := R) (r := r) (p := ⟨#[]⟩) hn0 hr hd hB ha hl
  obtain ⟨g, c, rfl, hgb, hg2⟩ := hown.form hn0
  have hgb' := hMb.ne_row hown
  refine (put_old tb g n c j a _ _ _ _ _ (ID j) r ⟨#[]⟩ w hjn.1 hjn.2 han hbn hln hlj hn hT hown hB ha hl).mono ?_
  rintro e w' ⟨rfl, hK, hown'⟩
  have hM1 := hMb.keep hK (fun h => hgb' h.symm)
  have hP : (putS (setB (setA ⟨R, noP, ID, B, A⟩ (lastOf 0 L1) a) a (lastOf 0 L1)) j (lastOf 0 (L1 ++ L2)) r ⟨#[]⟩).P = noP := upd_const _ _
  rw [slots_eta hP] at hown'
  have hmem : ∀ s, s ∈ L1 ++ j :: L2 ↔ s ∈ L1 ++ L2 ++ [j] := fun s => by simp; grind
  have hnd0 := hr.nodup
  have hj1 : j ∉ L1 ++ L2 := by
    rw [List.nodup_append] at hnd0
    obtain ⟨_, h2, h3⟩ := hnd0
    intro hm
    rcases List.mem_append.1 hm with e | e
    · exact h3 j e j (by simp) rfl
    · exact (List.nodup_cons.1 h2).1 e
  have hname : ∀ s ∈ L1 ++ L2, ID s ≠ ID j := fun s hs e => hj1 (nodup_inj hd (by rcases List.mem_append.1 hs with h | h <;> simp [h]) (by simp) e ▸ hs)
  have hd' : ((L1 ++ L2 ++ [j]).map ID).Nodup := by
    rw [List.map_append, List.nodup_append]
    refine ⟨?_, by simp, ?_⟩
    · have : (L1 ++ L2).map ID = L1.map ID ++ L2.map ID := by simp
      rw [List.map_append, List.map_cons, List.nodup_append] at hd
      obtain ⟨h1, h2, h3⟩ := hd
      rw [this, List.nodup_append]
      exact ⟨h1, (List.nodup_cons.1 h2).2, fun a ha b hb => h3 a ha b (List.mem_cons_of_mem _ hb)⟩
    · intro a ha b hb
      obtain ⟨s, hs, rfl⟩ := List.mem_map.1 ha
      obtain rfl : b = ID j := by simpa using hb
      exact hname s hs
  refine ⟨rfl, hK.mono fun k _ hk => .inr (by omega), n, nf, L1 ++ L2 ++ [j], _, ID, _, _, ⟨fun s hs => hsz s ((hmem s).2 hs), ?_, .inl ⟨by simp, rfl, rfl⟩⟩, _, some b, hT.keep hK (by omega), hown', fun h => by omega, fun b' hb' => ?_, ⟨⟨rfl, rfl, rfl⟩, fun h => by omega, fun _ => ⟨hfin.ring, hd', ⟨hf.range, fun k hk hm => hf.notin k hk ((hmem _).2 hm), hf.apart⟩, rfl⟩⟩⟩
  · have e1 : prs R ID (L1 ++ j :: L2) = prs R ID L1 ++ ((ID j, R j) :: prs R ID L2) := by simp [prs]
    have e2 : drop (ID j) ((ID j, R j) :: prs R ID L2) = drop (ID j) (prs R ID L2) := by simp [drop]
    have e3 : drop (ID j) (prs R ID L1 ++ prs R ID L2) = prs R ID L1 ++ prs R ID L2 := by
      rw [← prs_append]
      refine drop_none fun h => ?_
      rw [prs_names] at h
      obtain ⟨s, hs, e⟩ := List.mem_map.1 h
      exact hname s hs e
    rw [e1, drop_append, e2, ← drop_append, e3, ← prs_append R ID L1 L2, prs_append _ _ (L1 ++ L2) [j]]
    congr 1
    · exact prs_congr fun s hs => ⟨rfl, upd_other (show s ≠ j from fun e => hj1 (e ▸ hs))⟩
    · show [(ID j, upd R j r j)] = _
      rw [upd_same]
  · cases hb'
    refine ⟨hbb, ?_⟩
    rw [idx_eq hd' hd fun s => (hmem s).symm]
    have : (L1 ++ L2 ++ [j]).length = (L1 ++ j :: L2).length := by simp
    rw [this]
    exact hM1

theorem step_add {n' i nf' : Nat} {S1 : Slots} (hSt : St w tb bm cf af FR n nf L R ID B A) (hn0 : 0 < n) (hn : n' ≤ 1048576) (hL : L.length < 1000000000) (hsz : ∀ s ∈ L, (ID s).size ≤ maxLen) (hx : x.size ≤ maxLen) (hnew : idx ID L x = none)
    (hi0 : 0 < i) (hi : i < n') (him : i ∉ L) (hS : ∀ s, s < n → S1.B s = B s ∧ S1.A s = A s ∧ S1.R s = R s ∧ S1.ID s = ID s ∧ S1.P s = ⟨#[]⟩) (hP : S1.P = noP)
    (hc : (nf = nf' + 1 ∧ n' = n ∧ FR nf' = (i : Int)) ∨ (nf = 0 ∧ nf' = 0 ∧ n' = n + 1 ∧ i = n))
    (hvac : ∀ (W : World) (g c : Nat) (v2 : Value), Blk W tb 63 [.slice (some ⟨g, 0, none⟩) n c, .slice af nf cf, v2] → W.ownsRow (tb + 1) 65 12 (.slice (some ⟨g, 0, none⟩) n c) n (cellsS n ⟨R, noP, ID, B, A⟩) → Keeps Nob w W →
      Calls Try.prog 33 #[.pointer (some ⟨tb, 0, none⟩)] W (VacOut tb (.slice (some ⟨g, 0, none⟩) n c) v2 af cf n' i nf' S1 W)) :
    Calls Try.prog 28 #[.pointer (some ⟨tb, 0, none⟩), .int .i64 0, .string x, taskV r ⟨#[]⟩] w (StepOut w tb bm cf af FR n nf L R ID x r) := by
  obtain ⟨v, ix, hT, hown, hv, hM, hg⟩ := hSt
  obtain ⟨hr, hd, hf, hix⟩ := hg.pos hn0
  obtain ⟨b, rfl⟩ := Option.isSome_iff_exists.1 hix
  obtain ⟨hbb, hMb⟩ := hM b rfl
  have hl := hr.last
  have hnin : x ∉ L.map ID := fun h => by have := (idx_isSome ID x L).2 h; rw [hnew] at this; cases this
  have hnn : n ≤ n' := by omega
  obtain ⟨hlj, hln, hS0, hfin⟩ := fin_new (R := R) (r := r) (p := ⟨#[]⟩) (S1 := S1) (i := i) hn0 hr hd hi0 hi him hnn (by omega) hnin hl hS
  obtain ⟨g, c, rfl, hgb, hg2⟩ := hown.form hn0
  refine (put_new tb n' i _ nf nf' cf b L.length L.length _ af _ n S1 (idx ID L) x r ⟨#[]⟩ w hi0 hi hln hlj hn hL hx hS0 hT hown hMb hnew ?_).mono ?_
  · intro W hKW
    exact hvac W g c _ (hT.keep hKW (fun h => h)) (ownsRow_keep hown hKW (fun _ _ h => h)) hKW
  · rintro e w' ⟨rfl, g', c', hown', hT', hM', hK', _⟩
    have hP' : (putS (setID S1 i x) i (lastOf 0 L) r ⟨#[]⟩).P = noP := by show upd S1.P i ⟨#[]⟩ = noP; rw [hP]; exact upd_const _ _
    rw [slots_eta hP'] at hown'
    have hidL : ∀ s ∈ L, upd S1.ID i x s = ID s := fun s hs => by
      rw [upd_other (show s ≠ i from fun e => him (e ▸ hs))]
      exact (hS s (hr.range s hs).2).2.2.2.1
    have hidE : (putS (setID S1 i x) i (lastOf 0 L) r ⟨#[]⟩).ID = upd S1.ID i x := rfl
    have hmapL : L.map (upd S1.ID i x) = L.map ID := List.map_congr_left hidL
    have hd' : ((L ++ [i]).map (upd S1.ID i x)).Nodup := by
      rw [List.map_append, List.nodup_append, hmapL]
      refine ⟨hd, by simp, ?_⟩
      intro a ha b hb e
      simp [upd_same] at hb
      subst hb; subst e
      exact hnin ha
    refine ⟨rfl, hK'.mono fun k _ hk => ?_, n', nf', L ++ [i], _, upd S1.ID i x, _, _, ⟨?_, ?_, .inr ⟨hnin, ?_⟩⟩, _, some b, hT', hown', fun h => by omega, fun b' hb' => ?_, ⟨⟨rfl, rfl, rfl⟩, fun h => by omega, fun _ => ⟨hfin.ring, hd', ⟨?_, ?_, ?_⟩, rfl⟩⟩⟩
    · rcases hk with h | h | h
      · exact .inr (by omega)
      · simp [Value.ownBlock] at h; exact .inr (by omega)
      · rw [h]; exact hbb
    · intro s hs
      rcases List.mem_append.1 hs with h | h
      · rw [hidL s h]; exact hsz s h
      · obtain rfl : s = i := by simpa using h
        rw [upd_same]; exact hx
    · rw [drop_none (by rw [prs_names]; exact hnin), prs_append]
      congr 1
      · refine prs_congr fun s hs => ⟨hidL s hs, ?_⟩
        show upd S1.R i r s = _
        rw [upd_other (show s ≠ i from fun e => him (e ▸ hs))]
        exact (hS s (hr.range s hs).2).2.2.1
      · show [(upd S1.ID i x i, upd S1.R i r i)] = _
        rw [upd_same, upd_same]
    · rcases hc with ⟨h1, h2, h3⟩ | ⟨h1, h2, h3, h4⟩
      · exact .inl ⟨h1, h2, hn0⟩
      · exact .inr ⟨h1, h2, .inr ⟨hn0, h3⟩⟩
    · cases hb'
      refine ⟨hbb, ?_⟩
      rw [List.length_append, idx_snoc, upd_same, idx_congr hidL]
      exact hM'
    · intro k hk
      rcases hc with ⟨h1, h2, h3⟩ | ⟨h1, h2, h3, h4⟩
      · have := hf.range k (by omega); omega
      · omega
    · intro k hk hm
      rcases hc with ⟨h1, h2, h3⟩ | ⟨h1, h2, h3, h4⟩
      · rcases List.mem_append.1 hm with h | h
        · exact hf.notin k (by omega) h
        · have h5 : (FR k).toNat = i := by simpa using h
          have h6 := hf.range k (by omega)
          exact hf.apart nf' (by omega) k hk (by omega)
      · omega
    · intro k hk j hj
      rcases hc with ⟨h1, h2, h3⟩ | ⟨h1, h2, h3, h4⟩
      · exact hf.apart k (by omega) j hj
      · omega

theorem step_zero (hSt : St w tb bm cf af FR 0 nf L R ID B A) (hx : x.size ≤ maxLen) :
    Calls Try.prog 28 #[.pointer (some ⟨tb, 0, none⟩), .int .i64 0, .string x, taskV r ⟨#[]⟩] w (StepOut w tb bm cf af FR 0 nf L R ID x r) := by
  obtain ⟨v, ix, hT, hown, hv, hM, hg⟩ := hSt
  obtain ⟨rfl, rfl, rfl⟩ := hg.zero rfl
  obtain rfl := hv rfl
  have htl := hT.lt
  refine (put_zero tb cf af ⟨R, noP, ID, B, A⟩ x r ⟨#[]⟩ w hx hT).mono ?_
  rintro e w' ⟨rfl, g, c, b, h1, h2, h3, h4, h5, h6⟩
  have hP' : (putS (setID (zeroAt (zeroAt ⟨R, noP, ID, B, A⟩ 0) 1) 1 x) 1 0 r ⟨#[]⟩).P = noP := by
    show upd (upd (upd noP 0 ⟨#[]⟩) 1 ⟨#[]⟩) 1 ⟨#[]⟩ = noP
    rw [upd_const, upd_const, upd_const]
  rw [slots_eta hP'] at h1
  have hfin := fin_zero (S0 := ⟨R, noP, ID, B, A⟩) (id := x) (r := r) (p := ⟨#[]⟩)
  have hid1 : (putS (setID (zeroAt (zeroAt ⟨R, noP, ID, B, A⟩ 0) 1) 1 x) 1 0 r ⟨#[]⟩).ID 1 = x := by
    show upd (upd (upd ID 0 ⟨#[]⟩) 1 ⟨#[]⟩) 1 x 1 = x
    exact upd_same _ _ _
  have hr1 : (putS (setID (zeroAt (zeroAt ⟨R, noP, ID, B, A⟩ 0) 1) 1 x) 1 0 r ⟨#[]⟩).R 1 = r := by
    show upd (upd (upd R 0 0) 1 0) 1 r 1 = r
    exact upd_same _ _ _
  refine ⟨rfl, h4.mono fun k _ hk => .inr (by omega), 2, 0, [1], _, _, _, _, ⟨?_, ?_, .inr ⟨by simp, .inr ⟨rfl, rfl, .inl ⟨rfl, rfl⟩⟩⟩⟩, _, some b, h2, h1, fun h => by omega, fun b' hb' => ?_, ⟨⟨rfl, rfl, rfl⟩, fun h => by omega, fun _ => ⟨hfin.ring, by simp, ⟨fun k hk => by omega, fun k hk => by omega, fun k hk => by omega⟩, rfl⟩⟩⟩
  · intro s hs
    obtain rfl : s = 1 := by simpa using hs
    rw [hid1]; exact hx
  · simp only [prs, List.map_cons, List.map_nil, hid1, hr1]
    rfl
  · cases hb'
    refine ⟨.inr (by omega), ?_⟩
    have : idx (putS (setID (zeroAt (zeroAt ⟨R, noP, ID, B, A⟩ 0) 1) 1 x) 1 0 r ⟨#[]⟩).ID [1] = put (fun _ => none) x ((1 : Nat) : Int) := by
      show put (fun _ => none) _ _ = _
      rw [hid1]
    rw [this]; exact h3

/-- put at a script's name. -/
theorem step {lo : Nat} (hSt : St w tb bm cf af FR n nf L R ID B A) (hn : n + 1 ≤ 1048576) (hL : L.length < 1000000000) (hF : SlF encI w lo tb af nf FR) (hcf : nf ≤ cf) (hnf : nf ≤ 1048576) (hsz : ∀ s ∈ L, (ID s).size ≤ maxLen) (hx : x.size ≤ maxLen) :
    Calls Try.prog 28 #[.pointer (some ⟨tb, 0, none⟩), .int .i64 ((idx ID L x).getD 0), .string x, taskV r ⟨#[]⟩] w (StepOut w tb bm cf af FR n nf L R ID x r) := by
  rcases Nat.eq_zero_or_pos n with h0 | h0
  · subst h0
    have hL0 : L = [] := by
      obtain ⟨v, ix, -, -, -, -, hg⟩ := hSt
      exact (hg.zero rfl).1
    have : (idx ID L x).getD 0 = 0 := by rw [hL0]; rfl
    rw [this]
    exact step_zero hSt hx
  · have hg : ∃ ix, WGood n n n n nf ID B A FR L ix := by
      obtain ⟨v, ix, -, -, -, -, hg⟩ := hSt
      exact ⟨ix, hg⟩
    obtain ⟨ix, hg⟩ := hg
    obtain ⟨hr, hd, hf, hix⟩ := hg.pos h0
    cases hv : idx ID L x with
    | some c =>
      obtain ⟨j, hj, rfl, rfl⟩ := idx_some hv
      obtain ⟨L1, L2, rfl⟩ := List.append_of_mem hj
      exact step_old hSt (by omega) hsz
    | none =>
      show Calls Try.prog 28 #[.pointer (some ⟨tb, 0, none⟩), .int .i64 0, .string x, taskV r ⟨#[]⟩] w _
      cases nf with
      | zero =>
        refine step_add (n' := n + 1) (i := n) (nf' := 0) (S1 := zeroAt ⟨R, noP, ID, B, A⟩ n) hSt h0 hn hL hsz hx hv h0 (by omega) (fun h => by have := hr.range n h; omega) ?_ (upd_const _ _) (.inr ⟨rfl, rfl, rfl, rfl⟩) ?_
        · intro s hs
          have e : s ≠ n := by omega
          exact ⟨upd_other e, upd_other e, upd_other e, upd_other e, upd_other e⟩
        · intro W g c v2 hT hown _
          exact vac_new h0 (by omega) hT hown
      | succ q =>
        have h1 := hf.range q (by omega)
        obtain ⟨i, hi⟩ : ∃ i : Nat, FR q = (i : Int) := ⟨(FR q).toNat, by omega⟩
        have h2 := hf.notin q (by omega)
        rw [hi] at h1 h2
        refine step_add (n' := n) (i := i) (nf' := q) (S1 := ⟨R, noP, ID, B, A⟩) hSt h0 (by omega) hL hsz hx hv (by omega) (by omega) (by simpa using h2) (fun s _ => ⟨rfl, rfl, rfl, rfl, rfl⟩) rfl (.inl ⟨rfl, rfl, hi⟩) ?_
        intro W g c v2 hT hown hK
        exact vac_free h0 hT hown rfl ((hF.keep hK (by obtain ⟨v, ix, hT', _⟩ := hSt; have := hT'.lt; omega) (fun _ _ _ h => h)).wide (Nat.zero_le _) (Nat.le_refl _)) hcf hnf hi
end
end Go.Proofs.Qxb6619702a
