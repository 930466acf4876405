import Derived.Test.Qxb6617947aWp
import Derived.Test.Qxb6617947aPs
import Derived.Test.Qxb6617947aMn
/-! zzWeightsDesc. -/
namespace Go.Proofs.Qxb6617947a
open Go.RowKit
set_option linter.unusedVariables false
set_option linter.unusedSimpArgs false

theorem setCells_keeps2 {w0 w : World} {S : Nat → Prop} (h : Keeps S w0 w) {g : Nat} (hg : S g) : ∀ (vs : List Value) (o : Nat), Keeps S w0 (w.setCells g o vs) := by
  intro vs
  induction vs generalizing w with
  | nil => intro o; exact h
  | cons v vs ih => intro o; exact ih (h.setCell (p := ⟨g, o, none⟩) hg v) (o + 1)
set_option maxHeartbeats 2000000 in
theorem desc_any {ao : Option Addr} {m c0 : Nat} {F : Nat → Nat} {w : World} (hF : SlF encU32 w 0 w.heap.size ao m F) (hm : m ≤ 512) (hFb : Hid (∀ i, i < m → F i < 4294967296)) (hn : Hid (2 ≤ occN F m)) :
    Calls Try.prog 19 #[.slice ao m c0] w fun e w' => ∃ g, e = .returned (.slice (some ⟨g, 0, none⟩) (occN F m) m) ∧ Keeps Nob w w' ∧ Own w' g (occN F m) (fun j => .int .u64 (wtF F m (occN F m - 1 - j) : Nat)) := by
  obtain ⟨iz, hiz, hz1, hz2, hz3⟩ := info_parts info24z
  have HZ : Hid (Try.prog.info? 24 = some iz ∧ iz.zero = some (.int .u64 0) ∧ iz.size = 1 ∧ iz.bytes = 8) := ⟨hiz, hz1, hz2, hz3⟩
  clear hiz hz1 hz2 hz3
  go_enter Try.func19, Try.ntmps19
  go_wp2_with (at_make; refine wpList_make_own _ rfl _ _ 44 rfl w.heap.size 24 iz (.int .u64 0) 1 Try.underlying44 HZ.out.1 HZ.out.2.1 HZ.out.2.2.1 _ _ _ m rfl rfl rfl (by rw [HZ.out.2.2.2]; omega) (by unfold maxLen; omega) (Nat.le_refl _) ?_)
  intro w1 hown hgrow
  have hK1 : Keeps Nob w w1 := (Keeps.refl Nob w).grown hgrow (by intro k hk; cases hk)
  obtain ⟨V0, hO0⟩ : ∃ V0, Own w1 w.heap.size m V0 := by
    obtain ⟨hl, h'⟩ := hown
    rcases h' with ⟨h1, -⟩ | ⟨g, cap, cur, h1, h2, h3, h4, h5, h6, h7⟩
    · cases h1
    · cases h1
      exact ⟨fun j => cur.toList.getD j undef, Own.ofBlk (T := 24) (xs := cur.toList) h3 fun j hj => by
        have hj2 : j < cur.toList.length := by simp; omega
        rw [List.getD_eq_getElem?_getD, List.getElem?_eq_getElem hj2]; rfl⟩
  have hF1 := hF.keep hK1 (Nat.le_refl _) (fun _ _ _ h => h)
  obtain ⟨g, hg⟩ : ∃ g, w.heap.size = g := ⟨_, rfl⟩
  have HG : Hid (w.heap.size = g) := hg
  rw [hg] at hO0 hF1 ⊢
  clear hown hgrow hF hg
  go_wp2
  go_loopw [3, 4] (fun v3 v4 wr => ∃ (s q : Nat) (X : Nat → Nat) (V : Nat → Value), s ≤ m ∧ v4 = .int .i64 s ∧ v3 = .slice (some ⟨g, 0, none⟩) q m ∧ occN F s = q ∧ Keeps (fun b => b = g) w1 wr ∧ Own wr g m V ∧ (∀ j, j < q → V j = .int .u64 (X j : Nat)) ∧ Same X q (GF F s)) (fun _ v4 _ => m - (intOf v4).toNat)
  case atStart => exact ⟨0, 0, fun _ => 0, V0, Nat.zero_le _, rfl, rfl, rfl, Keeps.refl _ _, hO0, fun j hj => absurd hj (Nat.not_lt_zero _), fun h => rfl⟩
  case round =>
    obtain ⟨s, q, X, V, hs, rfl, rfl, hq, hKs, hOs, hVX, hSame⟩ := hrel
    have hoc := occN_le F s
    rw [hq] at hoc
    have HQ : Hid (occN F s = q) := hq
    have HVX : Hid (∀ j, j < q → V j = .int .u64 (X j : Nat)) := hVX
    have HSM : Hid (Same X q (GF F s)) := hSame
    clear hq hVX hSame
    by_cases hlt : s < m
    · obtain ⟨bf, off, rfl, -, hbf, hc⟩ := hF1 (by omega)
      have hcf := (hKs.cell (p := ⟨bf, off + s, none⟩) (World.block_lt_of_cell? w1 _ (hc s hlt)) (fun h => by have h2 : bf = g := h; omega)).trans (hc s hlt)
      have hcb := hFb.out s hlt
      have hon : occN F (s + 1) = occN F s + (if 0 < F s then 1 else 0) := rfl
      obtain ⟨x, hx⟩ : ∃ x, F s = x := ⟨_, rfl⟩
      have hcf' : wr.cell? ⟨bf, off + s, none⟩ = some (.int .u32 (x : Nat)) := by rw [← hx]; exact hcf
      rw [hx, HQ.out] at hon
      rw [hx] at hcb
      have HON : Hid (occN F (s + 1) = q + (if 0 < x then 1 else 0)) := hon
      have HX : Hid (F s = x) := hx
      clear hcf hc hx hon
      by_cases hx0 : 0 < x
      · have hx' : (x : Int) > 0 := by omega
        have hxw : IntKind.u64.wrap (x : Int) = (x : Int) := by rw [IntKind.wrap_u64]; omega
        go_wp2_with (at_builtin; refine wpList_append_mid rfl (.tmp 22) (.tmp 28) 44 rfl 24 Try.underlying44 info24 g 0 q m rfl _ 1 1 rfl [.int .u64 (x : Int)] rfl (news1 _ _ 24) (one1 _ rfl) (by omega) ((hOs.alloc _).there (by omega)) ?_)
        refine ⟨?rel, ?measure⟩
        case rel =>
          refine ⟨s + 1, q + 1, updF X q x, updV V q (.int .u64 (x : Nat)), by omega, by go_num, rfl, by rw [HON.out, if_pos hx0], ?_, ?_, fun j hj => ?_, ?_⟩
          · first
            | exact setCells_keeps2 (hKs.alloc _) rfl _ _
            | skip
          · first
            | exact (hOs.alloc _).put (by omega) _
            | (have h8 := (hOs.alloc (.cells #[.int .u64 (x : Int)] 24)).put (i := 0 + q) (by omega) (.int .u64 (x : Nat)); rw [Nat.zero_add] at h8; exact h8)
            | skip
          · unfold updV updF
            by_cases h : j = q
            · rw [if_pos h, if_pos h]
            · rw [if_neg h, if_neg h]; exact HVX.out j (by omega)
          · have h8 := same_push HQ.out HSM.out (by rw [HX.out]; exact hx0)
            rw [HX.out] at h8; exact h8
        case measure => simp [intOf]; omega
      · have hx' : ¬ (x : Int) > 0 := by omega
        go_wp2
        refine ⟨?rel, ?measure⟩
        case rel => exact ⟨s + 1, q, X, V, by omega, by go_num, rfl, by rw [HON.out, if_neg hx0]; rfl, hKs, hOs, HVX.out, same_skip HSM.out (by rw [HX.out]; exact hx0)⟩
        case measure => simp [intOf]; omega
    · obtain rfl : s = m := by omega
      have hn2 : 2 ≤ q := by have := hn.out; rw [HQ.out] at this; exact this
      have hO1 : Own wr g q (fun j => .int .u64 (X j : Nat)) := (hOs.less hoc).congr HVX.out
      have hKa : Keeps Nob w wr := ⟨hKs.os.trans hK1.os, hKs.tape.trans hK1.tape, hKs.output.trans hK1.output, by have := hKs.size; have := hK1.size; omega, fun i hi _ => (hKs.block i (by have := hK1.size; omega) (by show ¬ i = g; have := HG.out; omega)).trans (hK1.block i hi (fun h => h))⟩
      clear hOs hO0 hF1 hKs hK1
      obtain ⟨wq, rfl⟩ : ∃ wq, wq = wr := ⟨wr, rfl⟩
      go_wp2
      go_loopw [5] (fun v5 wr => ∃ (i : Nat) (Y : Nat → Nat), 1 ≤ i ∧ i ≤ q ∧ v5 = .int .i64 i ∧ Keeps (fun b => b = g) wq wr ∧ Own wr g q (fun j => .int .u64 (Y j : Nat)) ∧ Same Y q (GF F s) ∧ Desc Y i) (fun v5 _ => q - (intOf v5).toNat)
      case atStart => exact ⟨1, X, Nat.le_refl _, by omega, rfl, Keeps.refl _ _, hO1, HSM.out, fun a b h1 h2 => by omega⟩
      case round =>
        obtain ⟨i, Y, hi1, hi2, rfl, hKi, hOi, hSi, hDi⟩ := hrel
        have HSI : Hid (Same Y q (GF F s) ∧ Desc Y i) := ⟨hSi, hDi⟩
        clear hSi hDi
        by_cases hlt : i < q
        · have ci := hOi.cell i hlt
          obtain ⟨x, hx⟩ : ∃ x, Y i = x := ⟨_, rfl⟩
          have HX : Hid (Y i = x) := hx
          rw [hx] at ci
          clear hx
          have hi0 : (0 : Int) ≤ (i : Int) := by omega
          have hiq : (i : Int) < (q : Int) := by omega
          obtain ⟨wi, rfl⟩ : ∃ wi, wi = wr := ⟨wr, rfl⟩
          go_wp2
          go_loopw [7] (fun v7 wr2 => ∃ (j : Nat) (Z : Nat → Nat), j ≤ i ∧ v7 = .int .i64 j ∧ Keeps (fun b => b = g) wq wr2 ∧ Own wr2 g q (fun k => .int .u64 (Z k : Nat)) ∧ Hole Z q i j x (GF F s)) (fun v7 _ => (intOf v7).toNat)
          case atStart =>
            refine ⟨i, Y, Nat.le_refl _, rfl, hKi, hOi, ?_⟩
            have h8 := Hole.start HSI.out.1 HSI.out.2
            rw [HX.out] at h8
            exact h8
          case round =>
            obtain ⟨j, Z, hj, rfl, hKj, hOj, hHj⟩ := hrel
            have HH : Hid (Hole Z q i j x (GF F s)) := hHj
            clear hHj
            have hfin : ∀ {wz : World}, Own wz g q (fun k => .int .u64 (Z k : Nat)) → Own (wz.setCell ⟨g, j, none⟩ (.int .u64 (x : Nat))) g q (fun k => .int .u64 (updF Z j x k : Nat)) := fun h => (h.set (by omega) _).congr fun k _ => by unfold updV updF; split <;> rfl
            have HFIN : Hid (∀ {wz : World}, Own wz g q (fun k => .int .u64 (Z k : Nat)) → Own (wz.setCell ⟨g, j, none⟩ (.int .u64 (x : Nat))) g q (fun k => .int .u64 (updF Z j x k : Nat))) := hfin
            clear hfin
            have cj := hOj.cell j (by omega)
            have fj := hOj.free j
            have hj0 : (0 : Int) ≤ (j : Int) := by omega
            have hjq : (j : Int) < (q : Int) := by omega
            rcases Nat.eq_zero_or_pos j with hz | hz
            · subst hz
              go_wp2
              refine ⟨?rel, ?measure⟩
              case rel =>
                obtain ⟨e1, e2⟩ := HH.out.done (.inl rfl)
                exact ⟨i + 1, updF Z 0 x, by omega, by omega, by go_num, hKj.setCell (p := ⟨g, 0, none⟩) rfl _, HFIN.out hOj, e1, e2⟩
              case measure => simp [intOf]; omega
            · obtain ⟨p, rfl⟩ : ∃ p, j = p + 1 := ⟨j - 1, by omega⟩
              have cp := hOj.cell p (by omega)
              obtain ⟨y, hy⟩ : ∃ y, Z p = y := ⟨_, rfl⟩
              have HY : Hid (Z p = y) := hy
              rw [hy] at cp
              clear hy
              have hp0 : (0 : Int) ≤ (p : Int) := by omega
              have hpq : (p : Int) < (q : Int) := by omega
              by_cases hyx : y < x
              · have hyx' : (y : Int) < (x : Int) := by omega
                go_wp2
                refine ⟨?rel, ?measure⟩
                case rel =>
                  have h8 := HH.out.step hj hlt (by rw [HY.out]; exact hyx)
                  rw [HY.out] at h8
                  refine ⟨p, updF Z (p + 1) y, by omega, by go_num, hKj.setCell (p := ⟨g, p + 1, none⟩) rfl _, (hOj.set (by omega) _).congr fun k _ => ?_, h8⟩
                  unfold updV updF; split <;> rfl
                case measure => simp [intOf]
              · have hyx' : ¬ (y : Int) < (x : Int) := by omega
                go_wp2
                refine ⟨?rel, ?measure⟩
                case rel =>
                  obtain ⟨e1, e2⟩ := HH.out.done (.inr (by rw [Nat.add_sub_cancel, HY.out]; omega))
                  exact ⟨i + 1, updF Z (p + 1) x, by omega, by omega, by go_num, hKj.setCell (p := ⟨g, p + 1, none⟩) rfl _, HFIN.out hOj, e1, e2⟩
                case measure => simp [intOf]; omega
        · obtain rfl : i = q := by omega
          have hend : Own wr g i (fun j => .int .u64 (wtF F s (i - 1 - j) : Nat)) := hOi.congr fun j hj => by
            have h9 := HQ.out
            subst h9
            rw [desc_wt hm HSI.out.1 HSI.out.2 hj]
          have hKz : Keeps Nob w wr := ⟨hKi.os.trans hKa.os, hKi.tape.trans hKa.tape, hKi.output.trans hKa.output, by have := hKi.size; have := hKa.size; omega, fun k hk _ => (hKi.block k (by have := hKa.size; omega) (by show ¬ k = g; have := HG.out; omega)).trans (hKa.block k hk (fun h => h))⟩
          go_wp2
          go_ret
          rw [HQ.out]
          exact ⟨g, rfl, hKz, hend⟩

end Go.Proofs.Qxb6617947a
