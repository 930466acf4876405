import Derived.Test.Qxb6617947aTa
/-! Lengths: the two queues. -/
namespace Go.Proofs.Qxb6617947a
open Go.RowKit
set_option linter.unusedVariables false
set_option linter.unusedSimpArgs false

theorem idx_ne {w : Nat → Nat} {n q i0 i1 : Nat} (hn : 2 ≤ n) (hw : Asc w n) (hq : 2 * q + 1 < 2 * n - 2) (h0 : IdxR w n (2 * q) i0) (h1 : IdxR w n (2 * q + 1) i1) : i0 ≠ i1 := by
  rcases h0 with ⟨a, rfl⟩ | ⟨a, rfl⟩ <;> rcases h1 with ⟨b, rfl⟩ | ⟨b, rfl⟩
  · have := (hst_yes a).1; omega
  · have := a.1; omega
  · have := b.1; omega
  · have h2 := (hst_no a (h_node hn (by omega) a)).1
    have h3 := (h_inv (w := w) hn (j := 2 * q) (by omega)).2.1
    omega
set_option maxHeartbeats 4000000 in
set_option maxRecDepth 100000 in
theorem lzA {w0 : World} {fa : Option Addr} {kb ob wb pb sb nb n m fc L K cap : Nat} {KV O sym : Nat → Nat} {x3 x4 x5 x8 x9 x14 x15 x16 x17 x18 x19 x20 x21 x22 x23 x24 x25 x26 x27 x28 x29 x30 x31 x32 x33 x34 x35 x36 x37 x38 x39 x40 x41 x42 x43 x44 x45 x46 x47 x48 x49 x50 x51 x52 x53 x54 x55 x56 x57 x58 x59 x60 x61 x62 x63 x64 x65 x66 x67 x68 x69 x70 x71 x72 x73 x74 x75 x76 x77 x78 x79 x80 x81 x82 x83 x84 x85 x86 x87 x88 x89 x90 x91 x92 x93 x94 x95 x96 x97 x98 x99 x100 x101 x102 x103 x104 x105 x106 x107 x108 x109 x110 x111 x112 x113 x114 x115 x116 x117 x118 x119 x120 x121 x122 x123 x124 x125 x126 x127 x128 x129 x130 x131 x132 x133 x134 x135 x136 : Value} {w : World}
    (hKw : Keeps (fun b => b = ob) w0 w) (hk : Own w kb 512 (fun j => .int .u64 (KV j : Nat))) (hw : Own w wb 512 (fun _ => .int .u64 0)) (hp : Own w pb 1024 (fun _ => .int .u16 0)) (hs : Own w sb 1 (fun _ => .int .i64 0)) (hq : Own w nb 1 (fun _ => .int .i64 0)) (ho : Own w ob L (fun j => .int .u8 (O j : Nat)))
    (d0 : kb ≠ ob ∧ wb ≠ ob ∧ pb ≠ ob ∧ sb ≠ ob ∧ nb ≠ ob) (d1 : kb ≠ wb ∧ kb ≠ pb ∧ kb ≠ sb ∧ kb ≠ nb) (d2 : wb ≠ pb ∧ wb ≠ sb ∧ wb ≠ nb) (d3 : pb ≠ sb ∧ pb ≠ nb ∧ sb ≠ nb) (dn : w0.heap.size ≤ wb ∧ w0.heap.size ≤ pb ∧ w0.heap.size ≤ sb ∧ w0.heap.size ≤ nb)
    (hn : 2 ≤ n) (hn2 : n ≤ 512) (hm : m ≤ 512) (hmL : m ≤ L) (hcap : L ≤ cap) (hcap2 : cap ≤ 9223372036854775807) (hK : 1 ≤ K) (hK2 : K ≤ 20) (hnK : Hid (n ≤ 2 ^ K)) (hL : L ≤ 1048576) (hKb : Hid (∀ i, i < n → KV i < 281474976710656))
    (hAsc : Hid (Asc (wtOf KV) n)) (hsum : Hid (psum (wtOf KV) n < 2 ^ 50)) (h100 : Hid (ht (wtOf KV) n 100 = 0)) (hsym : Hid (∀ i, i < n → sym i = KV i % 65536 ∧ sym i < m)) (hinj : Hid (∀ i j, i < n → j < n → sym i = sym j → i = j)) :
    Code.wp Try.prog (tailF Try.f15 13) (bodyPost Try.prog Try.f15 fun e w' => e = .returned (.tuple #[]) ∧ Keeps (fun b => b = ob) w0 w' ∧ Own w' ob L (fun j => .int .u8 (outF (clr O m) sym n (lv (wtOf KV) n K) j : Nat))) ⟨#[.slice fa m fc, .slice (some ⟨ob, 0, none⟩) L cap, .int .i64 (K : Nat), x3, x4, x5, .pointer (some ⟨kb, 0, none⟩), .int .i64 (n : Nat), x8, x9, .pointer (some ⟨wb, 0, none⟩), .pointer (some ⟨pb, 0, none⟩), .pointer (some ⟨sb, 0, none⟩), .pointer (some ⟨nb, 0, none⟩), x14, x15, x16, x17, x18, x19, x20, x21, x22, x23, x24, x25, x26, x27, x28, x29, x30, x31, x32, x33, x34, x35, x36, x37, x38, x39, x40, x41, x42, x43, x44, x45, x46, x47, x48, x49, x50, x51, x52, x53, x54, x55, x56, x57, x58, x59, x60, x61, x62, x63, x64, x65, x66, x67, x68, x69, x70, x71, x72, x73, x74, x75, x76, x77, x78, x79, x80, x81, x82, x83, x84, x85, x86, x87, x88, x89, x90, x91, x92, x93, x94, x95, x96, x97, x98, x99, x100, x101, x102, x103, x104, x105, x106, x107, x108, x109, x110, x111, x112, x113, x114, x115, x116, x117, x118, x119, x120, x121, x122, x123, x124, x125, x126, x127, x128, x129, x130, x131, x132, x133, x134, x135, x136], []⟩ w := by
  rw [tail15_13]
  go_wp2
  conv => arg 2; whnf
  go_wp2
  go_loopw [50] (fun v50 wr => ∃ (q : Nat) (WV PV : Nat → Nat), q ≤ n - 1 ∧ v50 = .int .i64 q ∧ Keeps (fun b => b = sb ∨ b = nb ∨ b = wb ∨ b = pb) w wr ∧ Own wr sb 1 (fun _ => .int .i64 (hc (wtOf KV) n (2 * q) : Nat)) ∧ Own wr nb 1 (fun _ => .int .i64 (2 * q - hc (wtOf KV) n (2 * q) : Nat)) ∧
      Own wr wb 512 (fun x => .int .u64 (WV x : Nat)) ∧ Own wr pb 1024 (fun x => .int .u16 (PV x : Nat)) ∧ (∀ p, p < q → WV p = hW (wtOf KV) n p) ∧ ParOK (wtOf KV) n PV (2 * q)) (fun v50 _ => n - (intOf v50).toNat)
  case atStart => exact ⟨0, fun _ => 0, fun _ => 0, Nat.zero_le _, rfl, Keeps.refl _ _, hs, hq, hw, hp, fun p h => absurd h (Nat.not_lt_zero _), fun j h => absurd h (by omega)⟩
  case round =>
    obtain ⟨q, WV, PV, hqn, rfl, hK1, hs1, hq1, hw1, hp1, hWV, hPar⟩ := hrel
    have hk1 := hk.keep hK1 (fun h => by rcases h with h | h | h | h; exact d1.2.2.1 h; exact d1.2.2.2 h; exact d1.1 h; exact d1.2.1 h)
    rcases Nat.lt_or_ge q (n - 1) with hlt | hge
    · have e0 : 2 * q / 2 = q := by omega
      have e1 : (2 * q + 1) / 2 = q := by omega
      have c0 := take_any (wb := wb) hs1 hq1 hk1 hw1 (fun p hp => hWV p (by omega)) hn hn2 (by omega) hKb.out d3.2.2 d1.2.2.1 d2.2.2 d2.2.1 d1.2.2.2
      rw [e0] at c0
      have HPar : Hid (ParOK (wtOf KV) n PV (2 * q)) := hPar
      have HWV : Hid (∀ p, p < q → WV p = hW (wtOf KV) n p) := hWV
      have HE : Hid (2 * q / 2 = q ∧ (2 * q + 1) / 2 = q) := ⟨e0, e1⟩
      have hq512 : (q : Int) < 512 := by omega
      have hq0 : (0 : Int) ≤ (q : Int) := by omega
      have hqn1 : (q : Int) < (n : Int) - 1 := by omega
      clear e0 e1 hPar hWV hs1 hq1
      obtain ⟨wq, rfl⟩ : ∃ wq, wq = wr := ⟨wr, rfl⟩
      go_wp2_with (first | (go_at_call 22; refine c0.mono ?_; rintro e w2 ⟨i0, rfl, hi0, hK2a, hs2, hq2⟩))
      have hk2 := hk1.keep hK2a (fun h => by rcases h with h | h; exact d1.2.2.1 h; exact d1.2.2.2 h)
      have hw2 := hw1.keep hK2a (fun h => by rcases h with h | h; exact d2.2.1 h; exact d2.2.2 h)
      have hp2 := hp1.keep hK2a (fun h => by rcases h with h | h; exact d3.1 h; exact d3.2.1 h)
      have hq2' : Own w2 nb 1 (fun _ => .int .i64 (2 * q + 1 - hc (wtOf KV) n (2 * q + 1) : Nat)) := hq2
      have c1 := take_any (j := 2 * q + 1) (wb := wb) hs2 hq2' hk2 hw2 (fun p hp => HWV.out p (by have := HE.out.2; omega)) hn hn2 (by omega) hKb.out d3.2.2 d1.2.2.1 d2.2.2 d2.2.1 d1.2.2.2
      rw [HE.out.2] at c1
      clear c0 hs2 hq2 hq2'
      refine c1.mono ?_
      rintro e w3 ⟨i1, rfl, hi1, hK3a, hs3, hq3⟩
      have hw3 := hw2.keep hK3a (fun h => by rcases h with h | h; exact d2.2.1 h; exact d2.2.2 h)
      have hp3 := hp2.keep hK3a (fun h => by rcases h with h | h; exact d3.1 h; exact d3.2.1 h)
      have hK9 : Keeps (fun b => b = sb ∨ b = nb ∨ b = wb ∨ b = pb) w w3 := (hK1.trans (hK2a.mono fun _ _ h => by rcases h with h | h; exact .inl h; exact .inr (.inl h))).trans (hK3a.mono fun _ _ h => by rcases h with h | h; exact .inl h; exact .inr (.inl h))
      have hl0 := hi0.lt hn (by omega)
      have hl1 := hi1.lt hn (by omega)
      have hP1 := par_step hn hAsc.out HPar.out (by omega) hi0
      have hP2 := par_step hn hAsc.out hP1 (by omega) hi1
      rw [HE.out.1, HE.out.2] at hP2
      have HP2 : Hid (ParOK (wtOf KV) n (updF (updF PV i0 (n + q)) i1 (n + q)) (2 * q + 1 + 1)) := hP2
      have hne : i0 ≠ i1 := idx_ne hn hAsc.out (by omega) hi0 hi1
      have hWq := hW_le hn hAsc.out (q := q) (by omega)
      have hWe : hW (wtOf KV) n q = hT (wtOf KV) n (2 * q) + hT (wtOf KV) n (2 * q + 1) := rfl
      have hsm := hsum.out
      obtain ⟨t0, ht0⟩ : ∃ t, hT (wtOf KV) n (2 * q) = t := ⟨_, rfl⟩
      obtain ⟨t1, ht1⟩ : ∃ t, hT (wtOf KV) n (2 * q + 1) = t := ⟨_, rfl⟩
      rw [ht0, ht1] at hWe
      rw [ht0, ht1]
      have HWE : Hid (hW (wtOf KV) n q = t0 + t1) := hWe
      have hb50 : psum (wtOf KV) n < 1125899906842624 := hsm
      have hb1 : t0 ≤ 1125899906842624 := by omega
      have hb2 : t1 ≤ 1125899906842624 := by omega
      have cw := hw3.cell q (by omega)
      have fw := hw3.free q
      have cp0 := hp3.cell i0 (by omega)
      have fp0 := hp3.free i0
      have cp1 := hp3.cell i1 (by omega)
      have fp1 := hp3.free i1
      have i00 : (0 : Int) ≤ (i0 : Int) := by omega
      have i01 : (i0 : Int) < 1024 := by omega
      have i10 : (0 : Int) ≤ (i1 : Int) := by omega
      have i11 : (i1 : Int) < 1024 := by omega
      have dwp := d2.1
      clear c1 hi0 hi1 hP1 hP2 hWe hsm hWq ht0 ht1 hk2 hw2 hp2 hK2a hK3a hw1 hp1 hk1 hK1
      go_wp2
      have e2 : 2 * (q + 1) = 2 * q + 1 + 1 := by omega
      have HWV2 : Hid (∀ p, p < q + 1 → updF WV q (t0 + t1) p = hW (wtOf KV) n p) := fun p hp => by
        unfold updF
        by_cases hpq : p = q
        · rw [if_pos hpq, hpq, HWE.out]
        · rw [if_neg hpq]; exact HWV.out p (by omega)
      refine ⟨⟨q + 1, updF WV q (t0 + t1), updF (updF PV i0 (n + q)) i1 (n + q), by omega, by go_num, ?_, ?_, ?_, ?_, ?_, HWV2.out, by rw [e2]; exact HP2.out⟩, by simp [intOf]; omega⟩
      · exact ((hK9.setCell (p := ⟨wb, q, none⟩) (.inr (.inr (.inl rfl))) _).setCell (p := ⟨pb, i0, none⟩) (.inr (.inr (.inr rfl))) _).setCell (p := ⟨pb, i1, none⟩) (.inr (.inr (.inr rfl))) _
      · rw [e2]
        exact ((hs3.other (a := ⟨wb, q, none⟩) d2.2.1 _).other (a := ⟨pb, i0, none⟩) d3.1 _).other (a := ⟨pb, i1, none⟩) d3.1 _
      · rw [e2]
        exact ((hq3.other (a := ⟨wb, q, none⟩) d2.2.2 _).other (a := ⟨pb, i0, none⟩) d3.2.1 _).other (a := ⟨pb, i1, none⟩) d3.2.1 _
      · refine (((hw3.set (i := q) (by omega) _).other (a := ⟨pb, i0, none⟩) (Ne.symm dwp) _).other (a := ⟨pb, i1, none⟩) (Ne.symm dwp) _).congr fun x _ => ?_
        unfold updV updF
        by_cases hx : x = q
        · rw [if_pos hx, if_pos hx, Int.natCast_add]
        · rw [if_neg hx, if_neg hx]
      · refine (((hp3.other (a := ⟨wb, q, none⟩) dwp _).set (i := i0) (by omega) _).set (i := i1) (by omega) _).congr fun x _ => ?_
        unfold updV updF
        by_cases hx : x = i1
        · rw [if_pos hx, if_pos hx, Int.natCast_add]
        · rw [if_neg hx, if_neg hx]
          by_cases hx2 : x = i0
          · rw [if_pos hx2, if_pos hx2, Int.natCast_add]
          · rw [if_neg hx2, if_neg hx2]
    · obtain rfl : q = n - 1 := by omega
      have hqz : ¬ ((n - 1 : Nat) : Int) < (n : Int) - 1 := by omega
      have e3 : 2 * (n - 1) = 2 * n - 2 := by omega
      rw [e3] at hPar
      have ho1 := ho.keep hK1 (fun h => by rcases h with h | h | h | h; exact d0.2.2.2.1 h.symm; exact d0.2.2.2.2 h.symm; exact d0.2.1 h.symm; exact d0.2.2.1 h.symm)
      have hK9 := keeps_new hKw hK1 (fun b hb => by rcases hb with h | h | h | h <;> (subst h; omega))
      have hsz := hK9.size
      have HP9 : Hid (ParOK (wtOf KV) n PV (2 * n - 2)) := hPar
      clear hPar hWV hs1 hq1 hw1 e3
      go_wp2
      exact lzB hK9 hk1 hp1 ho1 d0.1 d0.2.2.1 hn hn2 hm hmL hcap hcap2 hK hK2 hnK hL hKb HP9 hAsc h100 hsz hsym hinj

end Go.Proofs.Qxb6617947a
