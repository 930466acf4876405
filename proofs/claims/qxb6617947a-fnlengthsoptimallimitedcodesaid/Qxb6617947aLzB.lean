import Derived.Test.Qxb6617947aLzC
/-! Lengths: the depths. -/
namespace Go.Proofs.Qxb6617947a
open Go.RowKit
set_option linter.unusedVariables false
set_option linter.unusedSimpArgs false

/-- What the parents' array holds. -/
def ParOK (w : Nat → Nat) (n : Nat) (PV : Nat → Nat) (t : Nat) : Prop := ∀ j, j < t → (hS w n j → PV (hc w n j) = n + j / 2) ∧ (¬ hS w n j → PV (n + (j - hc w n j)) = n + j / 2)
def depF (w : Nat → Nat) (n y : Nat) : Nat := if y < n then hD w n y else hN w n (y - n)
theorem hc_end {w : Nat → Nat} {n : Nat} (hn : 2 ≤ n) : hc w n (2 * n - 2) = n := by
  have h0 := h_inv (w := w) hn (j := 2 * n - 2) (Nat.le_refl _)
  obtain ⟨a1, a2, a3⟩ := h_inv (w := w) hn (j := 2 * n - 3) (by omega)
  have e : 2 * n - 2 = 2 * n - 3 + 1 := by omega
  by_cases hsS : hS w n (2 * n - 3)
  · have := (hst_yes hsS).1
    rw [← e] at this
    have := hsS.1
    omega
  · have hq2 := h_node hn (by omega) hsS
    have := (hst_no hsS hq2).1
    rw [← e] at this
    omega
theorem dep_step {w PV : Nat → Nat} {n : Nat} (hn : 2 ≤ n) (hw : Asc w n) (h100 : ht w n 100 = 0) (hP : ParOK w n PV (2 * n - 2)) {i : Nat} (hi : i < 2 * n - 2) :
    ∃ p, PV i = p ∧ i < p ∧ p ≤ 2 * n - 2 ∧ depF w n i = depF w n p + 1 := by
  have M := h_merge hn hw
  rcases Nat.lt_or_ge i n with h | h
  · obtain ⟨j, j1, j2, j3, _, _⟩ := M.sym (j := 2 * n - 2) (Nat.le_refl _) (i := i) (by rw [hc_end hn]; exact h)
    have hs : hS w n j := by
      by_cases hsS : hS w n j
      · exact hsS
      · have := (hst_no hsS (h_node hn j1 hsS)).1
        omega
    refine ⟨n + j / 2, by rw [← j2]; exact (hP j j1).1 hs, by omega, by omega, ?_⟩
    have := hD_eq hn hw h100 j1 hs
    unfold depF
    rw [if_pos h, if_neg (by omega), show n + j / 2 - n = j / 2 by omega, ← this, j2]
  · obtain ⟨j, j1, j2, j3, _, _⟩ := M.pair (j := 2 * n - 2) (Nat.le_refl _) (q := i - n) (by rw [hc_end hn]; omega)
    have hs : ¬ hS w n j := fun hsS => by
      have := (hst_yes hsS).1
      omega
    have hq := h_node hn j1 hs
    refine ⟨n + j / 2, by have := (hP j j1).2 hs; rwa [j2, show n + (i - n) = i by omega] at this, by omega, by omega, ?_⟩
    have := hN_eq hn hw h100 j1 hs
    unfold depF
    rw [if_neg (by omega), if_neg (by omega), show n + j / 2 - n = j / 2 by omega, ← this, j2]
theorem depF_le (w : Nat → Nat) (n y : Nat) : depF w n y ≤ 100 := by
  unfold depF
  split
  · exact lenOf_le _ _ _
  · exact lenOf_le _ _ _
theorem depF_root {w : Nat → Nat} {n : Nat} (hn : 2 ≤ n) (hw : Asc w n) : depF w n (2 * n - 2) = 0 := by
  unfold depF
  rw [if_neg (by omega), show 2 * n - 2 - n = n - 2 by omega]
  exact hN_root hn hw
set_option maxHeartbeats 4000000 in
set_option maxRecDepth 100000 in
theorem lzB {w0 : World} {fa : Option Addr} {kb ob pb n m fc L K cap : Nat} {KV O sym PV : Nat → Nat} {x3 x4 x5 x8 x9 x10 x12 x13 x14 x15 x16 x17 x18 x19 x20 x21 x22 x23 x24 x25 x26 x27 x28 x29 x30 x31 x32 x33 x34 x35 x36 x37 x38 x39 x40 x41 x42 x43 x44 x45 x46 x47 x48 x49 x50 x51 x52 x53 x54 x55 x56 x57 x58 x59 x60 x61 x62 x63 x64 x65 x66 x67 x68 x69 x70 x71 x72 x73 x74 x75 x76 x77 x78 x79 x80 x81 x82 x83 x84 x85 x86 x87 x88 x89 x90 x91 x92 x93 x94 x95 x96 x97 x98 x99 x100 x101 x102 x103 x104 x105 x106 x107 x108 x109 x110 x111 x112 x113 x114 x115 x116 x117 x118 x119 x120 x121 x122 x123 x124 x125 x126 x127 x128 x129 x130 x131 x132 x133 x134 x135 x136 : Value} {w : World}
    (hKw : Keeps (fun b => b = ob) w0 w) (hk : Own w kb 512 (fun j => .int .u64 (KV j : Nat))) (hp : Own w pb 1024 (fun j => .int .u16 (PV j : Nat))) (ho : Own w ob L (fun j => .int .u8 (O j : Nat)))
    (d1 : kb ≠ ob) (d2 : pb ≠ ob) (hn : 2 ≤ n) (hn2 : n ≤ 512) (hm : m ≤ 512) (hmL : m ≤ L) (hcap : L ≤ cap) (hcap2 : cap ≤ 9223372036854775807) (hK : 1 ≤ K) (hK2 : K ≤ 20) (hnK : Hid (n ≤ 2 ^ K)) (hL : L ≤ 1048576) (hKb : Hid (∀ i, i < n → KV i < 281474976710656))
    (hPar : Hid (ParOK (wtOf KV) n PV (2 * n - 2))) (hAsc : Hid (Asc (wtOf KV) n)) (h100 : Hid (ht (wtOf KV) n 100 = 0)) (how : w0.heap.size ≤ w.heap.size) (hsym : Hid (∀ i, i < n → sym i = KV i % 65536 ∧ sym i < m)) (hinj : Hid (∀ i j, i < n → j < n → sym i = sym j → i = j)) :
    Code.wp Try.prog (tailF Try.f15 21) (bodyPost Try.prog Try.f15 fun e w' => e = .returned (.tuple #[]) ∧ Keeps (fun b => b = ob) w0 w' ∧ Own w' ob L (fun j => .int .u8 (outF (clr O m) sym n (lv (wtOf KV) n K) j : Nat))) ⟨#[.slice fa m fc, .slice (some ⟨ob, 0, none⟩) L cap, .int .i64 (K : Nat), x3, x4, x5, .pointer (some ⟨kb, 0, none⟩), .int .i64 (n : Nat), x8, x9, x10, .pointer (some ⟨pb, 0, none⟩), x12, x13, x14, x15, x16, x17, x18, x19, x20, x21, x22, x23, x24, x25, x26, x27, x28, x29, x30, x31, x32, x33, x34, x35, x36, x37, x38, x39, x40, x41, x42, x43, x44, x45, x46, x47, x48, x49, x50, x51, x52, x53, x54, x55, x56, x57, x58, x59, x60, x61, x62, x63, x64, x65, x66, x67, x68, x69, x70, x71, x72, x73, x74, x75, x76, x77, x78, x79, x80, x81, x82, x83, x84, x85, x86, x87, x88, x89, x90, x91, x92, x93, x94, x95, x96, x97, x98, x99, x100, x101, x102, x103, x104, x105, x106, x107, x108, x109, x110, x111, x112, x113, x114, x115, x116, x117, x118, x119, x120, x121, x122, x123, x124, x125, x126, x127, x128, x129, x130, x131, x132, x133, x134, x135, x136], []⟩ w := by
  rw [tail15_21]
  go_wp2
  conv => arg 2; whnf
  go_wp2_with (refine wpList_alloc_zero rfl (some 19) rfl 50 rfl (.int .u8 0) 1024 (zeroIs_of isU8_eq zero50) ?_)
  intro w1 hB1 hK1
  have hdo := Own.rep hB1
  have hk1 := hk.keep hK1 (fun h => h)
  have ho1 := ho.keep hK1 (fun h => h)
  have hp1 := hp.keep hK1 (fun h => h)
  have hkl := hk.lt
  have hol := ho.lt
  have hpl := hp.lt
  have hKo1 : Keeps (fun b => b = ob) w0 w1 := hKw.trans (hK1.mono fun _ _ h => h.elim)
  obtain ⟨db, hdbe⟩ : ∃ db, w.heap.size = db := ⟨_, rfl⟩
  rw [hdbe] at hdo hkl hol hpl how ⊢
  clear hB1 hK1 hk ho hp hdbe hKw
  go_wp2
  rw [tail15_22]
  go_wp2
  conv => arg 2; whnf
  go_wp2
  go_loopw [20] (fun v20 wr => ∃ (x : Nat) (z : Int) (DV : Nat → Nat), x ≤ 2 * n - 2 ∧ z = (x : Int) - 1 ∧ v20 = .int .i64 z ∧ Keeps (fun b => b = db) w1 wr ∧ Own wr db 1024 (fun y => .int .u8 (DV y : Nat)) ∧ (∀ y, x ≤ y → y ≤ 2 * n - 2 → DV y = depF (wtOf KV) n y)) (fun v20 _ => (intOf v20 + 1).toNat)
  case atStart =>
    refine ⟨2 * n - 2, (n : Int) + (n : Int) - 3, fun _ => 0, Nat.le_refl _, by omega, rfl, Keeps.refl _ _, hdo, fun y h1 h2 => ?_⟩
    obtain rfl : y = 2 * n - 2 := by omega
    exact (depF_root hn hAsc.out).symm
  case round =>
    obtain ⟨x, z, DV, hx, hz, rfl, hK2x, hO2, hDV⟩ := hrel
    have HDV : Hid (∀ y, x ≤ y → y ≤ 2 * n - 2 → DV y = depF (wtOf KV) n y) := hDV
    clear hDV
    rcases Nat.eq_zero_or_pos x with hx0 | hx0
    · subst hx0
      have hz0 : ¬ (0 : Int) ≤ z := by omega
      have hk9 := hk1.keep hK2x (fun h => by omega)
      have ho9 := ho1.keep hK2x (fun h => by omega)
      have hK9 := keeps_new hKo1 hK2x (fun b hb => by omega)
      have hg9 : Hid (∀ i, i < n → DV i = hD (wtOf KV) n i ∧ hD (wtOf KV) n i ≤ 100) := fun i hi => by
        have h1 := HDV.out i (Nat.zero_le _) (by omega)
        have h2 := depF_le (wtOf KV) n i
        have h3 : depF (wtOf KV) n i = hD (wtOf KV) n i := if_pos hi
        rw [h3] at h1 h2
        exact ⟨h1, h2⟩
      clear hk1 ho1 hp1 hKo1 hdo
      go_wp2
      exact lzC hK9 hk9 hO2 ho9 d1 (by omega) hn hn2 hm hmL hcap hcap2 hK hK2 hnK hL hKb hg9 hsym hinj
    · obtain ⟨i, rfl⟩ : ∃ i, x = i + 1 := ⟨x - 1, by omega⟩
      obtain rfl : z = (i : Int) := by omega
      obtain ⟨p, hp1e, hp2, hp3, hp4⟩ := dep_step hn hAsc.out h100.out hPar.out (i := i) (by omega)
      have hcp := (hp1.keep hK2x (fun h => by omega)).cell i (by omega)
      rw [hp1e] at hcp
      have hcd := hO2.cell p (by omega)
      rw [HDV.out p (by omega) hp3] at hcd
      have hle := depF_le (wtOf KV) n p
      have hci := hO2.cell i (by omega)
      have hfi := hO2.free i
      obtain ⟨V, hV⟩ : ∃ V, depF (wtOf KV) n p = V := ⟨_, rfl⟩
      rw [hV] at hcd hle hp4
      have HP4 : Hid (depF (wtOf KV) n i = V + 1) := hp4
      have hne : p ≠ i := by omega
      have hi0 : (0 : Int) ≤ (i : Int) := by omega
      have hi1 : (i : Int) < 1024 := by omega
      have hp0 : (0 : Int) ≤ (p : Int) := by omega
      have hpi : (p : Int) < 1024 := by omega
      clear hp1e hV hp4 hz
      go_wp2
      refine ⟨?rel, ?measure⟩
      case rel =>
        refine ⟨i, (i : Int) - 1, updF DV i (V + 1), by omega, rfl, rfl, hK2x.setCell (p := ⟨db, _, none⟩) rfl _, ?_, fun y h1 h2 => ?_⟩
        · refine (hO2.set (i := i) (by omega) _).congr fun y _ => ?_
          unfold updV updF
          by_cases hyi : y = i
          · rw [if_pos hyi, if_pos hyi]; rfl
          · rw [if_neg hyi, if_neg hyi]
        · unfold updF
          by_cases hyi : y = i
          · rw [if_pos hyi, hyi, HP4.out]
          · rw [if_neg hyi]; exact HDV.out y (by omega) h2
      case measure => simp [intOf]

end Go.Proofs.Qxb6617947a
