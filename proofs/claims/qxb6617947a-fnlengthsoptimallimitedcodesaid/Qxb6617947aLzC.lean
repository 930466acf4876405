import Derived.Test.Qxb6617947aLzE
/-! Lengths: the longest; clear. -/
namespace Go.Proofs.Qxb6617947a
open Go.RowKit
set_option linter.unusedVariables false
set_option linter.unusedSimpArgs false

def clr (O : Nat → Nat) (m x : Nat) : Nat := if x < m then 0 else O x
theorem mxD_le {g : Nat → Nat} {n B : Nat} (h : ∀ i, i < n → g i ≤ B) : ∀ i, i ≤ n → mxD g i ≤ B
  | 0, _ => Nat.zero_le _
  | i + 1, hi => by
    have h1 := mxD_le h i (by omega)
    have h2 := h i (by omega)
    show max _ _ ≤ B
    omega
theorem cleared {w : World} {ob L m : Nat} {O : Nat → Nat} (h : Own w ob L (fun j => .int .u8 (O j : Nat))) (hm : m ≤ L) : Own (w.setCells ob 0 (List.replicate m (.int .u8 0))) ob L (fun j => .int .u8 (clr O m j : Nat)) := by
  refine (h.setCells (List.replicate m (.int .u8 0)) 0 (by simp; omega)).congr fun j _ => ?_
  rw [List.length_replicate]
  unfold clr
  by_cases hj : j < m
  · rw [if_pos (by omega), if_pos hj]
    simp [hj]
  · rw [if_neg (by omega), if_neg hj]
theorem setCells_keepS {w0 w : World} {g : Nat} (h : Keeps (fun b => b = g) w0 w) : ∀ (vs : List Value) (o : Nat), Keeps (fun b => b = g) w0 (w.setCells g o vs) := by
  intro vs
  induction vs generalizing w with
  | nil => intro o; exact h
  | cons v vs ih => intro o; exact ih (h.setCell (p := ⟨g, o, none⟩) rfl v) (o + 1)
set_option maxHeartbeats 4000000 in
set_option maxRecDepth 100000 in
theorem lzC {w0 : World} {fa : Option Addr} {kb ob db n m fc L K cap : Nat} {KV O sym DV : Nat → Nat} {x3 x4 x5 x8 x9 x10 x11 x12 x13 x14 x15 x16 x17 x18 x20 x21 x22 x23 x24 x25 x26 x27 x28 x29 x30 x31 x32 x33 x34 x35 x36 x37 x38 x39 x40 x41 x42 x43 x44 x45 x46 x47 x48 x49 x50 x51 x52 x53 x54 x55 x56 x57 x58 x59 x60 x61 x62 x63 x64 x65 x66 x67 x68 x69 x70 x71 x72 x73 x74 x75 x76 x77 x78 x79 x80 x81 x82 x83 x84 x85 x86 x87 x88 x89 x90 x91 x92 x93 x94 x95 x96 x97 x98 x99 x100 x101 x102 x103 x104 x105 x106 x107 x108 x109 x110 x111 x112 x113 x114 x115 x116 x117 x118 x119 x120 x121 x122 x123 x124 x125 x126 x127 x128 x129 x130 x131 x132 x133 x134 x135 x136 : Value} {w : World}
    (hKw : Keeps (fun b => b = ob) w0 w) (hk : Own w kb 512 (fun j => .int .u64 (KV j : Nat))) (hd : Own w db 1024 (fun j => .int .u8 (DV j : Nat))) (ho : Own w ob L (fun j => .int .u8 (O j : Nat)))
    (d1 : kb ≠ ob) (d2 : db ≠ ob) (hn : 2 ≤ n) (hn2 : n ≤ 512) (hm : m ≤ 512) (hmL : m ≤ L) (hcap : L ≤ cap) (hcap2 : cap ≤ 9223372036854775807) (hK : 1 ≤ K) (hK2 : K ≤ 20) (hnK : Hid (n ≤ 2 ^ K)) (hL : L ≤ 1048576) (hKb : Hid (∀ i, i < n → KV i < 281474976710656))
    (hg : Hid (∀ i, i < n → DV i = hD (wtOf KV) n i ∧ hD (wtOf KV) n i ≤ 100)) (hsym : Hid (∀ i, i < n → sym i = KV i % 65536 ∧ sym i < m)) (hinj : Hid (∀ i j, i < n → j < n → sym i = sym j → i = j)) :
    Code.wp Try.prog (tailF Try.f15 26) (bodyPost Try.prog Try.f15 fun e w' => e = .returned (.tuple #[]) ∧ Keeps (fun b => b = ob) w0 w' ∧ Own w' ob L (fun j => .int .u8 (outF (clr O m) sym n (lv (wtOf KV) n K) j : Nat))) ⟨#[.slice fa m fc, .slice (some ⟨ob, 0, none⟩) L cap, .int .i64 (K : Nat), x3, x4, x5, .pointer (some ⟨kb, 0, none⟩), .int .i64 (n : Nat), x8, x9, x10, x11, x12, x13, x14, x15, x16, x17, x18, .pointer (some ⟨db, 0, none⟩), x20, x21, x22, x23, x24, x25, x26, x27, x28, x29, x30, x31, x32, x33, x34, x35, x36, x37, x38, x39, x40, x41, x42, x43, x44, x45, x46, x47, x48, x49, x50, x51, x52, x53, x54, x55, x56, x57, x58, x59, x60, x61, x62, x63, x64, x65, x66, x67, x68, x69, x70, x71, x72, x73, x74, x75, x76, x77, x78, x79, x80, x81, x82, x83, x84, x85, x86, x87, x88, x89, x90, x91, x92, x93, x94, x95, x96, x97, x98, x99, x100, x101, x102, x103, x104, x105, x106, x107, x108, x109, x110, x111, x112, x113, x114, x115, x116, x117, x118, x119, x120, x121, x122, x123, x124, x125, x126, x127, x128, x129, x130, x131, x132, x133, x134, x135, x136], []⟩ w := by
  rw [tail15_26]
  go_wp2
  conv => arg 2; whnf
  go_wp2
  rw [tail15_27]
  go_wp2
  conv => arg 2; whnf
  go_wp2
  go_loopw [21, 100] (fun v21 v100 wr => ∃ i : Nat, i ≤ n ∧ v100 = .int .i64 i ∧ v21 = .int .u8 (mxD (hD (wtOf KV) n) i : Nat) ∧ wr = w) (fun _ v100 _ => n - (intOf v100).toNat)
  case atStart => exact ⟨0, Nat.zero_le _, rfl, rfl, rfl⟩
  case round =>
    obtain ⟨i, hi, rfl, rfl, hwr⟩ := hrel
    obtain rfl : w = wr := hwr.symm
    have hmi := mxD_le (fun i hi => (hg.out i hi).2) i hi
    by_cases hlt : i < n
    · have hc := hd.cell i (by omega)
      obtain ⟨g1, g2⟩ := hg.out i hlt
      rw [g1] at hc
      have hs : mxD (hD (wtOf KV) n) (i + 1) = max (mxD (hD (wtOf KV) n) i) (hD (wtOf KV) n i) := rfl
      obtain ⟨a, ha⟩ : ∃ a, mxD (hD (wtOf KV) n) i = a := ⟨_, rfl⟩
      obtain ⟨b, hb⟩ : ∃ b, hD (wtOf KV) n i = b := ⟨_, rfl⟩
      rw [ha, hb] at hs
      rw [ha] at hmi ⊢
      rw [hb] at hc g2
      have HS : Hid (mxD (hD (wtOf KV) n) (i + 1) = max a b) := hs
      have hi0 : (0 : Int) ≤ (i : Int) := by omega
      have hi1 : (i : Int) < 1024 := by omega
      clear g1 ha hb hs
      go_wp2
      refine ⟨⟨i + 1, by omega, by go_num, by rw [HS.out]; congr 1; omega, trivial⟩, by simp [intOf]; omega⟩
    · obtain rfl : i = n := by omega
      have hA0 : (0 : Int) ≤ (m : Int) := by omega
      have hA1 : (m : Int) ≤ (cap : Int) := by omega
      obtain ⟨mx, hmx⟩ : ∃ mx, mxD (hD (wtOf KV) i) i = mx := ⟨_, rfl⟩
      rw [hmx] at hmi ⊢
      have HMX : Hid (mx = mxD (hD (wtOf KV) i) i) := hmx.symm
      clear hmx
      go_wp2
      rw [tail15_32]
      go_wp2
      conv => arg 2; whnf
      go_wp2_with (first | (refine wpList_clear_u8 rfl (.tmp 112) rfl rfl ob 0 m cap rfl (ho.there (by omega)) ?_))
      have ho2 := cleared ho hmL
      have hk2 := hk.setCells_other (Ne.symm d1) (List.replicate m (.int .u8 0)) 0
      have hd2 := hd.setCells_other (Ne.symm d2) (List.replicate m (.int .u8 0)) 0
      have hK2' := setCells_keepS hKw (List.replicate m (.int .u8 0)) 0
      have hs2 : Hid (∀ i_1, i_1 < i → sym i_1 = KV i_1 % 65536 ∧ sym i_1 < L ∧ clr O m (sym i_1) = 0) := fun j hj => by
        obtain ⟨a1, a2⟩ := hsym.out j hj
        exact ⟨a1, by omega, if_pos a2⟩
      have hg2 : Hid (∀ j, j < i → DV j = hD (wtOf KV) i j ∧ hD (wtOf KV) i j ≤ 255) := fun j hj => ⟨(hg.out j hj).1, by have := (hg.out j hj).2; omega⟩
      clear ho hk hd hKw hg hsym
      generalize w.setCells ob 0 (List.replicate m (.int .u8 0)) = w1 at ho2 hk2 hd2 hK2' ⊢
      go_wp2
      exact lzD hK2' hk2 hd2 ho2 d1 d2 hn hn2 hK hK2 hnK hL hKb hg2 HMX (by omega) hs2 hinj

end Go.Proofs.Qxb6617947a
