import Derived.Test.Qxb6617947aPmC
/-! packageMerge: the whole. -/
namespace Go.Proofs.Qxb6617947a
open Go.RowKit
set_option linter.unusedVariables false
set_option linter.unusedSimpArgs false

def wtOf (Kf : Nat → Nat) (j : Nat) : Nat := Kf j / 65536
set_option maxHeartbeats 4000000 in
set_option maxRecDepth 100000 in
theorem pmA {kb ob n L K cap : Nat} {Kf O sym : Nat → Nat} {x4 x5 x6 x7 x8 x9 x10 x11 x12 x13 x14 x15 x16 x17 x18 x19 x20 x21 x22 x23 x24 x25 x26 x27 x28 x29 x30 x31 x32 x33 x34 x35 x36 x37 x38 x39 x40 x41 x42 x43 x44 x45 x46 x47 x48 x49 x50 x51 x52 x53 x54 x55 x56 x57 x58 x59 x60 x61 x62 x63 x64 x65 x66 x67 x68 x69 x70 x71 x72 x73 x74 x75 x76 x77 x78 x79 x80 x81 x82 x83 x84 x85 x86 x87 x88 x89 x90 x91 x92 x93 x94 x95 x96 x97 x98 x99 x100 x101 x102 x103 x104 x105 x106 x107 x108 x109 x110 x111 x112 x113 x114 x115 x116 x117 x118 x119 x120 x121 x122 x123 x124 x125 x126 x127 x128 x129 x130 x131 x132 x133 x134 x135 x136 x137 x138 x139 x140 x141 x142 x143 x144 x145 x146 x147 x148 x149 x150 x151 x152 x153 x154 x155 x156 x157 x158 x159 x160 x161 x162 x163 x164 x165 x166 : Value} {w : World}
    (hk : Own w kb 512 (fun j => .int .u64 (Kf j))) (ho : Own w ob L (fun j => .int .u8 (O j)))
    (d1 : kb ≠ ob) (hn : 2 ≤ n) (hn2 : n ≤ 512) (hK : 1 ≤ K) (hK2 : K ≤ 20) (hnK : Hid (n ≤ 2 ^ K)) (hL : L ≤ 1048576)
    (hKb : Hid (∀ i, i < n → Kf i < 281474976710656))
    (hsym : Hid (∀ i, i < n → sym i = Kf i % 65536 ∧ sym i < L ∧ O (sym i) = 0)) (hinj : Hid (∀ i j, i < n → j < n → sym i = sym j → i = j)) :
    Code.wp Try.prog (tailF Try.f23 0) (bodyPost Try.prog Try.f23 fun e w' => e = .returned (.tuple #[]) ∧ Keeps (fun b => b = ob) w w' ∧ Own w' ob L (fun j => .int .u8 (outF O sym n (lenOf (sk (wtOf Kf) n K) K) j : Nat))) ⟨#[.pointer (some ⟨kb, 0, none⟩), .int .i64 (n : Nat), .slice (some ⟨ob, 0, none⟩) L cap, .int .i64 (K : Nat), x4, x5, x6, x7, x8, x9, x10, x11, x12, x13, x14, x15, x16, x17, x18, x19, x20, x21, x22, x23, x24, x25, x26, x27, x28, x29, x30, x31, x32, x33, x34, x35, x36, x37, x38, x39, x40, x41, x42, x43, x44, x45, x46, x47, x48, x49, x50, x51, x52, x53, x54, x55, x56, x57, x58, x59, x60, x61, x62, x63, x64, x65, x66, x67, x68, x69, x70, x71, x72, x73, x74, x75, x76, x77, x78, x79, x80, x81, x82, x83, x84, x85, x86, x87, x88, x89, x90, x91, x92, x93, x94, x95, x96, x97, x98, x99, x100, x101, x102, x103, x104, x105, x106, x107, x108, x109, x110, x111, x112, x113, x114, x115, x116, x117, x118, x119, x120, x121, x122, x123, x124, x125, x126, x127, x128, x129, x130, x131, x132, x133, x134, x135, x136, x137, x138, x139, x140, x141, x142, x143, x144, x145, x146, x147, x148, x149, x150, x151, x152, x153, x154, x155, x156, x157, x158, x159, x160, x161, x162, x163, x164, x165, x166], []⟩ w := by
  rw [tail23_0]
  go_wp2
  conv => arg 2; whnf
  go_wp2_with (refine wpList_alloc_zero rfl (some 8) rfl 26 rfl (.int .u64 0) 512 (zeroIs_of isU64_eq zero26) ?_)
  intro w1 hB1 hK1
  have hwo := Own.rep hB1
  have hk1 := hk.keep hK1 (fun h => h)
  have ho1 := ho.keep hK1 (fun h => h)
  have hkl := hk.lt
  have hol := ho.lt
  have hKo1 : Keeps (fun b => b = ob) w w1 := hK1.mono fun _ _ h => h.elim
  obtain ⟨wb, hwbe⟩ : ∃ wb, w.heap.size = wb := ⟨_, rfl⟩
  rw [hwbe] at hwo hkl hol ⊢
  have HWB : Hid (w.heap.size = wb) := hwbe
  clear hB1 hK1 hk ho hwbe
  have hA0 : (0 : Int) ≤ (n : Int) := by omega
  have hA1 : (n : Int) ≤ 512 := by omega
  go_wp2
  rw [tail23_1]
  go_wp2
  conv => arg 2; whnf
  go_wp2
  go_loopw [33] (fun v33 wr => ∃ i : Nat, i ≤ n ∧ v33 = .int .i64 i ∧ Keeps (fun b => b = wb) w1 wr ∧ Own wr wb 512 (fun x => .int .u64 ((if x < i then wtOf Kf x else 0 : Nat)))) (fun v33 _ => n - (intOf v33).toNat)
  case atStart => exact ⟨0, Nat.zero_le _, rfl, Keeps.refl _ _, hwo.congr fun j _ => by simp⟩
  case round =>
    obtain ⟨i, hi3, rfl, hK5, hO5⟩ := hrel
    have hk5 := hk1.keep hK5 (fun h => by omega)
    by_cases hlt : i < n
    · have hc := hk5.cell i (by omega)
      have hcw := hO5.cell i (by omega)
      have hfw := hO5.free i
      have hb := hKb.out i hlt
      have hwt : Hid (wtOf Kf i = Kf i / 65536) := rfl
      obtain ⟨X, hX⟩ : ∃ X, Kf i = X := ⟨_, rfl⟩
      rw [hX] at hc hb hwt
      have hi0 : (0 : Int) ≤ (i : Int) := by omega
      have hi1 : (i : Int) < 512 := by omega
      clear hX
      go_wp2
      refine ⟨⟨i + 1, by omega, by go_num, hK5.setCell (p := ⟨wb, _, none⟩) rfl _, ?_⟩, by simp [intOf]; omega⟩
      refine (hO5.set (i := i) (by omega) _).congr fun x _ => ?_
      unfold updV
      by_cases hx : x = i
      · rw [if_pos hx, if_pos (by omega), hx, hwt.out]; rfl
      · rw [if_neg hx]
        show Value.int .u64 ((if x < i then wtOf Kf x else 0 : Nat)) = Value.int .u64 ((if x < i + 1 then wtOf Kf x else 0 : Nat))
        by_cases hx2 : x < i
        · rw [if_pos hx2, if_pos (by omega)]
        · rw [if_neg hx2, if_neg (by omega)]
    · obtain rfl : i = n := by omega
      have ho5 := ho1.keep hK5 (fun h => by omega)
      have hK6 := keeps_new hKo1 hK5 (fun b hb => by have := HWB.out; omega)
      clear hk1 ho1 hKo1 hwo
      go_wp2
      rw [tail23_6]
      go_wp2
      conv => arg 2; whnf
      go_wp2_with (refine wpList_alloc_zero rfl (some 11) rfl 52 rfl (.bool false) 20480 (zeroIs_of isNo_eq zero52) ?_)
      intro w2 hB2 hK2a
      have hio := Own.rep hB2
      have hk7 := hk5.keep hK2a (fun h => h)
      have ho7 := ho5.keep hK2a (fun h => h)
      have hw7 := hO5.keep hK2a (fun h => h)
      have hwl := hO5.lt
      have hK7 : Keeps (fun b => b = ob) w w2 := hK6.trans (hK2a.mono fun _ _ h => h.elim)
      have hsz1 := hK6.size
      obtain ⟨ib, hibe⟩ : ∃ ib, wr.heap.size = ib := ⟨_, rfl⟩
      rw [hibe] at hio hwl hsz1 ⊢
      clear hB2 hK2a hk5 ho5 hO5 hK6 hibe hK5
      go_wp2
      rw [tail23_7]
      go_wp2
      conv => arg 2; whnf
      go_wp2_with (refine wpList_alloc_zero rfl (some 12) rfl 54 rfl (.int .u64 0) 2048 (zeroIs_of isU64_eq zero54) ?_)
      intro w3 hB3 hK3a
      have hlo := Own.rep hB3
      have hk8 := hk7.keep hK3a (fun h => h)
      have ho8 := ho7.keep hK3a (fun h => h)
      have hw8 := hw7.keep hK3a (fun h => h)
      have hi8 := hio.keep hK3a (fun h => h)
      have hil := hio.lt
      have hK8 : Keeps (fun b => b = ob) w w3 := hK7.trans (hK3a.mono fun _ _ h => h.elim)
      have hsz2 := hK7.size
      obtain ⟨lb, hlbe⟩ : ∃ lb, w2.heap.size = lb := ⟨_, rfl⟩
      rw [hlbe] at hlo hil hsz2 ⊢
      have e1 := HWB.out
      clear hB3 hK3a hk7 ho7 hw7 hio hK7 hlbe
      go_wp2
      exact pmC hK8 hk8 hw8 hi8 hlo ho8 d1 (by omega) ⟨by omega, by omega, by omega, by omega, by omega⟩ (by omega) (by omega) (by omega) hn hn2 hK hK2 hnK hL (fun j hj => by show (if j < _ then _ else _) = _; rw [if_pos hj]) (fun j hj => by have := hKb.out j hj; show Kf j / 65536 ≤ _; omega) hsym hinj

set_option maxHeartbeats 4000000 in
set_option maxRecDepth 100000 in
/-- packageMerge sets the lengths. -/
theorem pm_any {kb ob n L K cap : Nat} {Kf O sym : Nat → Nat} {w : World} (hk : Own w kb 512 (fun j => .int .u64 (Kf j))) (ho : Own w ob L (fun j => .int .u8 (O j)))
    (d1 : kb ≠ ob) (hn : 2 ≤ n) (hn2 : n ≤ 512) (hK : 1 ≤ K) (hK2 : K ≤ 20) (hnK : Hid (n ≤ 2 ^ K)) (hL : L ≤ 1048576)
    (hKb : Hid (∀ i, i < n → Kf i < 281474976710656))
    (hsym : Hid (∀ i, i < n → sym i = Kf i % 65536 ∧ sym i < L ∧ O (sym i) = 0)) (hinj : Hid (∀ i j, i < n → j < n → sym i = sym j → i = j)) :
    Calls Try.prog 23 #[.pointer (some ⟨kb, 0, none⟩), .int .i64 (n : Nat), .slice (some ⟨ob, 0, none⟩) L cap, .int .i64 (K : Nat)] w fun e w' => e = .returned (.tuple #[]) ∧ Keeps (fun b => b = ob) w w' ∧ Own w' ob L (fun j => .int .u8 (outF O sym n (lenOf (sk (wtOf Kf) n K) K) j : Nat)) := by
  refine calls_of_wp Try.func23 body23 ?_
  simp only [Try.ntmps23, List.size_toArray, List.length_cons, List.length_nil, Nat.reduceAdd, Nat.reduceSub, Array.replicate_succ,
    Array.replicate_zero, List.push_toArray, List.append_toArray, List.nil_append, List.cons_append]
  exact pmA hk ho d1 hn hn2 hK hK2 hnK hL hKb hsym hinj

end Go.Proofs.Qxb6617947a
