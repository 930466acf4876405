import Derived.Test.Qxb6617355aByt
/-! FnTallyAddForgetsAllButTheLatestThousand: the count that comes in. -/
namespace Go.Proofs.Qxb6617355a
open Go.RowKit

theorem there_new (w : World) (cs : Array Value) (T : TypeId) {n : Nat} (h : n ≤ cs.size) : (w.alloc (.cells cs T)).there w.heap.size 0 n := fun j hj => by
  rw [Nat.zero_add, World.cell?_alloc_new, World.frozen?_alloc_new]
  exact ⟨by simp; omega, rfl⟩
theorem range_new (w : World) (cs : List Value) (T : TypeId) : (w.alloc (.cells cs.toArray T)).rangeAt w.heap.size 0 cs := fun j v hv => by
  rw [Nat.zero_add, World.cell?_alloc_new]
  simpa using hv
abbrev objZ16 : Array Value := #[.int .u64 0, .int .u64 0, .int .u64 0, .int .u64 0, .int .u64 0, .int .u64 0, .int .u64 0, .int .u64 0, .int .u64 0, .int .u64 0, .int .u64 0, .int .u64 0, .int .u64 0, .int .u64 0, .int .u64 0, .int .u64 0]
theorem two_new {w0 w : World} {B : Nat → Nat} (h : Keeps Nob w0 w) : TM w0 ((w.alloc (objB B)).alloc (.cells objZ16 30)) w.heap.size (w.heap.size + 1) B (fun _ => 0) where
  kw := (h.alloc _).alloc _
  ra := World.rangeAt_alloc (range_new w (cellsB B) 30) _
  ta := World.there_alloc (there_new w (cellsB B).toArray 30 (n := 16) (Nat.le_of_eq (by rw [List.size_toArray, cellsB_len]))) _
  rb := by
    have := range_new (w.alloc (objB B)) (cellsB fun _ => 0) 30
    rw [World.size_alloc] at this
    exact this
  tb := by
    have := there_new (w.alloc (objB B)) objZ16 30 (n := 16) (by decide)
    rw [World.size_alloc] at this
    exact this
  la := by simp; omega
  lb := by simp
  na := h.size
  nb := Nat.le_succ_of_le h.size
  ne := by omega
set_option maxHeartbeats 4000000 in
set_option maxRecDepth 100000 in
theorem law6y {w0 : World} {ao : Option Addr} {l co n x : Nat} {cnt : Int} {B0 : Nat → Nat} {O : Nat → Bool} {x0 x6 x7 x8 x9 x10 x11 x12 x13 x14 x15 x16 x17 x18 x19 x20 x21 x22 x23 x24 x25 x26 x27 x28 x29 x30 x31 x32 x33 x34 x35 x36 x37 x38 x39 x40 x41 x42 x43 x44 x45 x46 x47 x48 x49 x50 x51 x52 x53 x54 x55 x56 x57 x58 x59 x60 x61 x62 x63 x64 x65 x66 x67 x68 x69 x70 x71 x72 x73 x74 x75 x76 x77 x78 x79 x80 x81 x82 x83 x84 x85 x86 x87 x88 x89 x90 x91 x92 x93 x94 x95 x96 x97 x98 x99 x100 x101 x102 x103 x104 x105 x106 x107 x108 x109 x110 x111 x112 x113 x114 x115 x116 x117 x118 x119 x120 x121 x122 x123 x124 x125 x126 x127 x128 x129 x130 x131 x132 x133 x134 x135 x136 x137 x138 x139 x140 x141 x142 x143 x144 x145 x146 x147 x148 x149 x150 x151 x152 x153 x154 x155 x156 x157 x158 x159 x160 x161 x162 x163 x164 x165 x166 x167 x168 x169 x170 x171 x172 x173 x174 x175 x176 x177 x178 x179 x180 x181 x182 x183 x184 x185 x186 : Value} {w : World}
    (hK : Keeps Nob w0 w) (hb : w.heap[w0.heap.size]? = some (objB B0)) (hn : n ≤ 1000) (hx : x < 1000) (hf : (n : Int) < 1000 → x = n) (hB : Hid (∀ i, B0 i < 18446744073709551616))
    (hO : SlF Value.bool w0 0 w0.heap.size ao l O) (hl : l ≤ 1048576) :
    Code.wp Try.prog (tailF Try.f6 9) (bodyPost Try.prog Try.f6 fun e w' => e = .returned (.bool true) ∧ Keeps Nob w0 w') ⟨#[x0, .int .i64 (n : Nat), .int .i64 (x : Nat), .int .i64 cnt, .slice ao l co, .pointer (some ⟨w0.heap.size, 0, none⟩), x6, x7, x8, x9, x10, x11, x12, x13, x14, x15, x16, x17, x18, x19, x20, x21, x22, x23, x24, x25, x26, x27, x28, x29, x30, x31, x32, x33, x34, x35, x36, x37, x38, x39, x40, x41, x42, x43, x44, x45, x46, x47, x48, x49, x50, x51, x52, x53, x54, x55, x56, x57, x58, x59, x60, x61, x62, x63, x64, x65, x66, x67, x68, x69, x70, x71, x72, x73, x74, x75, x76, x77, x78, x79, x80, x81, x82, x83, x84, x85, x86, x87, x88, x89, x90, x91, x92, x93, x94, x95, x96, x97, x98, x99, x100, x101, x102, x103, x104, x105, x106, x107, x108, x109, x110, x111, x112, x113, x114, x115, x116, x117, x118, x119, x120, x121, x122, x123, x124, x125, x126, x127, x128, x129, x130, x131, x132, x133, x134, x135, x136, x137, x138, x139, x140, x141, x142, x143, x144, x145, x146, x147, x148, x149, x150, x151, x152, x153, x154, x155, x156, x157, x158, x159, x160, x161, x162, x163, x164, x165, x166, x167, x168, x169, x170, x171, x172, x173, x174, x175, x176, x177, x178, x179, x180, x181, x182, x183, x184, x185, x186], []⟩ w := by
  rw [tail6_9]
  go_wp2
  conv => arg 2; whnf
  by_cases hl0 : 1000 ≤ l
  case neg =>
    have hl0' : (l : Int) < 1000 := by omega
    go_wp2
    go_ret
    exact ⟨rfl, hK⟩
  have hl0' : ¬ (l : Int) < 1000 := by omega
  go_wp2
  rw [tail6_11]
  go_wp2
  conv => arg 2; whnf
  have hc13 : Calls Try.prog 13 #[aggB B0, .int .i64 n, .int .i64 x] w fun e w' => e = .returned (.int .i64 ((held B0 n x n).count true : Nat)) ∧ Keeps Nob w w' := zzhHeldOnes_any B0 n x w hn hx hB.out
  obtain ⟨q, hq⟩ : ∃ q, (held B0 n x n).count true = q := ⟨_, rfl⟩
  have HQ : Hid ((held B0 n x n).count true = q) := hq
  rw [hq] at hc13
  clear hq
  by_cases hcq : cnt = q
  case neg =>
    have hne : (cnt != (q : Int)) = true := by simpa using hcq
    go_wp2_with (first | (refine wpList_load_row rfl 30 (.tmp 5) rfl w0.heap.size rfl 30 _ _ _ hb Try.underlying30 rfl (by kernel_rfl) ?_) | (go_at_call 13; refine hc13.mono ?_; rintro e w' ⟨rfl, hK2⟩))
    go_ret
    exact ⟨rfl, hK.trans hK2⟩
  subst hcq
  have hne : ((q : Int) != (q : Int)) = false := by simp
  go_wp2_with (first | (refine wpList_load_row rfl 30 (.tmp 5) rfl w0.heap.size rfl 30 _ _ _ hb Try.underlying30 rfl (by kernel_rfl) ?_) | (go_at_call 13; refine hc13.mono ?_; rintro e w1 ⟨rfl, hK2⟩))
  have hb2 : w1.heap[w0.heap.size]? = some (objB B0) := (hK2.block _ (Array.getElem?_eq_some_iff.1 hb).1 (fun h => h)).trans hb
  have hK3 := hK.trans hK2
  clear hK2 hK hc13 hb hne
  rw [tail6_13]
  go_wp2
  conv => arg 2; whnf
  go_wp2_with (first | (refine wpList_load_row rfl 30 (.tmp 5) rfl w0.heap.size rfl 30 _ _ _ hb2 Try.underlying30 rfl (by kernel_rfl) ?_) | (refine wpList_store_mid rfl 30 (.tmp 11) (.tmp 66) rfl w1.heap.size 0 (cellsB B0).toArray rfl rfl (there_new w1 objZ16 30 (by decide)) (info30 _) (all_oneCell_toArray (cellsB_one _)) ?_))
  rw [tail6_14]
  go_wp2
  conv => arg 2; whnf
  go_wp2
  have hM : TM w0 ((w1.alloc (objB B0)).alloc (.cells objZ16 30)) w1.heap.size (w1.heap.size + 1) B0 (fun _ => 0) := two_new hK3
  have hT := TOk.begin (B := B0) hn hx (fun h => hf (by omega)) hB.out
  rw [HQ.out] at hT
  have HT : Hid (TOk B0 n x (q : Int) (held B0 n x n)) := hT
  clear hT
  exact law6a hM hO (by omega) (by omega) hx HT

end Go.Proofs.Qxb6617355a
