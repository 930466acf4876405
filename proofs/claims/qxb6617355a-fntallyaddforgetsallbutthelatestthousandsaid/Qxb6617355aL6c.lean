import Derived.Test.Qxb6617355aCon
/-! FnTallyAddForgetsAllButTheLatestThousand: what is held. -/
namespace Go.Proofs.Qxb6617355a
open Go.RowKit
set_option linter.unusedSimpArgs false
theorem sbit_drew {wr : World} {ga gb : Nat} {A B : Nat → Nat} {a : Addr} {v : Value} (h : wr.rangeAt ga 0 (cellsB A) ∧ wr.rangeAt gb 0 (cellsB B) ∧ wr.cell? a = some v ∧ Keeps Nob wr wr) :
    wr.drew.rangeAt ga 0 (cellsB A) ∧ wr.drew.rangeAt gb 0 (cellsB B) ∧ wr.drew.cell? a = some v ∧ Keeps Nob wr wr.drew := ⟨by simpa using h.1, by simpa using h.2.1, h.2.2.1, h.2.2.2.drew⟩
theorem sbit_keep {wr w1 w2 : World} {ga gb : Nat} {A B : Nat → Nat} {a : Addr} {v : Value} (h1 : w1.rangeAt ga 0 (cellsB A)) (h2 : w1.rangeAt gb 0 (cellsB B)) (h3 : w1.cell? a = some v) (h4 : Keeps Nob wr w1) (k : Keeps Nob w1 w2)
    (hga : ga < wr.heap.size) (hgb : gb < wr.heap.size) : w2.rangeAt ga 0 (cellsB A) ∧ w2.rangeAt gb 0 (cellsB B) ∧ w2.cell? a = some v ∧ Keeps Nob wr w2 :=
  ⟨keep_range k h1 (Nat.lt_of_lt_of_le hga h4.size), keep_range k h2 (Nat.lt_of_lt_of_le hgb h4.size), (k.cell (p := a) (World.block_lt_of_cell? w1 _ h3) (fun h => h)).trans h3, h4.trans k⟩
theorem sbit_keepw {wr w1 w2 : World} {ga gb : Nat} {A B : Nat → Nat} {a : Addr} {v : Value} (h : w1.rangeAt ga 0 (cellsB A) ∧ w1.rangeAt gb 0 (cellsB B) ∧ w1.cell? a = some v ∧ Keeps Nob wr w1) (k : Keeps Nob w1 w2)
    (hga : ga < wr.heap.size) (hgb : gb < wr.heap.size) : w2.rangeAt ga 0 (cellsB A) ∧ w2.rangeAt gb 0 (cellsB B) ∧ w2.cell? a = some v ∧ Keeps Nob wr w2 := sbit_keep h.1 h.2.1 h.2.2.1 h.2.2.2 k hga hgb
set_option maxHeartbeats 4000000 in
set_option maxRecDepth 100000 in
theorem law6c {w0 : World} {ao : Option Addr} {l co ga gb na nb lo : Nat} {A B : Nat → Nat} {O : Nat → Bool} {x0 x1 x2 x3 x5 x6 x7 x8 x9 x10 x12 x14 x16 x18 x19 x21 x22 x23 x24 x25 x26 x27 x28 x29 x30 x31 x32 x33 x34 x35 x36 x37 x38 x39 x40 x41 x42 x43 x44 x45 x46 x47 x48 x49 x50 x51 x52 x53 x54 x55 x56 x57 x58 x59 x60 x61 x62 x63 x64 x65 x66 x67 x68 x69 x70 x71 x72 x73 x74 x75 x76 x77 x78 x79 x80 x81 x82 x83 x84 x85 x86 x87 x88 x89 x90 x91 x92 x93 x94 x95 x96 x97 x98 x99 x100 x101 x102 x103 x104 x105 x106 x107 x108 x109 x110 x111 x112 x113 x114 x115 x116 x117 x118 x119 x120 x121 x122 x123 x124 x125 x126 x127 x128 x129 x130 x131 x132 x133 x134 x135 x136 x137 x138 x139 x140 x141 x142 x143 x144 x145 x146 x147 x148 x149 x150 x151 x152 x153 x154 x155 x156 x157 x158 x159 x160 x161 x162 x163 x164 x165 x166 x167 x168 x169 x170 x171 x172 x173 x174 x175 x176 x177 x178 x179 x180 x181 x182 x183 x184 x185 x186 : Value} {w : World}
    (hKw : Keeps Nob w0 w) (hO : SlF Value.bool w 0 lo ao l O) (hlo : lo ≤ w.heap.size) (hl : 1000 ≤ l) (hl2 : l ≤ 1048576)
    (hA : w.rangeAt ga 0 (cellsB A)) (hB : w.rangeAt gb 0 (cellsB B)) (hga : ga < w.heap.size) (hgb : gb < w.heap.size) (hna : na < 1000) (hnb : nb < 1000)
    (bA : Hid (∀ i, A i < 18446744073709551616)) (bB : Hid (∀ i, B i < 18446744073709551616))
    (tA : Hid (∀ j, j < 1000 → O (l - 1 - j) = bit A ((na + 1999 - j) % 1000))) (tB : Hid (∀ j, j < 1000 → O (l - 1 - j) = bit B ((nb + 1999 - j) % 1000))) :
    Code.wp Try.prog (tailF Try.f6 32) (bodyPost Try.prog Try.f6 fun e w' => e = .returned (.bool true) ∧ Keeps Nob w0 w') ⟨#[x0, x1, x2, x3, .slice ao l co, x5, x6, x7, x8, x9, x10, .pointer (some ⟨ga, 0, none⟩), x12, .int .i64 (na : Nat), x14, .pointer (some ⟨gb, 0, none⟩), x16, .int .i64 (nb : Nat), x18, x19, .int .i64 (l : Nat), x21, x22, x23, x24, x25, x26, x27, x28, x29, x30, x31, x32, x33, x34, x35, x36, x37, x38, x39, x40, x41, x42, x43, x44, x45, x46, x47, x48, x49, x50, x51, x52, x53, x54, x55, x56, x57, x58, x59, x60, x61, x62, x63, x64, x65, x66, x67, x68, x69, x70, x71, x72, x73, x74, x75, x76, x77, x78, x79, x80, x81, x82, x83, x84, x85, x86, x87, x88, x89, x90, x91, x92, x93, x94, x95, x96, x97, x98, x99, x100, x101, x102, x103, x104, x105, x106, x107, x108, x109, x110, x111, x112, x113, x114, x115, x116, x117, x118, x119, x120, x121, x122, x123, x124, x125, x126, x127, x128, x129, x130, x131, x132, x133, x134, x135, x136, x137, x138, x139, x140, x141, x142, x143, x144, x145, x146, x147, x148, x149, x150, x151, x152, x153, x154, x155, x156, x157, x158, x159, x160, x161, x162, x163, x164, x165, x166, x167, x168, x169, x170, x171, x172, x173, x174, x175, x176, x177, x178, x179, x180, x181, x182, x183, x184, x185, x186], []⟩ w := by
  rw [tail6_32]
  go_wp2
  conv => arg 2; whnf
  go_wp2
  go_loopw [23] (fun v wr => ∃ j : Nat, j ≤ 1000 ∧ v = .int .i64 j ∧ Keeps Nob w wr) (fun v _ => 1000 - (intOf v).toNat)
  case atStart => exact ⟨0, Nat.zero_le _, rfl, Keeps.refl _ _⟩
  case round =>
    obtain ⟨j, hj, rfl, hK⟩ := hrel
    by_cases hlt : j < 1000
    · obtain ⟨bo, oo, rfl, -, hbo, hOc⟩ := hO.keep hK hlo (fun _ _ _ h => h) (by omega)
      have hx := hOc (l - 1 - j) (by omega)
      obtain ⟨x, hxe⟩ : ∃ x, O (l - 1 - j) = x := ⟨_, rfl⟩
      rw [hxe] at hx
      have hxa : Hid (x = bit A ((na + 1999 - j) % 1000)) := hxe.symm.trans (tA.out j hlt)
      have hxb : Hid (x = bit B ((nb + 1999 - j) % 1000)) := hxe.symm.trans (tB.out j hlt)
      have hi : (l : Int) - 1 - (j : Int) = ((l - 1 - j : Nat) : Int) := by omega
      have hs := hK.size
      have HI : Hid ((l : Int) - 1 - (j : Int) = ((l - 1 - j : Nat) : Int)) := hi
      clear hxe hi hOc
      have kA := keep_range hK hA hga
      have kB := keep_range hK hB hgb
      go_wp2
      have cA : ∀ w', Calls Try.prog 15 #[.agg (cellsB A).toArray, .int .i64 (((na : Int) - 1 - (j : Int) + 2000) % 1000)] w' fun e w'' => e = .returned (.bool x) ∧ Keeps Nob w' w'' := fun w' => by
        rw [hxa.out]
        exact zzhBit_c _ (by omega) (by omega) bA.out
      have cB : ∀ w', Calls Try.prog 15 #[.agg (cellsB B).toArray, .int .i64 (((nb : Int) - 1 - (j : Int) + 2000) % 1000)] w' fun e w'' => e = .returned (.bool x) ∧ Keeps Nob w' w'' := fun w' => by
        rw [hxb.out]
        exact zzhBit_c _ (by omega) (by omega) bB.out
      cases x
      · have hu := Try.underlying30
        have hi1 := info30 A
        have hi2 := info30 B
        have hi0 : (0 : Int) ≤ (l : Int) - 1 - (j : Int) := by omega
        have hi3 : (l : Int) - 1 - (j : Int) < (l : Int) := by omega
        have hw1 : IntKind.i64.wrap ((l : Int) - 1) = (l : Int) - 1 := by rw [IntKind.wrap_i64]; omega
        have hw2 : IntKind.i64.wrap ((l : Int) - 1 - (j : Int)) = (l : Int) - 1 - (j : Int) := by rw [IntKind.wrap_i64]; omega
        have hi4 : (j : Int) ≤ (l : Int) - 1 := by omega
        have hi5 : (j : Int) < (l : Int) := by omega
        have hi6 : ((j : Int) + 1) ≤ (l : Int) := by omega
        have hS : wr.rangeAt ga 0 (cellsB A) ∧ wr.rangeAt gb 0 (cellsB B) ∧ wr.cell? ⟨bo, oo + (l - 1 - j), none⟩ = some (.bool false) ∧ Keeps Nob wr wr := ⟨kA, kB, hx, Keeps.refl _ _⟩
        have hga2 : ga < wr.heap.size := by omega
        have hgb2 : gb < wr.heap.size := by omega
        clear kA kB hx
        refine wp_region_held_drew (S := fun w' => w'.rangeAt ga 0 (cellsB A) ∧ w'.rangeAt gb 0 (cellsB B) ∧ w'.cell? ⟨bo, oo + (l - 1 - j), none⟩ = some (.bool false) ∧ Keeps Nob wr w') (by kernel_rfl) ?_ (fun hHeld => ?_)
        · exact (sbit_drew hS)
        refine wpAnyH_take (i := 0) (oi := _) (v := .agg (cellsB A).toArray) rfl (by kernel_rfl) (by kernel_rfl) (by kernel_rfl) (fun _ _ _ h => h) (yieldsIf_load_mid (by rfl) 30 (.tmp 11) rfl ga 0 rfl (cellsB A) _ (fun w h => h.1) Try.underlying30 rfl (info30 A)) hHeld ?_
        conv => arg 8; whnf
        (try simp only [Act.put, List.setIfInBounds_toArray, List.set_cons_zero, List.set_cons_succ])
        refine wpAnyH_take (i := 1) (oi := _) (v := ?_) rfl (by kernel_rfl) (by kernel_rfl) (by kernel_rfl) (fun _ _ _ h => h) (Or.inl ⟨by rfl, ?_⟩) hHeld ?_
        rotate_left 1
        · intro w hSw; (try dsimp only at hSw); go_simp; (try with_reducible rfl)
        conv => arg 8; whnf
        (try simp only [Act.put, List.setIfInBounds_toArray, List.set_cons_zero, List.set_cons_succ])
        refine wpAnyH_take (i := 3) (oi := _) (v := ?_) rfl (by kernel_rfl) (by kernel_rfl) (by kernel_rfl) (fun _ _ _ h => h) (Or.inl ⟨by rfl, ?_⟩) hHeld ?_
        rotate_left 1
        · intro w hSw; (try dsimp only at hSw); go_simp; (try with_reducible rfl)
        conv => arg 8; whnf
        (try simp only [Act.put, List.setIfInBounds_toArray, List.set_cons_zero, List.set_cons_succ])
        refine wpAnyH_take (i := 4) (oi := _) (v := ?_) rfl (by kernel_rfl) (by kernel_rfl) (by kernel_rfl) (fun _ _ _ h => h) (Or.inl ⟨by rfl, ?_⟩) hHeld ?_
        rotate_left 1
        · intro w hSw; (try dsimp only at hSw); go_simp; (try with_reducible rfl)
        conv => arg 8; whnf
        (try simp only [Act.put, List.setIfInBounds_toArray, List.set_cons_zero, List.set_cons_succ])
        refine wpAnyH_take (i := 5) (oi := _) (v := ?_) rfl (by kernel_rfl) (by kernel_rfl) (by kernel_rfl) (fun _ _ _ h => h) (Or.inl ⟨by rfl, ?_⟩) hHeld ?_
        rotate_left 1
        · intro w hSw; (try dsimp only at hSw); go_simp; (try with_reducible rfl)
        conv => arg 8; whnf
        (try simp only [Act.put, List.setIfInBounds_toArray, List.set_cons_zero, List.set_cons_succ])
        refine wpAnyH_take (i := 6) (oi := _) (v := ?_) rfl (by kernel_rfl) (by kernel_rfl) (by kernel_rfl) (fun _ _ _ h => h) (Or.inl ⟨by rfl, ?_⟩) hHeld ?_
        rotate_left 1
        · intro w hSw; (try dsimp only at hSw); go_simp; (try with_reducible rfl)
        conv => arg 8; whnf
        (try simp only [Act.put, List.setIfInBounds_toArray, List.set_cons_zero, List.set_cons_succ])
        refine wpAnyH_take (i := 7) (oi := _) (v := ?_) rfl (by kernel_rfl) (by kernel_rfl) (by kernel_rfl) (fun _ _ _ h => h) (Or.inl ⟨by rfl, ?_⟩) hHeld ?_
        rotate_left 1
        · intro w hSw; (try dsimp only at hSw); go_simp; (try with_reducible rfl)
        conv => arg 8; whnf
        (try simp only [Act.put, List.setIfInBounds_toArray, List.set_cons_zero, List.set_cons_succ])
        refine wpAnyH_take (i := 8) (oi := _) (v := ?_) rfl (by kernel_rfl) (by kernel_rfl) (by kernel_rfl) (fun _ _ _ h => h) (Or.inl ⟨by rfl, ?_⟩) hHeld ?_
        rotate_left 1
        · intro w hSw; (try dsimp only at hSw); go_simp; (try with_reducible rfl)
        conv => arg 8; whnf
        (try simp only [Act.put, List.setIfInBounds_toArray, List.set_cons_zero, List.set_cons_succ])
        refine wpAnyH_take (i := 9) (oi := _) (v := ?_) rfl (by kernel_rfl) (by kernel_rfl) (by kernel_rfl) (fun _ _ _ h => h) (Or.inl ⟨by rfl, ?_⟩) hHeld ?_
        rotate_left 1
        · intro w hSw; (try dsimp only at hSw); go_simp; (try with_reducible rfl)
        conv => arg 8; whnf
        (try simp only [Act.put, List.setIfInBounds_toArray, List.set_cons_zero, List.set_cons_succ])
        refine wpAnyH_ready (rs := [2]) (by kernel_rfl) (by simp) ?_
        refine AllReadyH.cons (o := _) rfl (fun K hK => ?_) ?_
        rotate_left 1
        · exact AllReadyH.nil
        go_simp
        refine (cA _).mono ?_
        rintro e w' ⟨rfl, hK2⟩
        (try dsimp only)
        refine hK.out _ _ (sbit_keepw hHeld hK2 hga2 hgb2) (fun hHeld => ?_)
        clear hK K
        conv => arg 8; whnf
        (try simp only [Act.put, List.setIfInBounds_toArray, List.set_cons_zero, List.set_cons_succ])
        refine wpAnyH_take (i := 10) (oi := _) (v := ?_) rfl (by kernel_rfl) (by kernel_rfl) (by kernel_rfl) (fun _ _ _ h => h) (Or.inl ⟨by rfl, ?_⟩) hHeld ?_
        rotate_left 1
        · intro w hSw; (try dsimp only at hSw); go_simp; (try with_reducible rfl)
        conv => arg 8; whnf
        (try simp only [Act.put, List.setIfInBounds_toArray, List.set_cons_zero, List.set_cons_succ])
        refine wpAnyH_take (i := 11) (oi := _) (v := ?_) rfl (by kernel_rfl) (by kernel_rfl) (by kernel_rfl) (fun _ _ _ h => h) (Or.inl ⟨by rfl, ?_⟩) hHeld ?_
        rotate_left 1
        · intro w hSw; (try dsimp only at hSw); go_simp; (try with_reducible rfl)
        conv => arg 8; whnf
        (try simp only [Act.put, List.setIfInBounds_toArray, List.set_cons_zero, List.set_cons_succ])
        refine wpAnyH_take (i := 12) (oi := _) (v := .agg (cellsB B).toArray) rfl (by kernel_rfl) (by kernel_rfl) (by kernel_rfl) (fun _ _ _ h => h) (yieldsIf_load_mid (by rfl) 30 (.tmp 15) rfl gb 0 rfl (cellsB B) _ (fun w h => h.2.1) Try.underlying30 rfl (info30 B)) hHeld ?_
        conv => arg 8; whnf
        (try simp only [Act.put, List.setIfInBounds_toArray, List.set_cons_zero, List.set_cons_succ])
        refine wpAnyH_take (i := 13) (oi := _) (v := ?_) rfl (by kernel_rfl) (by kernel_rfl) (by kernel_rfl) (fun _ _ _ h => h) (Or.inl ⟨by rfl, ?_⟩) hHeld ?_
        rotate_left 1
        · intro w hSw; (try dsimp only at hSw); go_simp; (try with_reducible rfl)
        conv => arg 8; whnf
        (try simp only [Act.put, List.setIfInBounds_toArray, List.set_cons_zero, List.set_cons_succ])
        refine wpAnyH_take (i := 15) (oi := _) (v := ?_) rfl (by kernel_rfl) (by kernel_rfl) (by kernel_rfl) (fun _ _ _ h => h) (Or.inl ⟨by rfl, ?_⟩) hHeld ?_
        rotate_left 1
        · intro w hSw; (try dsimp only at hSw); go_simp; (try with_reducible rfl)
        conv => arg 8; whnf
        (try simp only [Act.put, List.setIfInBounds_toArray, List.set_cons_zero, List.set_cons_succ])
        refine wpAnyH_take (i := 16) (oi := _) (v := ?_) rfl (by kernel_rfl) (by kernel_rfl) (by kernel_rfl) (fun _ _ _ h => h) (Or.inl ⟨by rfl, ?_⟩) hHeld ?_
        rotate_left 1
        · intro w hSw; (try dsimp only at hSw); go_simp; (try with_reducible rfl)
        conv => arg 8; whnf
        (try simp only [Act.put, List.setIfInBounds_toArray, List.set_cons_zero, List.set_cons_succ])
        refine wpAnyH_take (i := 17) (oi := _) (v := ?_) rfl (by kernel_rfl) (by kernel_rfl) (by kernel_rfl) (fun _ _ _ h => h) (Or.inl ⟨by rfl, ?_⟩) hHeld ?_
        rotate_left 1
        · intro w hSw; (try dsimp only at hSw); go_simp; (try with_reducible rfl)
        conv => arg 8; whnf
        (try simp only [Act.put, List.setIfInBounds_toArray, List.set_cons_zero, List.set_cons_succ])
        refine wpAnyH_take (i := 18) (oi := _) (v := ?_) rfl (by kernel_rfl) (by kernel_rfl) (by kernel_rfl) (fun _ _ _ h => h) (Or.inl ⟨by rfl, ?_⟩) hHeld ?_
        rotate_left 1
        · intro w hSw; (try dsimp only at hSw); go_simp; (try with_reducible rfl)
        conv => arg 8; whnf
        (try simp only [Act.put, List.setIfInBounds_toArray, List.set_cons_zero, List.set_cons_succ])
        refine wpAnyH_take (i := 19) (oi := _) (v := ?_) rfl (by kernel_rfl) (by kernel_rfl) (by kernel_rfl) (fun _ _ _ h => h) (Or.inl ⟨by rfl, ?_⟩) hHeld ?_
        rotate_left 1
        · intro w hSw; (try dsimp only at hSw); go_simp; (try with_reducible rfl)
        conv => arg 8; whnf
        (try simp only [Act.put, List.setIfInBounds_toArray, List.set_cons_zero, List.set_cons_succ])
        refine wpAnyH_take (i := 20) (oi := _) (v := ?_) rfl (by kernel_rfl) (by kernel_rfl) (by kernel_rfl) (fun _ _ _ h => h) (Or.inl ⟨by rfl, ?_⟩) hHeld ?_
        rotate_left 1
        · intro w hSw; (try dsimp only at hSw); go_simp; (try with_reducible rfl)
        conv => arg 8; whnf
        (try simp only [Act.put, List.setIfInBounds_toArray, List.set_cons_zero, List.set_cons_succ])
        refine wpAnyH_take (i := 21) (oi := _) (v := ?_) rfl (by kernel_rfl) (by kernel_rfl) (by kernel_rfl) (fun _ _ _ h => h) (Or.inl ⟨by rfl, ?_⟩) hHeld ?_
        rotate_left 1
        · intro w hSw; (try dsimp only at hSw); go_simp; (try with_reducible rfl)
        conv => arg 8; whnf
        (try simp only [Act.put, List.setIfInBounds_toArray, List.set_cons_zero, List.set_cons_succ])
        refine wpAnyH_ready (rs := [14]) (by kernel_rfl) (by simp) ?_
        refine AllReadyH.cons (o := _) rfl (fun K hK => ?_) ?_
        rotate_left 1
        · exact AllReadyH.nil
        go_simp
        refine (cB _).mono ?_
        rintro e w' ⟨rfl, hK2⟩
        (try dsimp only)
        refine hK.out _ _ (sbit_keepw hHeld hK2 hga2 hgb2) (fun hHeld => ?_)
        clear hK K
        conv => arg 8; whnf
        (try simp only [Act.put, List.setIfInBounds_toArray, List.set_cons_zero, List.set_cons_succ])
        refine wpAnyH_take (i := 22) (oi := _) (v := ?_) rfl (by kernel_rfl) (by kernel_rfl) (by kernel_rfl) (fun _ _ _ h => h) (Or.inl ⟨by rfl, ?_⟩) hHeld ?_
        rotate_left 1
        · intro w hSw; (try dsimp only at hSw); go_simp; (try with_reducible rfl)
        conv => arg 8; whnf
        (try simp only [Act.put, List.setIfInBounds_toArray, List.set_cons_zero, List.set_cons_succ])
        refine wpAnyH_take (i := 23) (oi := _) (v := ?_) rfl (by kernel_rfl) (by kernel_rfl) (by kernel_rfl) (fun _ _ _ h => h) (Or.inl ⟨by rfl, ?_⟩) hHeld ?_
        rotate_left 1
        · intro w hSw; (try dsimp only at hSw); go_simp; (try with_reducible rfl)
        conv => arg 8; whnf
        (try simp only [Act.put, List.setIfInBounds_toArray, List.set_cons_zero, List.set_cons_succ])
        refine wpAnyH_done (by kernel_rfl) ?_ _
        obtain ⟨-, -, -, hK4⟩ := hHeld
        have hK5 := hK.trans hK4
        clear hS hK4 hK
        go_wp2
        refine ⟨?rel, ?measure⟩
        case rel => exact ⟨j + 1, by omega, by go_num, hK5⟩
        case measure => simp [intOf]; omega
      · have hu := Try.underlying30
        have hi1 := info30 A
        have hi2 := info30 B
        have hi0 : (0 : Int) ≤ (l : Int) - 1 - (j : Int) := by omega
        have hi3 : (l : Int) - 1 - (j : Int) < (l : Int) := by omega
        have hw1 : IntKind.i64.wrap ((l : Int) - 1) = (l : Int) - 1 := by rw [IntKind.wrap_i64]; omega
        have hw2 : IntKind.i64.wrap ((l : Int) - 1 - (j : Int)) = (l : Int) - 1 - (j : Int) := by rw [IntKind.wrap_i64]; omega
        have hi4 : (j : Int) ≤ (l : Int) - 1 := by omega
        have hi5 : (j : Int) < (l : Int) := by omega
        have hi6 : ((j : Int) + 1) ≤ (l : Int) := by omega
        have hS : wr.rangeAt ga 0 (cellsB A) ∧ wr.rangeAt gb 0 (cellsB B) ∧ wr.cell? ⟨bo, oo + (l - 1 - j), none⟩ = some (.bool true) ∧ Keeps Nob wr wr := ⟨kA, kB, hx, Keeps.refl _ _⟩
        have hga2 : ga < wr.heap.size := by omega
        have hgb2 : gb < wr.heap.size := by omega
        clear kA kB hx
        refine wp_region_held_drew (S := fun w' => w'.rangeAt ga 0 (cellsB A) ∧ w'.rangeAt gb 0 (cellsB B) ∧ w'.cell? ⟨bo, oo + (l - 1 - j), none⟩ = some (.bool true) ∧ Keeps Nob wr w') (by kernel_rfl) ?_ (fun hHeld => ?_)
        · exact (sbit_drew hS)
        refine wpAnyH_take (i := 0) (oi := _) (v := .agg (cellsB A).toArray) rfl (by kernel_rfl) (by kernel_rfl) (by kernel_rfl) (fun _ _ _ h => h) (yieldsIf_load_mid (by rfl) 30 (.tmp 11) rfl ga 0 rfl (cellsB A) _ (fun w h => h.1) Try.underlying30 rfl (info30 A)) hHeld ?_
        conv => arg 8; whnf
        (try simp only [Act.put, List.setIfInBounds_toArray, List.set_cons_zero, List.set_cons_succ])
        refine wpAnyH_take (i := 1) (oi := _) (v := ?_) rfl (by kernel_rfl) (by kernel_rfl) (by kernel_rfl) (fun _ _ _ h => h) (Or.inl ⟨by rfl, ?_⟩) hHeld ?_
        rotate_left 1
        · intro w hSw; (try dsimp only at hSw); go_simp; (try with_reducible rfl)
        conv => arg 8; whnf
        (try simp only [Act.put, List.setIfInBounds_toArray, List.set_cons_zero, List.set_cons_succ])
        refine wpAnyH_take (i := 3) (oi := _) (v := ?_) rfl (by kernel_rfl) (by kernel_rfl) (by kernel_rfl) (fun _ _ _ h => h) (Or.inl ⟨by rfl, ?_⟩) hHeld ?_
        rotate_left 1
        · intro w hSw; (try dsimp only at hSw); go_simp; (try with_reducible rfl)
        conv => arg 8; whnf
        (try simp only [Act.put, List.setIfInBounds_toArray, List.set_cons_zero, List.set_cons_succ])
        refine wpAnyH_take (i := 4) (oi := _) (v := ?_) rfl (by kernel_rfl) (by kernel_rfl) (by kernel_rfl) (fun _ _ _ h => h) (Or.inl ⟨by rfl, ?_⟩) hHeld ?_
        rotate_left 1
        · intro w hSw; (try dsimp only at hSw); go_simp; (try with_reducible rfl)
        conv => arg 8; whnf
        (try simp only [Act.put, List.setIfInBounds_toArray, List.set_cons_zero, List.set_cons_succ])
        refine wpAnyH_take (i := 5) (oi := _) (v := ?_) rfl (by kernel_rfl) (by kernel_rfl) (by kernel_rfl) (fun _ _ _ h => h) (Or.inl ⟨by rfl, ?_⟩) hHeld ?_
        rotate_left 1
        · intro w hSw; (try dsimp only at hSw); go_simp; (try with_reducible rfl)
        conv => arg 8; whnf
        (try simp only [Act.put, List.setIfInBounds_toArray, List.set_cons_zero, List.set_cons_succ])
        refine wpAnyH_take (i := 6) (oi := _) (v := ?_) rfl (by kernel_rfl) (by kernel_rfl) (by kernel_rfl) (fun _ _ _ h => h) (Or.inl ⟨by rfl, ?_⟩) hHeld ?_
        rotate_left 1
        · intro w hSw; (try dsimp only at hSw); go_simp; (try with_reducible rfl)
        conv => arg 8; whnf
        (try simp only [Act.put, List.setIfInBounds_toArray, List.set_cons_zero, List.set_cons_succ])
        refine wpAnyH_take (i := 7) (oi := _) (v := ?_) rfl (by kernel_rfl) (by kernel_rfl) (by kernel_rfl) (fun _ _ _ h => h) (Or.inl ⟨by rfl, ?_⟩) hHeld ?_
        rotate_left 1
        · intro w hSw; (try dsimp only at hSw); go_simp; (try with_reducible rfl)
        conv => arg 8; whnf
        (try simp only [Act.put, List.setIfInBounds_toArray, List.set_cons_zero, List.set_cons_succ])
        refine wpAnyH_take (i := 8) (oi := _) (v := ?_) rfl (by kernel_rfl) (by kernel_rfl) (by kernel_rfl) (fun _ _ _ h => h) (Or.inl ⟨by rfl, ?_⟩) hHeld ?_
        rotate_left 1
        · intro w hSw; (try dsimp only at hSw); go_simp; (try with_reducible rfl)
        conv => arg 8; whnf
        (try simp only [Act.put, List.setIfInBounds_toArray, List.set_cons_zero, List.set_cons_succ])
        refine wpAnyH_take (i := 9) (oi := _) (v := ?_) rfl (by kernel_rfl) (by kernel_rfl) (by kernel_rfl) (fun _ _ _ h => h) (Or.inl ⟨by rfl, ?_⟩) hHeld ?_
        rotate_left 1
        · intro w hSw; (try dsimp only at hSw); go_simp; (try with_reducible rfl)
        conv => arg 8; whnf
        (try simp only [Act.put, List.setIfInBounds_toArray, List.set_cons_zero, List.set_cons_succ])
        refine wpAnyH_ready (rs := [2]) (by kernel_rfl) (by simp) ?_
        refine AllReadyH.cons (o := _) rfl (fun K hK => ?_) ?_
        rotate_left 1
        · exact AllReadyH.nil
        go_simp
        refine (cA _).mono ?_
        rintro e w' ⟨rfl, hK2⟩
        (try dsimp only)
        refine hK.out _ _ (sbit_keepw hHeld hK2 hga2 hgb2) (fun hHeld => ?_)
        clear hK K
        conv => arg 8; whnf
        (try simp only [Act.put, List.setIfInBounds_toArray, List.set_cons_zero, List.set_cons_succ])
        refine wpAnyH_take (i := 10) (oi := _) (v := ?_) rfl (by kernel_rfl) (by kernel_rfl) (by kernel_rfl) (fun _ _ _ h => h) (Or.inl ⟨by rfl, ?_⟩) hHeld ?_
        rotate_left 1
        · intro w hSw; (try dsimp only at hSw); go_simp; (try with_reducible rfl)
        conv => arg 8; whnf
        (try simp only [Act.put, List.setIfInBounds_toArray, List.set_cons_zero, List.set_cons_succ])
        refine wpAnyH_take (i := 11) (oi := _) (v := ?_) rfl (by kernel_rfl) (by kernel_rfl) (by kernel_rfl) (fun _ _ _ h => h) (Or.inl ⟨by rfl, ?_⟩) hHeld ?_
        rotate_left 1
        · intro w hSw; (try dsimp only at hSw); go_simp; (try with_reducible rfl)
        conv => arg 8; whnf
        (try simp only [Act.put, List.setIfInBounds_toArray, List.set_cons_zero, List.set_cons_succ])
        refine wpAnyH_take (i := 12) (oi := _) (v := .agg (cellsB B).toArray) rfl (by kernel_rfl) (by kernel_rfl) (by kernel_rfl) (fun _ _ _ h => h) (yieldsIf_load_mid (by rfl) 30 (.tmp 15) rfl gb 0 rfl (cellsB B) _ (fun w h => h.2.1) Try.underlying30 rfl (info30 B)) hHeld ?_
        conv => arg 8; whnf
        (try simp only [Act.put, List.setIfInBounds_toArray, List.set_cons_zero, List.set_cons_succ])
        refine wpAnyH_take (i := 13) (oi := _) (v := ?_) rfl (by kernel_rfl) (by kernel_rfl) (by kernel_rfl) (fun _ _ _ h => h) (Or.inl ⟨by rfl, ?_⟩) hHeld ?_
        rotate_left 1
        · intro w hSw; (try dsimp only at hSw); go_simp; (try with_reducible rfl)
        conv => arg 8; whnf
        (try simp only [Act.put, List.setIfInBounds_toArray, List.set_cons_zero, List.set_cons_succ])
        refine wpAnyH_take (i := 15) (oi := _) (v := ?_) rfl (by kernel_rfl) (by kernel_rfl) (by kernel_rfl) (fun _ _ _ h => h) (Or.inl ⟨by rfl, ?_⟩) hHeld ?_
        rotate_left 1
        · intro w hSw; (try dsimp only at hSw); go_simp; (try with_reducible rfl)
        conv => arg 8; whnf
        (try simp only [Act.put, List.setIfInBounds_toArray, List.set_cons_zero, List.set_cons_succ])
        refine wpAnyH_take (i := 16) (oi := _) (v := ?_) rfl (by kernel_rfl) (by kernel_rfl) (by kernel_rfl) (fun _ _ _ h => h) (Or.inl ⟨by rfl, ?_⟩) hHeld ?_
        rotate_left 1
        · intro w hSw; (try dsimp only at hSw); go_simp; (try with_reducible rfl)
        conv => arg 8; whnf
        (try simp only [Act.put, List.setIfInBounds_toArray, List.set_cons_zero, List.set_cons_succ])
        refine wpAnyH_take (i := 17) (oi := _) (v := ?_) rfl (by kernel_rfl) (by kernel_rfl) (by kernel_rfl) (fun _ _ _ h => h) (Or.inl ⟨by rfl, ?_⟩) hHeld ?_
        rotate_left 1
        · intro w hSw; (try dsimp only at hSw); go_simp; (try with_reducible rfl)
        conv => arg 8; whnf
        (try simp only [Act.put, List.setIfInBounds_toArray, List.set_cons_zero, List.set_cons_succ])
        refine wpAnyH_take (i := 18) (oi := _) (v := ?_) rfl (by kernel_rfl) (by kernel_rfl) (by kernel_rfl) (fun _ _ _ h => h) (Or.inl ⟨by rfl, ?_⟩) hHeld ?_
        rotate_left 1
        · intro w hSw; (try dsimp only at hSw); go_simp; (try with_reducible rfl)
        conv => arg 8; whnf
        (try simp only [Act.put, List.setIfInBounds_toArray, List.set_cons_zero, List.set_cons_succ])
        refine wpAnyH_take (i := 19) (oi := _) (v := ?_) rfl (by kernel_rfl) (by kernel_rfl) (by kernel_rfl) (fun _ _ _ h => h) (Or.inl ⟨by rfl, ?_⟩) hHeld ?_
        rotate_left 1
        · intro w hSw; (try dsimp only at hSw); go_simp; (try with_reducible rfl)
        conv => arg 8; whnf
        (try simp only [Act.put, List.setIfInBounds_toArray, List.set_cons_zero, List.set_cons_succ])
        refine wpAnyH_take (i := 20) (oi := _) (v := ?_) rfl (by kernel_rfl) (by kernel_rfl) (by kernel_rfl) (fun _ _ _ h => h) (Or.inl ⟨by rfl, ?_⟩) hHeld ?_
        rotate_left 1
        · intro w hSw; (try dsimp only at hSw); go_simp; (try with_reducible rfl)
        conv => arg 8; whnf
        (try simp only [Act.put, List.setIfInBounds_toArray, List.set_cons_zero, List.set_cons_succ])
        refine wpAnyH_take (i := 21) (oi := _) (v := ?_) rfl (by kernel_rfl) (by kernel_rfl) (by kernel_rfl) (fun _ _ _ h => h) (Or.inl ⟨by rfl, ?_⟩) hHeld ?_
        rotate_left 1
        · intro w hSw; (try dsimp only at hSw); go_simp; (try with_reducible rfl)
        conv => arg 8; whnf
        (try simp only [Act.put, List.setIfInBounds_toArray, List.set_cons_zero, List.set_cons_succ])
        refine wpAnyH_ready (rs := [14]) (by kernel_rfl) (by simp) ?_
        refine AllReadyH.cons (o := _) rfl (fun K hK => ?_) ?_
        rotate_left 1
        · exact AllReadyH.nil
        go_simp
        refine (cB _).mono ?_
        rintro e w' ⟨rfl, hK2⟩
        (try dsimp only)
        refine hK.out _ _ (sbit_keepw hHeld hK2 hga2 hgb2) (fun hHeld => ?_)
        clear hK K
        conv => arg 8; whnf
        (try simp only [Act.put, List.setIfInBounds_toArray, List.set_cons_zero, List.set_cons_succ])
        refine wpAnyH_take (i := 22) (oi := _) (v := ?_) rfl (by kernel_rfl) (by kernel_rfl) (by kernel_rfl) (fun _ _ _ h => h) (Or.inl ⟨by rfl, ?_⟩) hHeld ?_
        rotate_left 1
        · intro w hSw; (try dsimp only at hSw); go_simp; (try with_reducible rfl)
        conv => arg 8; whnf
        (try simp only [Act.put, List.setIfInBounds_toArray, List.set_cons_zero, List.set_cons_succ])
        refine wpAnyH_take (i := 23) (oi := _) (v := ?_) rfl (by kernel_rfl) (by kernel_rfl) (by kernel_rfl) (fun _ _ _ h => h) (Or.inl ⟨by rfl, ?_⟩) hHeld ?_
        rotate_left 1
        · intro w hSw; (try dsimp only at hSw); go_simp; (try with_reducible rfl)
        conv => arg 8; whnf
        (try simp only [Act.put, List.setIfInBounds_toArray, List.set_cons_zero, List.set_cons_succ])
        refine wpAnyH_done (by kernel_rfl) ?_ _
        obtain ⟨-, -, -, hK4⟩ := hHeld
        have hK5 := hK.trans hK4
        clear hS hK4 hK
        go_wp2
        refine ⟨?rel, ?measure⟩
        case rel => exact ⟨j + 1, by omega, by go_num, hK5⟩
        case measure => simp [intOf]; omega
    · have hj2 : j = 1000 := by omega
      subst hj2
      go_wp2
      conv => arg 2; whnf
      go_wp2
      go_ret
      exact ⟨rfl, hKw.trans (hK.mono fun _ _ h => h)⟩

end Go.Proofs.Qxb6617355a
