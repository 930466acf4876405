import Derived.Test.Qxb6617355aTwo
/-! FnTallyAddForgetsAllButTheLatestThousand: the outcomes are added. -/
namespace Go.Proofs.Qxb6617355a
open Go.RowKit
set_option linter.unusedSimpArgs false
theorem drew_keep {w w2 : World} (h : Keeps Nob w.drew w2) : Keeps Nob w w2 := ((Keeps.refl Nob w).drew).trans h
set_option maxHeartbeats 4000000 in
set_option maxRecDepth 100000 in
theorem law6a {w0 : World} {ao : Option Addr} {l co ga gb n2 N0 : Nat} {c0 : Int} {A0 : Nat → Nat} {H0 : List Bool} {O : Nat → Bool} {x0 x1 x3 x5 x6 x7 x8 x9 x10 x16 x17 x18 x19 x20 x21 x22 x23 x24 x25 x26 x27 x28 x29 x30 x31 x32 x33 x34 x35 x36 x37 x38 x39 x40 x41 x42 x43 x44 x45 x46 x47 x48 x49 x50 x51 x52 x53 x54 x55 x56 x57 x58 x59 x60 x61 x62 x63 x64 x65 x66 x67 x68 x69 x70 x71 x72 x73 x74 x75 x76 x77 x78 x79 x80 x81 x82 x83 x84 x85 x86 x87 x88 x89 x90 x91 x92 x93 x94 x95 x96 x97 x98 x99 x100 x101 x102 x103 x104 x105 x106 x107 x108 x109 x110 x111 x112 x113 x114 x115 x116 x117 x118 x119 x120 x121 x122 x123 x124 x125 x126 x127 x128 x129 x130 x131 x132 x133 x134 x135 x136 x137 x138 x139 x140 x141 x142 x143 x144 x145 x146 x147 x148 x149 x150 x151 x152 x153 x154 x155 x156 x157 x158 x159 x160 x161 x162 x163 x164 x165 x166 x167 x168 x169 x170 x171 x172 x173 x174 x175 x176 x177 x178 x179 x180 x181 x182 x183 x184 x185 x186 : Value} {w : World}
    (hM0 : TM w0 w ga gb A0 (fun _ => 0)) (hO : SlF Value.bool w0 0 w0.heap.size ao l O) (hl : 1000 ≤ l) (hl2 : l ≤ 1048576) (hn2 : n2 < 1000) (hT0 : Hid (TOk A0 N0 n2 c0 H0)) :
    Code.wp Try.prog (tailF Try.f6 15) (bodyPost Try.prog Try.f6 fun e w' => e = .returned (.bool true) ∧ Keeps Nob w0 w') ⟨#[x0, x1, .int .i64 (n2 : Nat), x3, .slice ao l co, x5, x6, x7, x8, x9, x10, .pointer (some ⟨ga, 0, none⟩), .int .i64 (N0 : Nat), .int .i64 (n2 : Nat), .int .i64 c0, .pointer (some ⟨gb, 0, none⟩), x16, x17, x18, x19, x20, x21, x22, x23, x24, x25, x26, x27, x28, x29, x30, x31, x32, x33, x34, x35, x36, x37, x38, x39, x40, x41, x42, x43, x44, x45, x46, x47, x48, x49, x50, x51, x52, x53, x54, x55, x56, x57, x58, x59, x60, x61, x62, x63, x64, x65, x66, x67, x68, x69, x70, x71, x72, x73, x74, x75, x76, x77, x78, x79, x80, x81, x82, x83, x84, x85, x86, x87, x88, x89, x90, x91, x92, x93, x94, x95, x96, x97, x98, x99, x100, x101, x102, x103, x104, x105, x106, x107, x108, x109, x110, x111, x112, x113, x114, x115, x116, x117, x118, x119, x120, x121, x122, x123, x124, x125, x126, x127, x128, x129, x130, x131, x132, x133, x134, x135, x136, x137, x138, x139, x140, x141, x142, x143, x144, x145, x146, x147, x148, x149, x150, x151, x152, x153, x154, x155, x156, x157, x158, x159, x160, x161, x162, x163, x164, x165, x166, x167, x168, x169, x170, x171, x172, x173, x174, x175, x176, x177, x178, x179, x180, x181, x182, x183, x184, x185, x186], []⟩ w := by
  rw [tail6_15]
  go_wp2
  conv => arg 2; whnf
  go_wp2
  rw [tail6_16]
  go_wp2
  conv => arg 2; whnf
  go_wp2
  go_loopw [12, 13, 14, 16, 17, 18, 19] (fun v12 v13 v14 v16 v17 v18 v19 wr => ∃ (i NA nA NB nB : Nat) (cA cB : Int) (A B : Nat → Nat), i ≤ l ∧ v19 = .int .i64 i ∧ v12 = .int .i64 NA ∧ v13 = .int .i64 nA ∧ v14 = .int .i64 cA ∧ v16 = .int .i64 NB ∧ v17 = .int .i64 nB ∧ v18 = .int .i64 cB ∧
      TM w0 wr ga gb A B ∧ TOk A NA nA cA (H0 ++ (outs O l).take i) ∧ TOk B NB nB cB ([] ++ (outs O l).take i) ∧ nA = (n2 + i) % 1000 ∧ nB = i % 1000) (fun _ _ _ _ _ _ v19 _ => l - (intOf v19).toNat)
  case atStart =>
    refine ⟨0, N0, n2, 0, 0, c0, 0, A0, fun _ => 0, Nat.zero_le _, rfl, rfl, rfl, rfl, rfl, rfl, rfl, hM0, ?_, ?_, by omega, rfl⟩
    · rw [List.take_zero, List.append_nil]; exact hT0.out
    · rw [List.take_zero, List.append_nil]
      exact TOk.begin (B := fun _ => 0) (N := 0) (next := 0) (by decide) (by decide) (fun _ => rfl) (fun _ => by decide)
  case round =>
    obtain ⟨i, NA, nA, NB, nB, cA, cB, A, B, hi, rfl, rfl, rfl, rfl, rfl, rfl, rfl, hM, hTA, hTB, hnA, hnB⟩ := hrel
    have HnA : Hid (nA = (n2 + i) % 1000) := hnA
    have HnB : Hid (nB = i % 1000) := hnB
    clear hnA hnB
    by_cases hlt : i < l
    · obtain ⟨bo, oo, rfl, -, hbo, hOc⟩ := hO (by omega)
      have hx := (hM.kw.cell (p := ⟨bo, oo + i, none⟩) hbo (fun h => h)).trans (hOc i hlt)
      have hbga : bo ≠ ga := by have := hM.na; omega
      have hbgb : bo ≠ gb := by have := hM.nb; omega
      have htk := outs_take (O := O) hlt
      obtain ⟨x, hxe⟩ : ∃ x, O i = x := ⟨_, rfl⟩
      rw [hxe] at hx htk
      have HT : Hid ((outs O l).take (i + 1) = (outs O l).take i ++ [x]) := htk
      have hi0 : (0 : Int) ≤ (i : Int) := by omega
      have hi1 : (i : Int) < (l : Int) := by omega
      clear hxe htk hOc
      go_wp2
      refine wp_region_held_drew (S := fun w' => w'.cell? ⟨bo, oo + i, none⟩ = some (.bool x)) (by kernel_rfl) ?_ (fun hHeld => ?_)
      · exact hx
      refine wpAnyH_take (i := 1) (oi := _) (v := ?_) rfl (by kernel_rfl) (by kernel_rfl) (by kernel_rfl) (fun _ _ _ h => h) (Or.inl ⟨by rfl, ?_⟩) hHeld ?_
      rotate_left 1
      · intro w hSw; (try dsimp only at hSw); go_simp; (try with_reducible rfl)
      conv => arg 8; whnf
      (try simp only [Act.put, List.setIfInBounds_toArray, List.set_cons_zero, List.set_cons_succ, List.toList_toArray])
      refine wpAnyH_take (i := 2) (oi := _) (v := ?_) rfl (by kernel_rfl) (by kernel_rfl) (by kernel_rfl) (fun _ _ _ h => h) (Or.inl ⟨by rfl, ?_⟩) hHeld ?_
      rotate_left 1
      · intro w hSw; (try dsimp only at hSw); go_simp; (try with_reducible rfl)
      conv => arg 8; whnf
      (try simp only [Act.put, List.setIfInBounds_toArray, List.set_cons_zero, List.set_cons_succ, List.toList_toArray])
      refine wpAnyH_take (i := 3) (oi := _) (v := ?_) rfl (by kernel_rfl) (by kernel_rfl) (by kernel_rfl) (fun _ _ _ h => h) (Or.inl ⟨by rfl, ?_⟩) hHeld ?_
      rotate_left 1
      · intro w hSw; (try dsimp only at hSw); go_simp; (try with_reducible rfl)
      conv => arg 8; whnf
      (try simp only [Act.put, List.setIfInBounds_toArray, List.set_cons_zero, List.set_cons_succ, List.toList_toArray])
      refine wpAnyH_take (i := 4) (oi := _) (v := ?_) rfl (by kernel_rfl) (by kernel_rfl) (by kernel_rfl) (fun _ _ _ h => h) (Or.inl ⟨by rfl, ?_⟩) hHeld ?_
      rotate_left 1
      · intro w hSw; (try dsimp only at hSw); go_simp; (try with_reducible rfl)
      conv => arg 8; whnf
      (try simp only [Act.put, List.setIfInBounds_toArray, List.set_cons_zero, List.set_cons_succ, List.toList_toArray])
      refine wpAnyH_take (i := 5) (oi := _) (v := ?_) rfl (by kernel_rfl) (by kernel_rfl) (by kernel_rfl) (fun _ _ _ h => h) (Or.inl ⟨by rfl, ?_⟩) hHeld ?_
      rotate_left 1
      · intro w hSw; (try dsimp only at hSw); go_simp; (try with_reducible rfl)
      conv => arg 8; whnf
      (try simp only [Act.put, List.setIfInBounds_toArray, List.set_cons_zero, List.set_cons_succ, List.toList_toArray])
      refine wpAnyH_take (i := 6) (oi := _) (v := ?_) rfl (by kernel_rfl) (by kernel_rfl) (by kernel_rfl) (fun _ _ _ h => h) (Or.inl ⟨by rfl, ?_⟩) hHeld ?_
      rotate_left 1
      · intro w hSw; (try dsimp only at hSw); go_simp; (try with_reducible rfl)
      conv => arg 8; whnf
      (try simp only [Act.put, List.setIfInBounds_toArray, List.set_cons_zero, List.set_cons_succ, List.toList_toArray])
      refine wpAnyH_take (i := 7) (oi := _) (v := ?_) rfl (by kernel_rfl) (by kernel_rfl) (by kernel_rfl) (fun _ _ _ h => h) (Or.inl ⟨by rfl, ?_⟩) hHeld ?_
      rotate_left 1
      · intro w hSw; (try dsimp only at hSw); go_simp; (try with_reducible rfl)
      conv => arg 8; whnf
      (try simp only [Act.put, List.setIfInBounds_toArray, List.set_cons_zero, List.set_cons_succ, List.toList_toArray])
      refine wpAnyH_ready (rs := [0]) (by kernel_rfl) (by simp) ?_
      refine AllReadyH.cons (o := _) rfl (fun K hK => ?_) ?_
      rotate_left 1
      · exact AllReadyH.nil
      rw [if_pos (by rfl)]
      refine wp_load_mid 30 (.tmp 11) rfl ga 0 rfl (cellsB A) _ (by simpa using hM.ra) Try.underlying30 rfl (info30 A) ?_
      refine hK.out _ _ hHeld (fun hHeld => ?_)
      clear hK K
      conv => arg 8; whnf
      (try simp only [Act.put, List.setIfInBounds_toArray, List.set_cons_zero, List.set_cons_succ, List.toList_toArray])
      refine wpAnyH_ready (rs := [8]) (by kernel_rfl) (by simp) ?_
      refine AllReadyH.cons (o := _) rfl (fun K hK => ?_) ?_
      rotate_left 1
      · exact AllReadyH.nil
      go_simp
      refine (zzAdd_c hTA.hN hTA.hn hTA.hB (by have := hTA.cnt; omega)).mono ?_
      rintro e w2 ⟨rfl, hK2⟩
      (try dsimp only)
      refine hK.out _ _ (cell_keep hHeld hK2) (fun hHeld => ?_)
      clear hK K
      conv => arg 8; whnf
      (try simp only [Act.put, List.setIfInBounds_toArray, List.set_cons_zero, List.set_cons_succ, List.toList_toArray])
      refine wpAnyH_take (i := 9) (oi := _) (v := ?_) rfl (by kernel_rfl) (by kernel_rfl) (by kernel_rfl) (fun _ _ _ h => h) (Or.inl ⟨by rfl, ?_⟩) hHeld ?_
      rotate_left 1
      · intro w hSw; (try dsimp only at hSw); go_simp; (try with_reducible rfl)
      conv => arg 8; whnf
      (try simp only [Act.put, List.setIfInBounds_toArray, List.set_cons_zero, List.set_cons_succ, List.toList_toArray])
      refine wpAnyH_take (i := 10) (oi := _) (v := ?_) rfl (by kernel_rfl) (by kernel_rfl) (by kernel_rfl) (fun _ _ _ h => h) (Or.inl ⟨by rfl, ?_⟩) hHeld ?_
      rotate_left 1
      · intro w hSw; (try dsimp only at hSw); go_simp; (try with_reducible rfl)
      conv => arg 8; whnf
      (try simp only [Act.put, List.setIfInBounds_toArray, List.set_cons_zero, List.set_cons_succ, List.toList_toArray])
      refine wpAnyH_take (i := 11) (oi := _) (v := ?_) rfl (by kernel_rfl) (by kernel_rfl) (by kernel_rfl) (fun _ _ _ h => h) (Or.inl ⟨by rfl, ?_⟩) hHeld ?_
      rotate_left 1
      · intro w hSw; (try dsimp only at hSw); go_simp; (try with_reducible rfl)
      conv => arg 8; whnf
      (try simp only [Act.put, List.setIfInBounds_toArray, List.set_cons_zero, List.set_cons_succ, List.toList_toArray])
      refine wpAnyH_take (i := 12) (oi := _) (v := ?_) rfl (by kernel_rfl) (by kernel_rfl) (by kernel_rfl) (fun _ _ _ h => h) (Or.inl ⟨by rfl, ?_⟩) hHeld ?_
      rotate_left 1
      · intro w hSw; (try dsimp only at hSw); go_simp; (try with_reducible rfl)
      conv => arg 8; whnf
      (try simp only [Act.put, List.setIfInBounds_toArray, List.set_cons_zero, List.set_cons_succ, List.toList_toArray])
      refine wpAnyH_take (i := 13) (oi := _) (v := ?_) rfl (by kernel_rfl) (by kernel_rfl) (by kernel_rfl) (fun _ _ _ h => h) (Or.inl ⟨by rfl, ?_⟩) hHeld ?_
      rotate_left 1
      · intro w hSw; (try dsimp only at hSw); go_simp; (try with_reducible rfl)
      conv => arg 8; whnf
      (try simp only [Act.put, List.setIfInBounds_toArray, List.set_cons_zero, List.set_cons_succ, List.toList_toArray])
      refine wpAnyH_ready (rs := [14]) (by kernel_rfl) (by simp) ?_
      refine AllReadyH.cons (o := _) rfl (fun K hK => ?_) ?_
      rotate_left 1
      · exact AllReadyH.nil
      rw [if_pos (by rfl)]
      refine wp_store_mid 30 (.tmp 11) (.tmp 86) rfl ga 0 (cellsB (setB A nA x)).toArray rfl rfl (keep_there (drew_keep hK2) hM.ta hM.la) (info30 _) (all_oneCell_toArray (cellsB_one _)) ?_
      refine hK.out _ _ (cell_setCells hHeld hbga _) (fun hHeld => ?_)
      clear hK K
      conv => arg 8; whnf
      (try simp only [Act.put, List.setIfInBounds_toArray, List.set_cons_zero, List.set_cons_succ, List.toList_toArray])
      refine wpAnyH_take (i := 15) (oi := _) (v := ?_) rfl (by kernel_rfl) (by kernel_rfl) (by kernel_rfl) (fun _ _ _ h => h) (Or.inl ⟨by rfl, ?_⟩) hHeld ?_
      rotate_left 1
      · intro w hSw; (try dsimp only at hSw); go_simp; (try with_reducible rfl)
      conv => arg 8; whnf
      (try simp only [Act.put, List.setIfInBounds_toArray, List.set_cons_zero, List.set_cons_succ, List.toList_toArray])
      refine wpAnyH_take (i := 16) (oi := _) (v := ?_) rfl (by kernel_rfl) (by kernel_rfl) (by kernel_rfl) (fun _ _ _ h => h) (Or.inl ⟨by rfl, ?_⟩) hHeld ?_
      rotate_left 1
      · intro w hSw; (try dsimp only at hSw); go_simp; (try with_reducible rfl)
      conv => arg 8; whnf
      (try simp only [Act.put, List.setIfInBounds_toArray, List.set_cons_zero, List.set_cons_succ, List.toList_toArray])
      refine wpAnyH_take (i := 17) (oi := _) (v := ?_) rfl (by kernel_rfl) (by kernel_rfl) (by kernel_rfl) (fun _ _ _ h => h) (Or.inl ⟨by rfl, ?_⟩) hHeld ?_
      rotate_left 1
      · intro w hSw; (try dsimp only at hSw); go_simp; (try with_reducible rfl)
      conv => arg 8; whnf
      (try simp only [Act.put, List.setIfInBounds_toArray, List.set_cons_zero, List.set_cons_succ, List.toList_toArray])
      refine wpAnyH_done (by kernel_rfl) ?_ _
      have hM2 := hM.stepA (drew_keep hK2) (setB A nA x)
      have hT2 := hTA.step x
      clear hM hTA hx hK2
      go_wp2
      have hM := hM2
      have hTA2 := hT2
      clear hM2 hT2
      have hx := hHeld
      clear hHeld
      generalize w2.setCells ga 0 (cellsB (setB A nA x)) = wr at hM hx ⊢
      go_wp2
      refine wp_region_held_drew (S := fun w' => w'.cell? ⟨bo, oo + i, none⟩ = some (.bool x)) (by kernel_rfl) ?_ (fun hHeld => ?_)
      · exact hx
      refine wpAnyH_take (i := 1) (oi := _) (v := ?_) rfl (by kernel_rfl) (by kernel_rfl) (by kernel_rfl) (fun _ _ _ h => h) (Or.inl ⟨by rfl, ?_⟩) hHeld ?_
      rotate_left 1
      · intro w hSw; (try dsimp only at hSw); go_simp; (try with_reducible rfl)
      conv => arg 8; whnf
      (try simp only [Act.put, List.setIfInBounds_toArray, List.set_cons_zero, List.set_cons_succ, List.toList_toArray])
      refine wpAnyH_take (i := 2) (oi := _) (v := ?_) rfl (by kernel_rfl) (by kernel_rfl) (by kernel_rfl) (fun _ _ _ h => h) (Or.inl ⟨by rfl, ?_⟩) hHeld ?_
      rotate_left 1
      · intro w hSw; (try dsimp only at hSw); go_simp; (try with_reducible rfl)
      conv => arg 8; whnf
      (try simp only [Act.put, List.setIfInBounds_toArray, List.set_cons_zero, List.set_cons_succ, List.toList_toArray])
      refine wpAnyH_take (i := 3) (oi := _) (v := ?_) rfl (by kernel_rfl) (by kernel_rfl) (by kernel_rfl) (fun _ _ _ h => h) (Or.inl ⟨by rfl, ?_⟩) hHeld ?_
      rotate_left 1
      · intro w hSw; (try dsimp only at hSw); go_simp; (try with_reducible rfl)
      conv => arg 8; whnf
      (try simp only [Act.put, List.setIfInBounds_toArray, List.set_cons_zero, List.set_cons_succ, List.toList_toArray])
      refine wpAnyH_take (i := 4) (oi := _) (v := ?_) rfl (by kernel_rfl) (by kernel_rfl) (by kernel_rfl) (fun _ _ _ h => h) (Or.inl ⟨by rfl, ?_⟩) hHeld ?_
      rotate_left 1
      · intro w hSw; (try dsimp only at hSw); go_simp; (try with_reducible rfl)
      conv => arg 8; whnf
      (try simp only [Act.put, List.setIfInBounds_toArray, List.set_cons_zero, List.set_cons_succ, List.toList_toArray])
      refine wpAnyH_take (i := 5) (oi := _) (v := ?_) rfl (by kernel_rfl) (by kernel_rfl) (by kernel_rfl) (fun _ _ _ h => h) (Or.inl ⟨by rfl, ?_⟩) hHeld ?_
      rotate_left 1
      · intro w hSw; (try dsimp only at hSw); go_simp; (try with_reducible rfl)
      conv => arg 8; whnf
      (try simp only [Act.put, List.setIfInBounds_toArray, List.set_cons_zero, List.set_cons_succ, List.toList_toArray])
      refine wpAnyH_take (i := 6) (oi := _) (v := ?_) rfl (by kernel_rfl) (by kernel_rfl) (by kernel_rfl) (fun _ _ _ h => h) (Or.inl ⟨by rfl, ?_⟩) hHeld ?_
      rotate_left 1
      · intro w hSw; (try dsimp only at hSw); go_simp; (try with_reducible rfl)
      conv => arg 8; whnf
      (try simp only [Act.put, List.setIfInBounds_toArray, List.set_cons_zero, List.set_cons_succ, List.toList_toArray])
      refine wpAnyH_take (i := 7) (oi := _) (v := ?_) rfl (by kernel_rfl) (by kernel_rfl) (by kernel_rfl) (fun _ _ _ h => h) (Or.inl ⟨by rfl, ?_⟩) hHeld ?_
      rotate_left 1
      · intro w hSw; (try dsimp only at hSw); go_simp; (try with_reducible rfl)
      conv => arg 8; whnf
      (try simp only [Act.put, List.setIfInBounds_toArray, List.set_cons_zero, List.set_cons_succ, List.toList_toArray])
      refine wpAnyH_ready (rs := [0]) (by kernel_rfl) (by simp) ?_
      refine AllReadyH.cons (o := _) rfl (fun K hK => ?_) ?_
      rotate_left 1
      · exact AllReadyH.nil
      rw [if_pos (by rfl)]
      refine wp_load_mid 30 (.tmp 15) rfl gb 0 rfl (cellsB B) _ (by simpa using hM.rb) Try.underlying30 rfl (info30 B) ?_
      refine hK.out _ _ hHeld (fun hHeld => ?_)
      clear hK K
      conv => arg 8; whnf
      (try simp only [Act.put, List.setIfInBounds_toArray, List.set_cons_zero, List.set_cons_succ, List.toList_toArray])
      refine wpAnyH_ready (rs := [8]) (by kernel_rfl) (by simp) ?_
      refine AllReadyH.cons (o := _) rfl (fun K hK => ?_) ?_
      rotate_left 1
      · exact AllReadyH.nil
      go_simp
      refine (zzAdd_c hTB.hN hTB.hn hTB.hB (by have := hTB.cnt; omega)).mono ?_
      rintro e w2 ⟨rfl, hK2⟩
      (try dsimp only)
      refine hK.out _ _ (cell_keep hHeld hK2) (fun hHeld => ?_)
      clear hK K
      conv => arg 8; whnf
      (try simp only [Act.put, List.setIfInBounds_toArray, List.set_cons_zero, List.set_cons_succ, List.toList_toArray])
      refine wpAnyH_take (i := 9) (oi := _) (v := ?_) rfl (by kernel_rfl) (by kernel_rfl) (by kernel_rfl) (fun _ _ _ h => h) (Or.inl ⟨by rfl, ?_⟩) hHeld ?_
      rotate_left 1
      · intro w hSw; (try dsimp only at hSw); go_simp; (try with_reducible rfl)
      conv => arg 8; whnf
      (try simp only [Act.put, List.setIfInBounds_toArray, List.set_cons_zero, List.set_cons_succ, List.toList_toArray])
      refine wpAnyH_take (i := 10) (oi := _) (v := ?_) rfl (by kernel_rfl) (by kernel_rfl) (by kernel_rfl) (fun _ _ _ h => h) (Or.inl ⟨by rfl, ?_⟩) hHeld ?_
      rotate_left 1
      · intro w hSw; (try dsimp only at hSw); go_simp; (try with_reducible rfl)
      conv => arg 8; whnf
      (try simp only [Act.put, List.setIfInBounds_toArray, List.set_cons_zero, List.set_cons_succ, List.toList_toArray])
      refine wpAnyH_take (i := 11) (oi := _) (v := ?_) rfl (by kernel_rfl) (by kernel_rfl) (by kernel_rfl) (fun _ _ _ h => h) (Or.inl ⟨by rfl, ?_⟩) hHeld ?_
      rotate_left 1
      · intro w hSw; (try dsimp only at hSw); go_simp; (try with_reducible rfl)
      conv => arg 8; whnf
      (try simp only [Act.put, List.setIfInBounds_toArray, List.set_cons_zero, List.set_cons_succ, List.toList_toArray])
      refine wpAnyH_take (i := 12) (oi := _) (v := ?_) rfl (by kernel_rfl) (by kernel_rfl) (by kernel_rfl) (fun _ _ _ h => h) (Or.inl ⟨by rfl, ?_⟩) hHeld ?_
      rotate_left 1
      · intro w hSw; (try dsimp only at hSw); go_simp; (try with_reducible rfl)
      conv => arg 8; whnf
      (try simp only [Act.put, List.setIfInBounds_toArray, List.set_cons_zero, List.set_cons_succ, List.toList_toArray])
      refine wpAnyH_take (i := 13) (oi := _) (v := ?_) rfl (by kernel_rfl) (by kernel_rfl) (by kernel_rfl) (fun _ _ _ h => h) (Or.inl ⟨by rfl, ?_⟩) hHeld ?_
      rotate_left 1
      · intro w hSw; (try dsimp only at hSw); go_simp; (try with_reducible rfl)
      conv => arg 8; whnf
      (try simp only [Act.put, List.setIfInBounds_toArray, List.set_cons_zero, List.set_cons_succ, List.toList_toArray])
      refine wpAnyH_ready (rs := [14]) (by kernel_rfl) (by simp) ?_
      refine AllReadyH.cons (o := _) rfl (fun K hK => ?_) ?_
      rotate_left 1
      · exact AllReadyH.nil
      rw [if_pos (by rfl)]
      refine wp_store_mid 30 (.tmp 15) (.tmp 100) rfl gb 0 (cellsB (setB B nB x)).toArray rfl rfl (keep_there (drew_keep hK2) hM.tb hM.lb) (info30 _) (all_oneCell_toArray (cellsB_one _)) ?_
      refine hK.out _ _ (cell_setCells hHeld hbgb _) (fun hHeld => ?_)
      clear hK K
      conv => arg 8; whnf
      (try simp only [Act.put, List.setIfInBounds_toArray, List.set_cons_zero, List.set_cons_succ, List.toList_toArray])
      refine wpAnyH_take (i := 15) (oi := _) (v := ?_) rfl (by kernel_rfl) (by kernel_rfl) (by kernel_rfl) (fun _ _ _ h => h) (Or.inl ⟨by rfl, ?_⟩) hHeld ?_
      rotate_left 1
      · intro w hSw; (try dsimp only at hSw); go_simp; (try with_reducible rfl)
      conv => arg 8; whnf
      (try simp only [Act.put, List.setIfInBounds_toArray, List.set_cons_zero, List.set_cons_succ, List.toList_toArray])
      refine wpAnyH_take (i := 16) (oi := _) (v := ?_) rfl (by kernel_rfl) (by kernel_rfl) (by kernel_rfl) (fun _ _ _ h => h) (Or.inl ⟨by rfl, ?_⟩) hHeld ?_
      rotate_left 1
      · intro w hSw; (try dsimp only at hSw); go_simp; (try with_reducible rfl)
      conv => arg 8; whnf
      (try simp only [Act.put, List.setIfInBounds_toArray, List.set_cons_zero, List.set_cons_succ, List.toList_toArray])
      refine wpAnyH_take (i := 17) (oi := _) (v := ?_) rfl (by kernel_rfl) (by kernel_rfl) (by kernel_rfl) (fun _ _ _ h => h) (Or.inl ⟨by rfl, ?_⟩) hHeld ?_
      rotate_left 1
      · intro w hSw; (try dsimp only at hSw); go_simp; (try with_reducible rfl)
      conv => arg 8; whnf
      (try simp only [Act.put, List.setIfInBounds_toArray, List.set_cons_zero, List.set_cons_succ, List.toList_toArray])
      refine wpAnyH_done (by kernel_rfl) ?_ _
      have hM2 := hM.stepB (drew_keep hK2) (setB B nB x)
      have hT2 := hTB.step x
      clear hM hTB hx hK2
      have hM := hM2
      clear hM2
      clear hHeld
      generalize w2.setCells gb 0 (cellsB (setB B nB x)) = wr2 at hM ⊢
      go_wp2
      refine ⟨?rel, ?measure⟩
      case rel =>
        refine ⟨i + 1, _, _, _, _, _, _, _, _, hlt, by go_num, rfl, rfl, rfl, rfl, rfl, rfl, hM, ?_, ?_, ?_, ?_⟩
        · rw [HT.out, ← List.append_assoc]; exact hTA2
        · rw [HT.out, ← List.append_assoc]; exact hT2
        · have h5 := HnA.out
          show (nA + 1) % 1000 = _
          omega
        · have h5 := HnB.out
          show (nB + 1) % 1000 = _
          omega
      case measure => simp [intOf]; omega
    · obtain rfl : i = l := by omega
      have htl : (outs O i).take i = outs O i := List.take_of_length_le (by rw [outs_len]; exact Nat.le_refl _)
      rw [htl] at hTA hTB
      obtain ⟨rfl, eA, tA⟩ := hTA.ends hl
      obtain ⟨rfl, eB, tB⟩ := hTB.ends hl
      have hcc : cB = cA := eB.trans eA.symm
      subst hcc
      have EA : Hid (_ = _) := eA
      have TA : Hid (∀ j, j < 1000 → O (i - 1 - j) = bit A ((nA + 1999 - j) % 1000)) := tA
      have TB : Hid (∀ j, j < 1000 → O (i - 1 - j) = bit B ((nB + 1999 - j) % 1000)) := tB
      have h1 := hTA.hn
      have h2 := hTB.hn
      have bA : Hid (∀ i, A i < 18446744073709551616) := hTA.hB
      have bB : Hid (∀ i, B i < 18446744073709551616) := hTB.hB
      clear eA eB tA tB hTA hTB htl
      go_wp2
      exact law6b hM.kw (hO.keep hM.kw (Nat.le_refl _) (fun _ _ _ h => h)) hM.kw.size hl hl2 hn2 EA HnA HnB hM.ra hM.rb hM.la hM.lb h1 h2 bA bB TA TB

end Go.Proofs.Qxb6617355a
