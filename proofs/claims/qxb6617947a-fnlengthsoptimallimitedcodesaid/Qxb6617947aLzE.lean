import Derived.Test.Qxb6617947aPmA
import Derived.Test.Qxb6617947aKy
import Derived.Test.Qxb6617947aCl
/-! Lengths: its end. -/
namespace Go.Proofs.Qxb6617947a
open Go.RowKit
set_option linter.unusedVariables false
set_option linter.unusedSimpArgs false

def mxD (g : Nat → Nat) : Nat → Nat
  | 0 => 0
  | i + 1 => max (mxD g i) (g i)
/-- The lengths that Lengths sets, by rank. -/
def lv (w : Nat → Nat) (n K i : Nat) : Nat := if K < mxD (hD w n) n then lenOf (sk w n K) K i else hD w n i
theorem outF_set {O sym : Nat → Nat} {n : Nat} {g : Nat → Nat} (hinj : ∀ i j, i < n → j < n → sym i = sym j → i = j) {j : Nat} (hj : j < n) (h0 : O (sym j) = 0) (x : Nat) :
    outF O sym n (fun i => if i < j + 1 then g i else 0) x = if x = sym j then g j else outF O sym n (fun i => if i < j then g i else 0) x := by
  by_cases hx : x = sym j
  · rw [if_pos hx, hx, outF_at hinj hj, h0, if_pos (Nat.lt_succ_self j), Nat.zero_add]
  · rw [if_neg hx]
    unfold outF
    congr 1
    refine psum_congr fun i hi => ?_
    show (if sym i = x then (if i < j + 1 then g i else 0) else 0) = (if sym i = x then (if i < j then g i else 0) else 0)
    by_cases hs : sym i = x
    · have : i ≠ j := fun e => hx (by rw [← hs, e])
      rw [if_pos hs, if_pos hs]
      by_cases hij : i < j
      · rw [if_pos (by omega), if_pos hij]
      · rw [if_neg (by omega), if_neg hij]
    · rw [if_neg hs, if_neg hs]
set_option maxHeartbeats 4000000 in
set_option maxRecDepth 100000 in
theorem lzE {w0 : World} {kb ob db n L cap : Nat} {KV C sym g DV : Nat → Nat} {x0 x2 x3 x4 x5 x8 x9 x10 x11 x12 x13 x14 x15 x16 x17 x18 x20 x21 x22 x23 x24 x25 x26 x27 x28 x29 x30 x31 x32 x33 x34 x35 x36 x37 x38 x39 x40 x41 x42 x43 x44 x45 x46 x47 x48 x49 x50 x51 x52 x53 x54 x55 x56 x57 x58 x59 x60 x61 x62 x63 x64 x65 x66 x67 x68 x69 x70 x71 x72 x73 x74 x75 x76 x77 x78 x79 x80 x81 x82 x83 x84 x85 x86 x87 x88 x89 x90 x91 x92 x93 x94 x95 x96 x97 x98 x99 x100 x101 x102 x103 x104 x105 x106 x107 x108 x109 x110 x111 x112 x113 x114 x115 x116 x117 x118 x119 x120 x121 x122 x123 x124 x125 x126 x127 x128 x129 x130 x131 x132 x133 x134 x135 x136 : Value} {w : World}
    (hKw : Keeps (fun b => b = ob) w0 w) (hk : Own w kb 512 (fun j => .int .u64 (KV j : Nat))) (hd : Own w db 1024 (fun j => .int .u8 (DV j : Nat))) (ho : Own w ob L (fun j => .int .u8 (C j : Nat)))
    (d1 : kb ≠ ob) (d2 : db ≠ ob) (hn2 : n ≤ 512) (hg : Hid (∀ i, i < n → DV i = g i ∧ g i ≤ 255)) (hsym : Hid (∀ i, i < n → sym i = KV i % 65536 ∧ sym i < L ∧ C (sym i) = 0)) (hinj : Hid (∀ i j, i < n → j < n → sym i = sym j → i = j)) :
    Code.wp Try.prog (tailF Try.f15 35) (bodyPost Try.prog Try.f15 fun e w' => e = .returned (.tuple #[]) ∧ Keeps (fun b => b = ob) w0 w' ∧ Own w' ob L (fun j => .int .u8 (outF C sym n g j : Nat))) ⟨#[x0, .slice (some ⟨ob, 0, none⟩) L cap, x2, x3, x4, x5, .pointer (some ⟨kb, 0, none⟩), .int .i64 (n : Nat), x8, x9, x10, x11, x12, x13, x14, x15, x16, x17, x18, .pointer (some ⟨db, 0, none⟩), x20, x21, x22, x23, x24, x25, x26, x27, x28, x29, x30, x31, x32, x33, x34, x35, x36, x37, x38, x39, x40, x41, x42, x43, x44, x45, x46, x47, x48, x49, x50, x51, x52, x53, x54, x55, x56, x57, x58, x59, x60, x61, x62, x63, x64, x65, x66, x67, x68, x69, x70, x71, x72, x73, x74, x75, x76, x77, x78, x79, x80, x81, x82, x83, x84, x85, x86, x87, x88, x89, x90, x91, x92, x93, x94, x95, x96, x97, x98, x99, x100, x101, x102, x103, x104, x105, x106, x107, x108, x109, x110, x111, x112, x113, x114, x115, x116, x117, x118, x119, x120, x121, x122, x123, x124, x125, x126, x127, x128, x129, x130, x131, x132, x133, x134, x135, x136], []⟩ w := by
  conv => arg 2; whnf
  have hA0 : (0 : Int) ≤ (n : Int) := by omega
  have hA1 : (n : Int) ≤ 512 := by omega
  go_wp2
  go_loopw [124] (fun v124 wr => ∃ j : Nat, j ≤ n ∧ v124 = .int .i64 j ∧ Keeps (fun b => b = ob) w wr ∧ Own wr ob L (fun x => .int .u8 (outF C sym n (fun i => if i < j then g i else 0) x : Nat))) (fun v124 _ => n - (intOf v124).toNat)
  case atStart => exact ⟨0, Nat.zero_le _, rfl, Keeps.refl _ _, by
    rw [outF_congr (g' := fun _ => 0) (fun i _ => by simp), outF_zero]; exact ho⟩
  case round =>
    obtain ⟨j, hj, rfl, hK1, hO1⟩ := hrel
    by_cases hlt : j < n
    · obtain ⟨y1, y2, y3⟩ := hsym.out j hlt
      obtain ⟨g1, g2⟩ := hg.out j hlt
      have hck := (hk.keep hK1 (fun h => d1 h)).cell j (by omega)
      have hcd := (hd.keep hK1 (fun h => d2 h)).cell j (by omega)
      have hco := hO1.cell (sym j) y2
      have hfo := hO1.free (sym j)
      have HST : Hid (∀ x, outF C sym n (fun i => if i < j + 1 then g i else 0) x = if x = sym j then g j else outF C sym n (fun i => if i < j then g i else 0) x) := outF_set hinj.out hlt y3
      rw [g1] at hcd
      obtain ⟨X, hX⟩ : ∃ X, KV j = X := ⟨_, rfl⟩
      rw [hX] at hck y1
      obtain ⟨Y, hY⟩ : ∃ Y, sym j = Y := ⟨_, rfl⟩
      rw [hY] at hco hfo y2 y1
      have Y1 : Hid (sym j = Y) := hY
      obtain ⟨G, hG⟩ : ∃ G, g j = G := ⟨_, rfl⟩
      rw [hG] at hcd g2
      have HG : Hid (g j = G) := hG
      obtain ⟨V, hV⟩ : ∃ V, outF C sym n (fun i => if i < j then g i else 0) Y = V := ⟨_, rfl⟩
      rw [hV] at hco
      have hwX : IntKind.u16.wrap (X : Int) = (Y : Int) := by rw [IntKind.wrap_u16]; omega
      have hy2 : (Y : Int) < (L : Int) := by omega
      have hi0 : (0 : Int) ≤ (j : Int) := by omega
      have hi1 : (j : Int) < 1024 := by omega
      clear y1 y3 g1 hX hY hG hV
      go_wp2
      refine ⟨?rel, ?measure⟩
      case rel =>
        refine ⟨j + 1, by omega, by go_num, keep_ob hK1 _ _, ?_⟩
        refine (hO1.set y2 _).congr fun x _ => ?_
        rw [HST.out x, Y1.out, HG.out]
        unfold updV
        by_cases hxx : x = Y
        · rw [if_pos hxx, if_pos hxx]
        · rw [if_neg hxx, if_neg hxx]
      case measure => simp [intOf]; omega
    · obtain rfl : j = n := by omega
      have e1 : outF C sym j (fun i => if i < j then g i else 0) = outF C sym j g := outF_congr fun i hi => if_pos hi
      rw [e1] at hO1
      go_wp2
      exact Go.Great.bodyPost_end0 rfl rfl ⟨rfl, hKw.trans hK1, hO1⟩

set_option maxHeartbeats 4000000 in
set_option maxRecDepth 100000 in
theorem lzD {w0 : World} {kb ob db n L K cap mx : Nat} {KV C sym DV : Nat → Nat} {x0 x3 x4 x5 x8 x9 x10 x11 x12 x13 x14 x15 x16 x17 x18 x20 x22 x23 x24 x25 x26 x27 x28 x29 x30 x31 x32 x33 x34 x35 x36 x37 x38 x39 x40 x41 x42 x43 x44 x45 x46 x47 x48 x49 x50 x51 x52 x53 x54 x55 x56 x57 x58 x59 x60 x61 x62 x63 x64 x65 x66 x67 x68 x69 x70 x71 x72 x73 x74 x75 x76 x77 x78 x79 x80 x81 x82 x83 x84 x85 x86 x87 x88 x89 x90 x91 x92 x93 x94 x95 x96 x97 x98 x99 x100 x101 x102 x103 x104 x105 x106 x107 x108 x109 x110 x111 x112 x113 x114 x115 x116 x117 x118 x119 x120 x121 x122 x123 x124 x125 x126 x127 x128 x129 x130 x131 x132 x133 x134 x135 x136 : Value} {w : World}
    (hKw : Keeps (fun b => b = ob) w0 w) (hk : Own w kb 512 (fun j => .int .u64 (KV j : Nat))) (hd : Own w db 1024 (fun j => .int .u8 (DV j : Nat))) (ho : Own w ob L (fun j => .int .u8 (C j : Nat)))
    (d1 : kb ≠ ob) (d2 : db ≠ ob) (hn : 2 ≤ n) (hn2 : n ≤ 512) (hK : 1 ≤ K) (hK2 : K ≤ 20) (hnK : Hid (n ≤ 2 ^ K)) (hL : L ≤ 1048576) (hKb : Hid (∀ i, i < n → KV i < 281474976710656))
    (hg : Hid (∀ i, i < n → DV i = hD (wtOf KV) n i ∧ hD (wtOf KV) n i ≤ 255)) (hmx : Hid (mx = mxD (hD (wtOf KV) n) n)) (hmx2 : mx ≤ 255) (hsym : Hid (∀ i, i < n → sym i = KV i % 65536 ∧ sym i < L ∧ C (sym i) = 0)) (hinj : Hid (∀ i j, i < n → j < n → sym i = sym j → i = j)) :
    Code.wp Try.prog (tailF Try.f15 33) (bodyPost Try.prog Try.f15 fun e w' => e = .returned (.tuple #[]) ∧ Keeps (fun b => b = ob) w0 w' ∧ Own w' ob L (fun j => .int .u8 (outF C sym n (lv (wtOf KV) n K) j : Nat))) ⟨#[x0, .slice (some ⟨ob, 0, none⟩) L cap, .int .i64 (K : Nat), x3, x4, x5, .pointer (some ⟨kb, 0, none⟩), .int .i64 (n : Nat), x8, x9, x10, x11, x12, x13, x14, x15, x16, x17, x18, .pointer (some ⟨db, 0, none⟩), x20, .int .u8 (mx : Nat), x22, x23, x24, x25, x26, x27, x28, x29, x30, x31, x32, x33, x34, x35, x36, x37, x38, x39, x40, x41, x42, x43, x44, x45, x46, x47, x48, x49, x50, x51, x52, x53, x54, x55, x56, x57, x58, x59, x60, x61, x62, x63, x64, x65, x66, x67, x68, x69, x70, x71, x72, x73, x74, x75, x76, x77, x78, x79, x80, x81, x82, x83, x84, x85, x86, x87, x88, x89, x90, x91, x92, x93, x94, x95, x96, x97, x98, x99, x100, x101, x102, x103, x104, x105, x106, x107, x108, x109, x110, x111, x112, x113, x114, x115, x116, x117, x118, x119, x120, x121, x122, x123, x124, x125, x126, x127, x128, x129, x130, x131, x132, x133, x134, x135, x136], []⟩ w := by
  by_cases hbig : K < mx
  · have e1 : lv (wtOf KV) n K = lenOf (sk (wtOf KV) n K) K := by
      funext i; unfold lv; rw [← hmx.out, if_pos hbig]
    have hb : (mx : Int) > (K : Int) := by omega
    rw [e1]
    rw [tail15_33]
    go_wp2
    conv => arg 2; whnf
    go_wp2_with (go_at_call 23; refine (pm_any (K := K) hk ho d1 hn hn2 hK hK2 hnK hL hKb hsym hinj).mono ?_; rintro e w' ⟨rfl, hK9, hO9⟩)
    (try simp only [Exit.inBlock, Exit.then])
    refine bodyPost_ret (results_none rfl _ _ _) rfl ?_
    exact ⟨rfl, hKw.trans hK9, hO9⟩
  · have e1 : lv (wtOf KV) n K = hD (wtOf KV) n := by
      funext i; unfold lv; rw [← hmx.out, if_neg hbig]
    have hb : ¬ (mx : Int) > (K : Int) := by omega
    rw [e1]
    rw [tail15_33]
    go_wp2
    conv => arg 2; whnf
    go_wp2
    exact lzE hKw hk hd ho d1 d2 hn2 hg hsym hinj

end Go.Proofs.Qxb6617947a
