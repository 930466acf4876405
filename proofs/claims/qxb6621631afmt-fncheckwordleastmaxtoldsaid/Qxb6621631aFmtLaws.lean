import Derived.Test.Qxb6621631aFmtAsk
/-! FnCheckWordLeastMax and FnCheckWordCutAnywhere say true, at every input. -/
namespace Go.Proofs.Qxb6621631aFmt
open Go.RowKit Go.Extern.Stop Go.Stop Go.Extern

theorem bytes_big (s : ByteArray) (m : Int) (w : World) (h : 1048576 < s.size) (_hs : s.size ≤ 9223372036854775807) : Calls Tryf.prog 8 #[.string s, .int .i64 m] w fun e w' => e = .returned (.bool false) ∧ w' = w := by
  go_enter Tryf.func8, Tryf.ntmps8
  go_wp2
  go_ret
  exact ⟨rfl, rfl⟩
theorem bytes_small (s : ByteArray) (m : Int) (w : World) (h : ¬ 1048576 < s.size) : Calls Tryf.prog 8 #[.string s, .int .i64 m] w fun e w' => e = .returned (.bool true) ∧ w' = w := by
  go_enter Tryf.func8, Tryf.ntmps8
  go_wp2
  go_ret
  exact ⟨rfl, rfl⟩

theorem okW_small (s : ByteArray) : okW s ((s.size : Int) - 1) = false := by
  have : ¬ ((s.size : Int) ≤ (s.size : Int) - 1) := by omega
  simp [okW, this]
theorem okW_le {s : ByteArray} {m : Int} (h : (s.size : Int) ≤ m) : okW s m = okW s s.size := by simp [okW, h]
theorem okW_gt {s : ByteArray} {m : Int} (h : ¬ (s.size : Int) ≤ m) : okW s m = false := by simp [okW, h]

set_option maxHeartbeats 1000000 in
theorem least (F : Interp) (s : ByteArray) (m : Int) (w : World) (hF : F.answers w.tape) (hs : s.size ≤ maxLen) :
    Calls Tryf.prog 3 #[.string s, .int .i64 m] w fun e w' => e = .returned (.bool true) ∧ Below w.heap.size w w' := by
  have hs' : s.size ≤ 9223372036854775807 := hs
  by_cases h1 : 1048576 < s.size
  · go_enter Tryf.func3, Tryf.ntmps3
    go_wp2_with (go_at_call 8; refine (bytes_big s m w h1 hs').mono ?_; rintro e w' ⟨rfl, hw⟩; obtain rfl : w = w' := hw.symm)
    go_ret
    exact ⟨rfl, Below.refl _ _⟩
  go_enter Tryf.func3, Tryf.ntmps3
  go_wp2_with (first | (go_at_call 8; refine (bytes_small s m w h1).mono ?_; rintro e w' ⟨rfl, hw⟩; obtain rfl : w = w' := hw.symm) | (go_at_call 9; refine (checkWord_any F s ((s.size : Int) - 1) w hF hs).mono ?_))
  rintro e w1 ⟨he, hB1⟩
  rw [okW_small] at he
  rcases he with ⟨h, _⟩ | ⟨_, a, rfl⟩
  · cases h
  have hF1 : F.answers w1.tape := by rw [hB1.tape]; exact hF
  go_wp2_with (go_at_call 9; refine (checkWord_any F s (s.size : Int) w1 hF1 hs).mono ?_)
  rintro e w2 ⟨he2, hB2⟩
  have hF2 : F.answers w2.tape := by rw [hB2.tape]; exact hF1
  have hB2' := hB1.trans (hB2.mono hB1.size)
  clear hB2 hF1 hB1
  by_cases hm : (s.size : Int) ≤ m
  · rcases he2 with ⟨h2, rfl⟩ | ⟨h2, b, rfl⟩
    · go_wp2_with (go_at_call 9; refine (checkWord_any F s m w2 hF2 hs).mono ?_)
      rintro e w3 ⟨he3, hB3⟩
      rw [okW_le hm, h2] at he3
      rcases he3 with ⟨_, rfl⟩ | ⟨h3, _⟩
      · clear h2
        go_wp2
        go_ret
        exact ⟨rfl, hB2'.trans (hB3.mono hB2'.size)⟩
      · cases h3
    · go_wp2_with (go_at_call 9; refine (checkWord_any F s m w2 hF2 hs).mono ?_)
      rintro e w3 ⟨he3, hB3⟩
      rw [okW_le hm, h2] at he3
      rcases he3 with ⟨h3, _⟩ | ⟨_, c, rfl⟩
      · cases h3
      · clear h2
        go_wp2
        go_ret
        exact ⟨rfl, hB2'.trans (hB3.mono hB2'.size)⟩
  · have hB4 : ∀ w3, Below w2.heap.size w2 w3 → Below w.heap.size w w3 := fun w3 h => hB2'.trans (h.mono hB2'.size)
    have HB : Hid _ := hB4
    clear hB4
    rcases he2 with ⟨h2, rfl⟩ | ⟨h2, b, rfl⟩
    all_goals
      clear h2
      go_wp2_with (go_at_call 9; refine (checkWord_any F s m w2 hF2 hs).mono ?_)
      rintro e w3 ⟨he3, hB3⟩
      rw [okW_gt (s := s) (m := m) (by omega)] at he3
      rcases he3 with ⟨h3, _⟩ | ⟨_, c, rfl⟩
      · cases h3
      · go_wp2
        go_ret
        exact ⟨rfl, HB.out w3 hB3⟩

theorem cut_big (s : ByteArray) (i m : Int) (w : World) (h : 1048576 < s.size) (_hs : s.size ≤ 9223372036854775807) : Calls Tryf.prog 10 #[.string s, .int .i64 i, .int .i64 m] w fun e w' => e = .returned (.bool false) ∧ w' = w := by
  go_enter Tryf.func10, Tryf.ntmps10
  go_wp2
  go_ret
  exact ⟨rfl, rfl⟩
theorem cut_small (s : ByteArray) (i m : Int) (w : World) (h : ¬ 1048576 < s.size) : Calls Tryf.prog 10 #[.string s, .int .i64 i, .int .i64 m] w fun e w' => e = .returned (.bool true) ∧ w' = w := by
  go_enter Tryf.func10, Tryf.ntmps10
  go_wp2
  go_ret
  exact ⟨rfl, rfl⟩

theorem extract_list (s : ByteArray) (a b : Nat) : (s.extract a b).data.toList = (s.data.toList.take b).drop a := by
  simp [ByteArray.data_extract, List.extract_eq_take_drop, List.drop_take]
theorem okW_cut {s : ByteArray} {k : Nat} {m : Int} (h0 : 0 < k) (h1 : k < s.size) : okW s m = (okW (s.extract 0 k) m && okW (s.extract k s.size) m && decide ((s.size : Int) ≤ m)) := by
  have e1 : (s.extract 0 k).size = k := by simp [ByteArray.size_extract]; omega
  have e2 : (s.extract k s.size).size = s.size - k := by simp [ByteArray.size_extract]
  have l1 : (s.extract 0 k).data.toList = s.data.toList.take k := by rw [extract_list]; simp
  have hl : s.data.toList.length = s.size := Array.length_toList
  have l2 : (s.extract k s.size).data.toList = s.data.toList.drop k := by rw [extract_list, List.take_of_length_le (by omega)]
  have l3 : s.data.toList.all okB = ((s.data.toList.take k).all okB && (s.data.toList.drop k).all okB) := by rw [← List.all_append, List.take_append_drop]
  have n0 : s.size ≠ 0 := by omega
  have n1 : k ≠ 0 := by omega
  have n2 : s.size - k ≠ 0 := by omega
  unfold okW
  rw [e1, e2, l1, l2, l3]
  by_cases hm : (s.size : Int) ≤ m
  · have m1 : (k : Int) ≤ m := by omega
    have m2 : ((s.size - k : Nat) : Int) ≤ m := by omega
    simp [hm, n0, n1, n2, m1, m2]
  · simp [hm]

set_option maxHeartbeats 1000000 in
theorem cutAnywhere (F : Interp) (s : ByteArray) (i m : Int) (w : World) (hF : F.answers w.tape) (hs : s.size ≤ maxLen) :
    Calls Tryf.prog 4 #[.string s, .int .i64 i, .int .i64 m] w fun e w' => e = .returned (.bool true) ∧ Below w.heap.size w w' := by
  have hs' : s.size ≤ 9223372036854775807 := hs
  by_cases h1 : 1048576 < s.size
  · go_enter Tryf.func4, Tryf.ntmps4
    go_wp2_with (go_at_call 10; refine (cut_big s i m w h1 hs').mono ?_; rintro e w' ⟨rfl, hw⟩; obtain rfl : w = w' := hw.symm)
    go_ret
    exact ⟨rfl, Below.refl _ _⟩
  by_cases hi : i < 1
  · go_enter Tryf.func4, Tryf.ntmps4
    go_wp2_with (go_at_call 10; refine (cut_small s i m w h1).mono ?_; rintro e w' ⟨rfl, hw⟩; obtain rfl : w = w' := hw.symm)
    go_ret
    exact ⟨rfl, Below.refl _ _⟩
  by_cases hi2 : (s.size : Int) ≤ i
  · go_enter Tryf.func4, Tryf.ntmps4
    go_wp2_with (go_at_call 10; refine (cut_small s i m w h1).mono ?_; rintro e w' ⟨rfl, hw⟩; obtain rfl : w = w' := hw.symm)
    go_ret
    exact ⟨rfl, Below.refl _ _⟩
  obtain ⟨k, rfl⟩ : ∃ k : Nat, i = (k : Int) := ⟨i.toNat, by omega⟩
  have hk0 : 0 < k := by omega
  have hk1 : k < s.size := by omega
  have HC : Hid _ := okW_cut (m := m) hk0 hk1
  have z1 : (s.extract 0 k).size ≤ maxLen := by simp only [ByteArray.size_extract]; omega
  have z2 : (s.extract k s.size).size ≤ maxLen := by simp only [ByteArray.size_extract]; omega
  have Z1 : Hid _ := z1
  have Z2 : Hid _ := z2
  clear z1 z2 hi hi2
  go_enter Tryf.func4, Tryf.ntmps4
  go_wp2_with (first | (go_at_call 10; refine (cut_small s k m w h1).mono ?_; rintro e w' ⟨rfl, hw⟩; obtain rfl : w = w' := hw.symm) | (go_at_call 9; refine (checkWord_any F s m w hF hs).mono ?_))
  rintro e w1 ⟨he1, hB1⟩
  have hF1 : F.answers w1.tape := by rw [hB1.tape]; exact hF
  have HE1 : Hid (ErrIs (okW s m) e) := he1
  clear he1
  rcases HE1.out with ⟨q1, rfl⟩ | ⟨q1, a1, rfl⟩
  all_goals
    have Q1 : Hid (okW s m = _) := q1
    clear q1 HE1
    go_wp2_with (go_at_call 9; refine (checkWord_any F (s.extract 0 k) m w1 hF1 Z1.out).mono ?_)
    rintro e w2 ⟨he2, hB2⟩
    have hF2 : F.answers w2.tape := by rw [hB2.tape]; exact hF1
    have hB3 := hB1.trans (hB2.mono hB1.size)
    clear hB2 hF1 hB1
    rcases he2 with ⟨q2, rfl⟩ | ⟨q2, a2, rfl⟩
    all_goals
      have Q2 : Hid (okW (s.extract 0 k) m = _) := q2
      clear q2
      go_wp2_with (go_at_call 9; refine (checkWord_any F (s.extract k s.size) m w2 hF2 Z2.out).mono ?_)
      rintro e w3 ⟨he3, hB4⟩
      have hB5 := hB3.trans (hB4.mono hB3.size)
      clear hB4 hB3 hF2
      rcases he3 with ⟨q3, rfl⟩ | ⟨q3, a3, rfl⟩
      all_goals
        have hc := HC.out
        rw [Q1.out, Q2.out, q3] at hc
        clear q3
        by_cases hm : (s.size : Int) ≤ m
        · rw [decide_eq_true hm] at hc
          first
            | exact absurd hc (by decide)
            | (clear hc
               go_wp2
               go_ret
               exact ⟨rfl, hB5⟩)
        · rw [decide_eq_false hm] at hc
          first
            | exact absurd hc (by decide)
            | (clear hc
               go_wp2
               go_ret
               exact ⟨by first | rfl | (simp; omega), hB5⟩)
end Go.Proofs.Qxb6621631aFmt
