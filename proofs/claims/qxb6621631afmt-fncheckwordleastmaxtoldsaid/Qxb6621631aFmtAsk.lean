import Derived.Test.Qxb6621631aFmtProg
import Derived.Stop.CallBack
import Derived.Stop.IfaceNil
import Derived.Stop.FmtTextLaws
import GoSem.ClaimData
import Derived.WalkKit
import Derived.WalkSpells
import Derived.WalkLawsBesides
/-! fmt.Errorf at the two formats of CheckWord: an error of errors.New's make, and nothing of what was there is written. -/
namespace Go.Proofs.Qxb6621631aFmt
open Go.RowKit Go.Extern.Stop Go.Stop Go.Extern

theorem call18 (args : Array Value) (w : World) : (callFunc 18 args).run Tryf.prog w = ((FmtStop.errorf #[9, 35] #[24] args).run Tryf.prog w).andThen fun v w' => .ok (.value v) w' :=
  run_callFunc_extern Tryf.func18 (by kernel_rfl) (by kernel_rfl) (by kernel_rfl) (by kernel_rfl) args w
theorem guard_ok (name : String) (w : World) : (FmtStop.guard name).run Tryf.prog w = .ok () w := by kernel_rfl
abbrev fmtLong : ByteArray := ⟨#[105, 115, 32, 37, 100, 32, 98, 121, 116, 101, 115, 32, 108, 111, 110, 103, 44, 32, 109, 111, 114, 101, 32, 116, 104, 97, 110, 32, 37, 100]⟩
abbrev fmtBad : ByteArray := ⟨#[104, 97, 115, 32, 98, 121, 116, 101, 32, 37, 35, 48, 50, 120, 32, 97, 116, 32, 111, 102, 102, 115, 101, 116, 32, 37, 100, 44, 32, 119, 104, 105, 99, 104, 32, 105, 115, 32, 110, 111, 116, 32, 112, 114, 105, 110, 116, 97, 98, 108, 101, 32, 65, 83, 67, 73, 73, 32, 111, 116, 104, 101, 114, 32, 116, 104, 97, 110, 32, 116, 104, 101, 32, 115, 112, 97, 99, 101]⟩
theorem long0 : FmtStop.printed? fmtLong 2 = some [(0, 100, false), (1, 100, false)] := by kernel_rfl
theorem long0r (w : World) : (FmtDoors.printed fmtLong 2).run Tryf.prog w = .ok [(0, 100, false), (1, 100, false)] w := by kernel_rfl
theorem long1 : FmtStop.printed? fmtLong 0 = some [] := by kernel_rfl
theorem long1r (w : World) : (FmtDoors.printed fmtLong 0).run Tryf.prog w = .ok [] w := by kernel_rfl
theorem bad0 : FmtStop.printed? fmtBad 2 = some [(0, 120, true), (1, 100, false)] := by kernel_rfl
theorem bad0r (w : World) : (FmtDoors.printed fmtBad 2).run Tryf.prog w = .ok [(0, 120, true), (1, 100, false)] w := by kernel_rfl
theorem bad1 : FmtStop.printed? fmtBad 0 = some [] := by kernel_rfl
theorem bad1r (w : World) : (FmtDoors.printed fmtBad 0).run Tryf.prog w = .ok [] w := by kernel_rfl
def shape3 : List UInt8 := [5, 3, 0, 0, 0, 0, 0, 0, 0, 105, 110, 116]
def shape5 : List UInt8 := [6, 5, 0, 0, 0, 0, 0, 0, 0, 117, 105, 110, 116, 56]
theorem op3 (name : String) (x : Int) (w : World) : (FmtStop.operand name true 100 false (.iface 3 (.int .i64 x))).run Tryf.prog w = .ok (shape3, Go.Extern.Stop.digits 8 (x % 2 ^ 64).toNat) w := by kernel_rfl
theorem op5 (name : String) (x : Int) (w : World) : (FmtStop.operand name true 120 true (.iface 5 (.int .u8 x))).run Tryf.prog w = .ok (shape5, Go.Extern.Stop.digits 8 (x % 2 ^ 64).toNat) w := by kernel_rfl
theorem ptr32 (w : World) : (FmtStop.ptrTo "errors.errorString").run Tryf.prog w = .ok 32 w := by kernel_rfl
theorem elem32 (w : World) : (elemOf 32).run Tryf.prog w = .ok 34 w := by kernel_rfl
theorem isError32 (w : World) : (FmtDoors.textMethod 32 "Error").run Tryf.prog w = .ok true w := by kernel_rfl

attribute [local go_sem] call18 guard_ok long0 long0r long1 long1r bad0 bad0r bad1 bad1r op3 op5 ptr32 elem32 isError32

theorem errorf_long (F : Interp) (n m : Int) (blk : Nat) (w : World) (hF : F.answers w.tape)
    (hc0 : w.cell? ⟨blk, 0, none⟩ = some (.iface 3 (.int .i64 n))) (hc1 : w.cell? ⟨blk, 1, none⟩ = some (.iface 3 (.int .i64 m))) :
    Calls Tryf.prog 17 #[.string fmtLong, .slice (some ⟨blk, 0, none⟩) 2 2] w fun e w' => (∃ a, e = .returned (.iface 32 (.pointer (some a)))) ∧ Below w.heap.size w w' := by
  have hF' := answers_open hF
  go_enter Tryf.func17, Tryf.ntmps17
  go_wp2
  go_ret
  exact ⟨⟨_, rfl⟩, ((Below.refl _ w).alloc (Nat.le_refl _) _).drew⟩

theorem errorf_bad (F : Interp) (n m : Int) (blk : Nat) (w : World) (hF : F.answers w.tape)
    (hc0 : w.cell? ⟨blk, 0, none⟩ = some (.iface 5 (.int .u8 n))) (hc1 : w.cell? ⟨blk, 1, none⟩ = some (.iface 3 (.int .i64 m))) :
    Calls Tryf.prog 17 #[.string fmtBad, .slice (some ⟨blk, 0, none⟩) 2 2] w fun e w' => (∃ a, e = .returned (.iface 32 (.pointer (some a)))) ∧ Below w.heap.size w w' := by
  have hF' := answers_open hF
  go_enter Tryf.func17, Tryf.ntmps17
  go_wp2
  go_ret
  exact ⟨⟨_, rfl⟩, ((Below.refl _ w).alloc (Nat.le_refl _) _).drew⟩

theorem new_any (s : ByteArray) (w : World) :
    Calls Tryf.prog 16 #[.string s] w fun e w' => (∃ a, e = .returned (.iface 32 (.pointer (some a)))) ∧ Below w.heap.size w w' := by
  go_enter Tryf.func16, Tryf.ntmps16
  go_wp2
  go_ret
  exact ⟨⟨_, rfl⟩, ((Below.refl _ w).alloc (Nat.le_refl _) _)⟩

def intOf : Value → Int | .int _ q => q | _ => 0
/-- A byte of a word: printable, not the space. -/
def okB (c : UInt8) : Bool := decide (33 ≤ c.toNat) && decide (c.toNat ≤ 126)
def okW (s : ByteArray) (m : Int) : Bool := decide (s.size ≠ 0) && decide ((s.size : Int) ≤ m) && s.data.toList.all okB

def ErrIs (b : Bool) (e : Ending) : Prop := (b = true ∧ e = .returned .nilIface) ∨ (b = false ∧ ∃ a, e = .returned (.iface 32 (.pointer (some a))))

theorem byte_at (s : ByteArray) (i : Nat) (hi : i < s.size) : s[i] = s.data.toList.getD i 0 := by
  have h' : i < s.data.toList.length := by simpa using hi
  rw [List.getD, List.getElem?_eq_getElem h']
  simp
  rfl

set_option maxHeartbeats 1000000 in
theorem checkWord_any (F : Interp) (s : ByteArray) (m : Int) (w : World) (hF : F.answers w.tape) (hs : s.size ≤ maxLen) :
    Calls Tryf.prog 9 #[.string s, .int .i64 m] w fun e w' => ErrIs (okW s m) e ∧ Below w.heap.size w w' := by
  by_cases h0 : s.size = 0
  · obtain rfl : s = ⟨#[]⟩ := by
      obtain ⟨a⟩ := s
      obtain ⟨l⟩ := a
      cases l with
      | nil => rfl
      | cons x l => cases h0
    have hok : okW ⟨#[]⟩ m = false := rfl
    rw [hok]
    go_enter Tryf.func9, Tryf.ntmps9
    go_wp2_with (go_at_call 16; refine (new_any _ w).mono ?_; rintro e w' ⟨⟨a, rfl⟩, hB⟩)
    go_ret
    exact ⟨.inr ⟨rfl, _, rfl⟩, hB⟩
  have hne : (s.toList == []) = false := by
    rw [ByteArray.toList_eq]
    cases h : s.data.toList with
    | nil =>
      have e : s.data.toList.length = s.data.size := Array.length_toList
      rw [h] at e
      exact absurd (show s.data.size = 0 from e.symm) h0
    | cons x l => rfl
  by_cases h1 : (s.size : Int) ≤ m
  case neg =>
    have hok : okW s m = false := by simp [okW, h1]
    rw [hok]
    go_enter Tryf.func9, Tryf.ntmps9
    go_wp2_with (go_at_call 17; refine (errorf_long F s.size m w.heap.size (w.alloc (.cells #[.iface 3 (.int .i64 s.size), .iface 3 (.int .i64 m)] 20)) hF (by go_simp) (by go_simp)).mono ?_; rintro e w' ⟨⟨a, rfl⟩, hB⟩)
    go_ret
    exact ⟨.inr ⟨rfl, _, rfl⟩, ((Below.refl _ w).alloc (Nat.le_refl _) _).trans (hB.mono (by simp))⟩
  have hokW : Hid (okW s m = s.data.toList.all okB) := by show _ = _; simp [okW, h0, h1]
  have hlen : s.data.toList.length = s.size := Array.length_toList
  have hmx : s.size ≤ 9223372036854775807 := hs
  go_enter Tryf.func9, Tryf.ntmps9
  go_wp2
  go_loopw [5] (fun i wr => ∃ k : Nat, k ≤ s.size ∧ i = .int .i64 k ∧ wr = w ∧ Hid (∀ j, j < k → okB (s.data.toList.getD j 0) = true)) (fun i _ => s.size - (intOf i).toNat)
  case atStart => exact ⟨0, Nat.zero_le _, rfl, rfl, fun j hj => absurd hj (Nat.not_lt_zero _)⟩
  case round =>
    obtain ⟨k, hk, rfl, hwr, hpre⟩ := hrel
    obtain rfl : w = wr := hwr.symm
    by_cases hlt : k < s.size
    · obtain ⟨c, hc⟩ : ∃ c : Nat, (s.data.toList.getD k 0).toNat = c := ⟨_, rfl⟩
      have hidx : ∀ w : World, (Instr.index 9 (.string s) (.int .i64 (k : Int))).run Tryf.prog w = .ok (.int .u8 (c : Int)) w := fun w => by
        rw [run_index_string w 9 s .i64 _ Tryf.underlying9, dif_pos ⟨by omega, by omega⟩]
        have e : ((k : Int)).toNat = k := by omega
        simp only [e]
        rw [byte_at s k hlt, hc]
      have hcb : c ≤ 255 := by have := (s.data.toList.getD k 0).toNat_lt; omega
      have hin : Hid (s.data.toList.getD k 0 ∈ s.data.toList) := by
        show _ ∈ _
        rw [List.getD, List.getElem?_eq_getElem (by omega)]
        exact List.getElem_mem _
      have hokB : okB (s.data.toList.getD k 0) = (decide (33 ≤ c) && decide (c ≤ 126)) := by rw [← hc]; rfl
      clear hc
      by_cases hlo : c < 33
      · have hok : Hid (okW s m = false) := by
          show _ = _
          rw [hokW.out, List.all_eq_false]
          exact ⟨_, hin.out, by rw [hokB]; simp; omega⟩
        clear hokB
        go_wp2_with (go_at_call 17; refine (errorf_bad F c k w.heap.size (w.alloc (.cells #[.iface 5 (.int .u8 c), .iface 3 (.int .i64 k)] 20)) hF (by go_simp) (by go_simp)).mono ?_; rintro e w' ⟨⟨a, rfl⟩, hB⟩)
        go_ret
        exact ⟨.inr ⟨hok.out, _, rfl⟩, ((Below.refl _ w).alloc (Nat.le_refl _) _).trans (hB.mono (by simp))⟩
      · by_cases hhi : 126 < c
        · have hok : Hid (okW s m = false) := by
            show _ = _
            rw [hokW.out, List.all_eq_false]
            exact ⟨_, hin.out, by rw [hokB]; simp; omega⟩
          clear hokB
          go_wp2_with (go_at_call 17; refine (errorf_bad F c k w.heap.size (w.alloc (.cells #[.iface 5 (.int .u8 c), .iface 3 (.int .i64 k)] 20)) hF (by go_simp) (by go_simp)).mono ?_; rintro e w' ⟨⟨a, rfl⟩, hB⟩)
          go_ret
          exact ⟨.inr ⟨hok.out, _, rfl⟩, ((Below.refl _ w).alloc (Nat.le_refl _) _).trans (hB.mono (by simp))⟩
        · have hnx : Hid (∀ j, j < k + 1 → okB (s.data.toList.getD j 0) = true) := fun j hj => by
            rcases Nat.lt_or_ge j k with h | h
            · exact hpre.out j h
            · obtain rfl : j = k := by omega
              rw [hokB]; simp; omega
          go_wp2
          refine ⟨?rel, ?measure⟩
          case rel => exact ⟨k + 1, hlt, by go_num, trivial, hnx⟩
          case measure => simp [intOf]; omega
    · have hok : Hid (okW s m = true) := by
        show _ = _
        rw [hokW.out, List.all_eq_true]
        intro x hx
        obtain ⟨j, hj, rfl⟩ := List.getElem_of_mem hx
        have := hpre.out j (by omega)
        rwa [List.getD, List.getElem?_eq_getElem hj] at this
      go_wp2
      go_ret
      exact ⟨.inl ⟨hok.out, rfl⟩, Below.refl _ _⟩
end Go.Proofs.Qxb6621631aFmt
