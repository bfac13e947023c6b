/-
  THE WALKS OF 'isWhitespace' (17), 'spaceEnd' (9), the law's model 'zzs3970amodel' (10) AND 'zzs3970aws' (11).
-/
import Derived.Test.YbulkcdesRows
import Derived.WalkKit
import Derived.WalkSpells
import Derived.WalkLawsBesides
namespace Go.Proofs.Ybulkcdes
open Go.RowKit

/-- The four bytes that are whitespace. -/
def ws (n : Nat) : Bool := n == 32 || n == 9 || n == 10 || n == 13

theorem ws_bits : ∀ n : Nat, n < 64 → (bits BinOp.and IntKind.u64 4294977024 (IntKind.u64.wrap (2 ^ n)) != 0) = ws n := by decide +kernel
theorem ws_hi (n : Nat) (h : ¬ n < 64) : ws n = false := by simp [ws]; omega

theorem ret_bool' {a b : Bool} (h : a = b) : Ending.returned (.bool a) = .returned (.bool b) := by rw [h]
theorem ret_int' {k : IntKind} {a b : Int} (h : a = b) : Ending.returned (.int k a) = .returned (.int k b) := by rw [h]

set_option maxHeartbeats 400000 in
theorem isWhitespace_any (n : Nat) (w : World) :
    Calls Yba.prog 17 #[.int .i32 n] w fun e w' => e = .returned (.bool (ws n)) ∧ w' = w := by
  have h0 : (0 : Int) ≤ (n : Int) := by omega
  by_cases hn : n < 64
  · have h1 : (n : Int) < 64 := by omega
    go_enter Yba.func17, Yba.ntmps17
    go_wp2
    go_ret
    exact ⟨ret_bool' (ws_bits n hn), rfl⟩
  · have h1 : ¬ (n : Int) < 64 := by omega
    go_enter Yba.func17, Yba.ntmps17
    go_wp2
    go_ret
    exact ⟨ret_bool' (ws_hi n hn).symm, rfl⟩

/-- How many bytes of whitespace a text begins with. -/
def skip (l : List UInt8) : Nat := (l.takeWhile fun c => ws c.toNat).length

theorem skip_le (l : List UInt8) : skip l ≤ l.length := (List.takeWhile_sublist _).length_le

theorem data_len (s : ByteArray) : s.data.toList.length = s.size := by
  rw [Array.length_toList]; rfl
theorem drop_at (s : ByteArray) (k : Nat) (h : k < s.size) : s.data.toList.drop k = s[k] :: s.data.toList.drop (k + 1) := by
  have e : s.data.toList[k]'(by rw [data_len]; exact h) = s[k] := rfl
  rw [← e]; exact List.drop_eq_getElem_cons _

/-- Where the whitespace from offset o on ends. -/
def spEnd (l : List UInt8) (o : Nat) : Nat := o + skip (l.drop o)

theorem skip_yes (s : ByteArray) (k : Nat) (h : k < s.size) (hw : ws s[k].toNat = true) : spEnd s.data.toList (k + 1) = spEnd s.data.toList k := by
  unfold spEnd
  rw [drop_at s k h]; simp [skip, hw]; omega
theorem skip_no (s : ByteArray) (k : Nat) (h : k < s.size) (hw : ws s[k].toNat = false) : spEnd s.data.toList k = k := by
  unfold spEnd
  rw [drop_at s k h]; simp [skip, hw]
theorem skip_end (s : ByteArray) (k : Nat) (h : ¬ k < s.size) : spEnd s.data.toList k = k := by
  unfold spEnd
  rw [List.drop_eq_nil_of_le (by rw [data_len]; omega)]; rfl

set_option maxHeartbeats 400000 in
theorem spaceEnd_any (b o : Nat) (s : ByteArray) (w : World) (hs : s.size ≤ 1024) (ho : o ≤ s.size + 1) (hc : w.cell? ⟨b, 1, none⟩ = some (.string s)) :
    Calls Yba.prog 9 #[.pointer (some ⟨b, 0, none⟩), .int .i64 o] w fun e w' => e = .returned (.int .i64 (spEnd s.data.toList o : Int)) ∧ w' = w := by
  go_enter Yba.func9, Yba.ntmps9
  go_wp2
  go_loop [1] (fun i => ∃ k : Nat, k ≤ s.size + 1 ∧ i = .int .i64 k ∧ Hid (spEnd s.data.toList k = spEnd s.data.toList o)) (fun i => s.size - (intOf i).toNat)
  case atStart => exact ⟨o, ho, rfl, rfl⟩
  case round =>
    obtain ⟨k, hk, rfl, Ha⟩ := hrel
    by_cases hlt : k < s.size
    · have hby : (s[k].toNat : Int) ≤ 255 := by have := s[k].toNat_lt; omega
      by_cases hw : ws s[k].toNat = true
      · have HN : Hid (spEnd s.data.toList (k + 1) = spEnd s.data.toList o) := (skip_yes s k hlt hw).trans Ha.out
        go_wp2_with (go_at_call 17; refine (isWhitespace_any _ _).mono ?_; rintro e w' ⟨rfl, rfl⟩)
        go_round
        case rel => exact ⟨k + 1, by omega, by go_num, HN⟩
        case measure => simp [intOf]; omega
      · have hw' : ws s[k].toNat = false := by simpa using hw
        clear hw
        have HN : Hid (k = spEnd s.data.toList o) := (skip_no s k hlt hw').symm.trans Ha.out
        go_wp2_with (go_at_call 17; refine (isWhitespace_any _ _).mono ?_; rintro e w' ⟨rfl, rfl⟩)
        go_ret
        exact ⟨ret_int' (by rw [HN.out]), rfl⟩
    · have HN : Hid (k = spEnd s.data.toList o) := (skip_end s k hlt).symm.trans Ha.out
      go_wp2
      go_ret
      exact ⟨ret_int' (by rw [HN.out]), rfl⟩

theorem ws_no {n : Nat} (a : ¬ (n : Int) = 32) (b : ¬ (n : Int) = 9) (c : ¬ (n : Int) = 10) (d : ¬ (n : Int) = 13) : ws n = false := by simp [ws]; omega

set_option maxHeartbeats 400000 in
theorem amodel_any (o : Nat) (s : ByteArray) (w : World) (hs : s.size ≤ 1024) (ho : o ≤ s.size + 1) :
    Calls Yba.prog 10 #[.string s, .int .i64 o] w fun e w' => e = .returned (.int .i64 (spEnd s.data.toList o : Int)) ∧ w' = w := by
  go_enter Yba.func10, Yba.ntmps10
  go_wp2
  go_loop [5] (fun i => ∃ k : Nat, k ≤ s.size + 1 ∧ i = .int .i64 k ∧ Hid (spEnd s.data.toList k = spEnd s.data.toList o)) (fun i => s.size - (intOf i).toNat)
  case atStart => exact ⟨o, ho, rfl, rfl⟩
  case round =>
    obtain ⟨k, hk, rfl, Ha⟩ := hrel
    by_cases hlt : k < s.size
    · by_cases c1 : (s[k].toNat : Int) = 32
      · have HN : Hid (spEnd s.data.toList (k + 1) = spEnd s.data.toList o) := (skip_yes s k hlt (by simp [ws]; omega)).trans Ha.out
        have c1' : ((s[k].toNat : Int) != 32) = false := by simp [c1]
        clear c1
        go_wp2
        go_round
        case rel => exact ⟨k + 1, by omega, by go_num, HN⟩
        case measure => simp [intOf]; omega
      have c1' : ((s[k].toNat : Int) != 32) = true := by simp [c1]
      by_cases c2 : (s[k].toNat : Int) = 9
      · have HN : Hid (spEnd s.data.toList (k + 1) = spEnd s.data.toList o) := (skip_yes s k hlt (by simp [ws]; omega)).trans Ha.out
        have c2' : ((s[k].toNat : Int) != 9) = false := by simp [c2]
        clear c1 c2
        go_wp2
        go_round
        case rel => exact ⟨k + 1, by omega, by go_num, HN⟩
        case measure => simp [intOf]; omega
      have c2' : ((s[k].toNat : Int) != 9) = true := by simp [c2]
      by_cases c3 : (s[k].toNat : Int) = 10
      · have HN : Hid (spEnd s.data.toList (k + 1) = spEnd s.data.toList o) := (skip_yes s k hlt (by simp [ws]; omega)).trans Ha.out
        have c3' : ((s[k].toNat : Int) != 10) = false := by simp [c3]
        clear c1 c2 c3
        go_wp2
        go_round
        case rel => exact ⟨k + 1, by omega, by go_num, HN⟩
        case measure => simp [intOf]; omega
      have c3' : ((s[k].toNat : Int) != 10) = true := by simp [c3]
      by_cases c4 : (s[k].toNat : Int) = 13
      · have HN : Hid (spEnd s.data.toList (k + 1) = spEnd s.data.toList o) := (skip_yes s k hlt (by simp [ws]; omega)).trans Ha.out
        have c4' : ((s[k].toNat : Int) != 13) = false := by simp [c4]
        clear c1 c2 c3 c4
        go_wp2
        go_round
        case rel => exact ⟨k + 1, by omega, by go_num, HN⟩
        case measure => simp [intOf]; omega
      have c4' : ((s[k].toNat : Int) != 13) = true := by simp [c4]
      have HN : Hid (k = spEnd s.data.toList o) := (skip_no s k hlt (ws_no c1 c2 c3 c4)).symm.trans Ha.out
      clear c1 c2 c3 c4
      go_wp2
      go_ret
      exact ⟨ret_int' (by rw [HN.out]), rfl⟩
    · have HN : Hid (k = spEnd s.data.toList o) := (skip_end s k hlt).symm.trans Ha.out
      go_wp2
      go_ret
      exact ⟨ret_int' (by rw [HN.out]), rfl⟩

set_option maxHeartbeats 400000 in
theorem aws_any (n : Nat) (w : World) :
    Calls Yba.prog 11 #[.int .u8 n] w fun e w' => e = .returned (.bool (ws n)) ∧ w' = w := by
  by_cases c1 : (n : Int) = 32
  · have HN : Hid (ws n = true) := by show ws n = true; simp [ws]; omega
    have c1' : ((n : Int) == 32) = true := by simp [c1]
    clear c1
    go_enter Yba.func11, Yba.ntmps11
    go_wp2
    go_ret
    exact ⟨ret_bool' HN.out.symm, rfl⟩
  have c1' : ((n : Int) == 32) = false := by simp [c1]
  by_cases c2 : (n : Int) = 9
  · have HN : Hid (ws n = true) := by show ws n = true; simp [ws]; omega
    have c2' : ((n : Int) == 9) = true := by simp [c2]
    clear c1 c2
    go_enter Yba.func11, Yba.ntmps11
    go_wp2
    go_ret
    exact ⟨ret_bool' HN.out.symm, rfl⟩
  have c2' : ((n : Int) == 9) = false := by simp [c2]
  by_cases c3 : (n : Int) = 10
  · have HN : Hid (ws n = true) := by show ws n = true; simp [ws]; omega
    have c3' : ((n : Int) == 10) = true := by simp [c3]
    clear c1 c2 c3
    go_enter Yba.func11, Yba.ntmps11
    go_wp2
    go_ret
    exact ⟨ret_bool' HN.out.symm, rfl⟩
  have c3' : ((n : Int) == 10) = false := by simp [c3]
  by_cases c4 : (n : Int) = 13
  · have HN : Hid (ws n = true) := by show ws n = true; simp [ws]; omega
    have c4' : ((n : Int) == 13) = true := by simp [c4]
    clear c1 c2 c3 c4
    go_enter Yba.func11, Yba.ntmps11
    go_wp2
    go_ret
    exact ⟨ret_bool' HN.out.symm, rfl⟩
  have c4' : ((n : Int) == 13) = false := by simp [c4]
  have HN : Hid (ws n = false) := ws_no c1 c2 c3 c4
  clear c1 c2 c3 c4
  go_enter Yba.func11, Yba.ntmps11
  go_wp2
  go_ret
  exact ⟨ret_bool' HN.out.symm, rfl⟩

end Go.Proofs.Ybulkcdes
