/-
  THE WALKS OF 'strings.HasPrefix' (18, 19), 'textStart' (13), 'zzs3970bmodel' (14), 'zzs3970bprefix' (12).
-/
import Derived.Test.YbulkcdesRows
import Derived.WalkKit
import Derived.WalkSpells
import Derived.WalkLawsBesides
namespace Go.Proofs.Ybulkcdes.Mark
open Go.RowKit

theorem ret_bool {a b : Bool} (h : a = b) : Ending.returned (.bool a) = .returned (.bool b) := by rw [h]
theorem ret_int {k : IntKind} {a b : Int} (h : a = b) : Ending.returned (.int k a) = .returned (.int k b) := by rw [h]

/-- The byte-order mark. -/
def bom : ByteArray := ⟨#[239, 187, 191]⟩
/-- Does a text begin with it? -/
def marked (l : List UInt8) : Bool := [239, 187, 191].isPrefixOf l
/-- Where a text begins. -/
def start (l : List UInt8) : Int := if marked l then 3 else 0

theorem data_len (s : ByteArray) : s.data.toList.length = s.size := by
  rw [Array.length_toList]; rfl

theorem extract_data (s : ByteArray) (a b : Nat) : (s.extract a b).data.toList = (s.data.toList.drop a).take (b - a) := by
  obtain ⟨⟨l⟩⟩ := s
  rw [ByteArray.extract_mk]

theorem marked_take (l : List UInt8) : marked l = (decide (3 ≤ l.length) && (l.take 3 == [239, 187, 191])) := by
  match l with
  | [] => rfl
  | [a] => simp [marked, List.isPrefixOf]
  | [a, b] => simp [marked, List.isPrefixOf]
  | a :: b :: c :: r =>
    rw [Bool.eq_iff_iff]
    simp [marked, List.isPrefixOf]
    constructor
    · rintro ⟨rfl, rfl, rfl⟩; exact ⟨rfl, rfl, rfl⟩
    · rintro ⟨rfl, rfl, rfl⟩; exact ⟨rfl, rfl, rfl⟩

theorem marked_bytes (s : ByteArray) (h : 3 ≤ s.size) : marked s.data.toList = (s[0].toNat == 239 && s[1].toNat == 187 && s[2].toNat == 191) := by
  obtain ⟨⟨l⟩⟩ := s
  match l, h with
  | a :: b :: c :: r, _ =>
    show marked (a :: b :: c :: r) = (a.toNat == 239 && b.toNat == 187 && c.toNat == 191)
    have e (x : UInt8) (n : Nat) (y : UInt8) (h : y.toNat = n) : (y == x) = (x.toNat == n) := by
      rw [Bool.eq_iff_iff, ← h]
      simp
      exact ⟨fun q => q ▸ rfl, fun q => (UInt8.toNat_inj.1 q).symm⟩
    simp only [marked, List.isPrefixOf, e a 239 239 rfl, e b 187 187 rfl, e c 191 191 rfl, Bool.and_true, Bool.and_assoc]
  | [], h => exact absurd h (by show ¬ 3 ≤ 0; omega)
  | [a], h => exact absurd h (by show ¬ 3 ≤ 1; omega)
  | [a, b], h => exact absurd h (by show ¬ 3 ≤ 2; omega)

theorem marked_short (s : ByteArray) (h : ¬ 3 ≤ s.size) : marked s.data.toList = false := by
  rw [marked_take, data_len]; simp [h]

theorem marked_long (s : ByteArray) (h : marked s.data.toList = true) : 3 ≤ s.size := by
  by_cases h3 : 3 ≤ s.size
  · exact h3
  · rw [marked_short s h3] at h; cases h

set_option maxHeartbeats 400000 in
theorem prefix19 (s p : ByteArray) (w : World) :
    Calls Yba.prog 19 #[.string s, .string p] w fun e w' => e = .returned (.bool (decide (p.size ≤ s.size) && ((s.extract 0 p.size).toList == p.toList))) ∧ w' = w := by
  by_cases h : p.size ≤ s.size
  · go_enter Yba.func19, Yba.ntmps19
    go_wp2
    go_ret
    exact ⟨ret_bool (by simp [h]), rfl⟩
  · go_enter Yba.func19, Yba.ntmps19
    go_wp2
    go_ret
    exact ⟨ret_bool (by simp [h]), rfl⟩

set_option maxHeartbeats 400000 in
theorem prefix18 (s p : ByteArray) (w : World) :
    Calls Yba.prog 18 #[.string s, .string p] w fun e w' => e = .returned (.bool (decide (p.size ≤ s.size) && ((s.extract 0 p.size).toList == p.toList))) ∧ w' = w := by
  have H : ∀ v, Calls Yba.prog 19 #[.string s, .string p] v fun e w' => e = .returned (.bool (decide (p.size ≤ s.size) && ((s.extract 0 p.size).toList == p.toList))) ∧ w' = v := prefix19 s p
  generalize (decide (p.size ≤ s.size) && ((s.extract 0 p.size).toList == p.toList)) = b at H ⊢
  have H' := H w
  have HH : Hid (Calls Yba.prog 19 #[.string s, .string p] w fun e w' => e = .returned (.bool b) ∧ w' = w) := H'
  clear H H'
  go_enter Yba.func18, Yba.ntmps18
  go_wp2_with fail
  refine HH.out.mono ?_
  rintro e w2 ⟨rfl, rfl⟩
  go_wp2_with fail
  go_ret
  exact ⟨rfl, rfl⟩

theorem marked_raw (s : ByteArray) : (decide (bom.size ≤ s.size) && ((s.extract 0 bom.size).toList == bom.toList)) = marked s.data.toList := by
  rw [marked_take, ByteArray.toList_eq, ByteArray.toList_eq, extract_data, data_len]
  rfl

set_option maxHeartbeats 400000 in
theorem textStart_any (s : ByteArray) (w : World) :
    Calls Yba.prog 13 #[.string s] w fun e w' => e = .returned (.int .i64 (start s.data.toList)) ∧ w' = w := by
  have HR : Hid ((decide (bom.size ≤ s.size) && ((s.extract 0 bom.size).toList == bom.toList)) = marked s.data.toList) := marked_raw s
  have HS : Hid (start s.data.toList = if marked s.data.toList = true then 3 else 0) := rfl
  generalize start s.data.toList = r at *
  go_enter Yba.func13, Yba.ntmps13
  go_wp2_with fail
  refine (prefix18 s bom _).mono ?_
  rintro e w2 ⟨rfl, rfl⟩
  rw [HR.out]
  cases hm : marked s.data.toList
  · have hr : r = 0 := by rw [HS.out, hm]; rfl
    subst hr
    go_wp2_with fail
    go_ret
    exact ⟨rfl, rfl⟩
  · have hr : r = 3 := by rw [HS.out, hm]; rfl
    subst hr
    go_wp2_with fail
    go_ret
    exact ⟨rfl, rfl⟩

set_option maxHeartbeats 400000 in
theorem bmodel_any (s : ByteArray) (w : World) :
    Calls Yba.prog 14 #[.string s] w fun e w' => e = .returned (.int .i64 (start s.data.toList)) ∧ w' = w := by
  by_cases h3 : 3 ≤ s.size
  · have hm := marked_bytes s h3
    have h3' : (3 : Int) ≤ (s.size : Int) := by omega
    have i0 : 0 < s.size := by omega
    have i1 : 1 < s.size := by omega
    have i2 : 2 < s.size := by omega
    by_cases c0 : (s[0].toNat : Int) = 239
    · have c0' : ((s[0].toNat : Int) == 239) = true := by simp [c0]
      by_cases c1 : (s[1].toNat : Int) = 187
      · have c1' : ((s[1].toNat : Int) == 187) = true := by simp [c1]
        by_cases c2 : (s[2].toNat : Int) = 191
        · have c2' : ((s[2].toNat : Int) == 191) = true := by simp [c2]
          have HS : Hid (start s.data.toList = 3) := by
            show start s.data.toList = 3
            rw [start, hm, if_pos]; simp; omega
          clear hm c0 c1 c2
          go_enter Yba.func14, Yba.ntmps14
          go_wp2
          go_ret
          exact ⟨ret_int HS.out.symm, rfl⟩
        · have c2' : ((s[2].toNat : Int) == 191) = false := by simp [c2]
          have HS : Hid (start s.data.toList = 0) := by
            show start s.data.toList = 0
            rw [start, hm, if_neg]; simp; omega
          clear hm c0 c1 c2
          go_enter Yba.func14, Yba.ntmps14
          go_wp2
          go_ret
          exact ⟨ret_int HS.out.symm, rfl⟩
      · have c1' : ((s[1].toNat : Int) == 187) = false := by simp [c1]
        have HS : Hid (start s.data.toList = 0) := by
          show start s.data.toList = 0
          rw [start, hm, if_neg]; simp; omega
        clear hm c0 c1
        go_enter Yba.func14, Yba.ntmps14
        go_wp2
        go_ret
        exact ⟨ret_int HS.out.symm, rfl⟩
    · have c0' : ((s[0].toNat : Int) == 239) = false := by simp [c0]
      have HS : Hid (start s.data.toList = 0) := by
        show start s.data.toList = 0
        rw [start, hm, if_neg]; simp; omega
      clear hm c0
      go_enter Yba.func14, Yba.ntmps14
      go_wp2
      go_ret
      exact ⟨ret_int HS.out.symm, rfl⟩
  · have HS : Hid (start s.data.toList = 0) := by
      show start s.data.toList = 0
      rw [start, marked_short s h3]; rfl
    have h3' : ¬ (3 : Int) ≤ (s.size : Int) := by omega
    clear h3
    go_enter Yba.func14, Yba.ntmps14
    go_wp2
    go_ret
    exact ⟨ret_int HS.out.symm, rfl⟩

set_option maxHeartbeats 400000 in
theorem bprefix_any (k : Int) (w : World) (h0 : 0 ≤ k) (h1 : k ≤ 255) :
    Calls Yba.prog 12 #[.int .u8 k] w fun e w' => ∃ p : ByteArray, p.size ≤ 6 ∧ e = .returned (.string p) ∧ w' = w := by
  go_enter Yba.func12, Yba.ntmps12
  go_wp2
  all_goals
    go_ret
    exact ⟨_, by decide, rfl, rfl⟩

end Go.Proofs.Ybulkcdes.Mark
