/-
  THE PLAIN LAWS OF SEAT b3970a: no Go in sight. Bytes are a list.
-/
import Derived.WalkKit
namespace Go.Proofs.Ybulkcdes.Plain

/-! ### isInteger -/
/-- A decimal digit. -/
def dg (c : UInt8) : Bool := decide (48 ≤ c.toNat) && decide (c.toNat ≤ 57)
/-- A sign. -/
def sg (c : UInt8) : Bool := c.toNat == 43 || c.toNat == 45
/-- Digits alone, at least one. -/
def digs (l : List UInt8) : Bool := l.all dg && !l.isEmpty
/-- What isInteger computes. -/
def isInt : List UInt8 → Bool
  | [] => false
  | c :: r => if sg c then digs r else digs (c :: r)

/-- The state machine: from a state (0, 1, 2), the answer. -/
def mach (st : Nat) : List UInt8 → Bool
  | [] => st == 2
  | c :: r => if dg c then mach 2 r else if sg c && st == 0 then mach 1 r else false

theorem dg_not_sg (c : UInt8) (h : dg c = true) : sg c = false := by
  simp [dg, sg] at h ⊢
  omega

theorem mach_two (l : List UInt8) : mach 2 l = l.all dg := by
  induction l with
  | nil => rfl
  | cons c r ih => simp only [mach, List.all_cons, ih]; cases dg c <;> simp

theorem mach_one (l : List UInt8) : mach 1 l = digs l := by
  cases l with
  | nil => rfl
  | cons c r => simp only [mach, mach_two, digs, List.all_cons]; cases dg c <;> simp

theorem mach_zero (l : List UInt8) : mach 0 l = isInt l := by
  cases l with
  | nil => rfl
  | cons c r =>
    simp only [mach, mach_two, mach_one, isInt]
    by_cases hd : dg c = true
    · simp [hd, dg_not_sg c hd, digs]
    · simp only [Bool.not_eq_true] at hd
      cases hs : sg c <;> simp [hd, digs]

theorem isInt_sign (c : UInt8) (r : List UInt8) (h : sg c = true) : isInt (c :: r) = digs r := by simp [isInt, h]
theorem isInt_plain (l : List UInt8) (h : ∀ c r, l = c :: r → sg c = false) : isInt l = digs l := by
  cases l with
  | nil => rfl
  | cons c r => simp [isInt, h c r rfl]

/-! ### From a string to its bytes -/
theorem data_extract (s : ByteArray) (a b : Nat) : (s.extract a b).data.toList = (s.data.toList.drop a).take (b - a) := by
  obtain ⟨⟨l⟩⟩ := s
  rw [ByteArray.extract_mk]

theorem data_length (s : ByteArray) : s.data.toList.length = s.size := by
  rw [Array.length_toList]; rfl

theorem empty_of_size (s : ByteArray) : s.toList.isEmpty = decide (s.size = 0) := by
  rw [ByteArray.toList_eq, ← data_length]
  cases s.data.toList <;> simp

theorem data_cons (s : ByteArray) (h : 0 < s.size) : s.data.toList = s[0] :: (s.extract 1 s.size).data.toList := by
  rw [data_extract]
  obtain ⟨⟨l⟩⟩ := s
  cases l with
  | nil => exact absurd h (Nat.lt_irrefl 0)
  | cons c r =>
    show c :: r = c :: (r.take (r.length + 1 - 1))
    rw [List.take_of_length_le (by omega)]

theorem data_at (s : ByteArray) (k : Nat) (h : k < s.size) : s.data.toList[k]'(by rw [data_length]; exact h) = s[k] := rfl

theorem take_snoc (s : ByteArray) (k : Nat) (h : k < s.size) : s.data.toList.take (k + 1) = s.data.toList.take k ++ [s[k]] := by
  rw [List.take_succ_eq_append_getElem (by rw [data_length]; exact h)]; rfl

theorem all_snoc (s : ByteArray) (k : Nat) (h : k < s.size) (ha : (s.data.toList.take k).all dg = true) (hd : dg s[k] = true) : (s.data.toList.take (k + 1)).all dg = true := by
  rw [take_snoc s k h, List.all_append, ha]
  simp [hd]

theorem digs_miss (s : ByteArray) (k : Nat) (h : k < s.size) (hd : dg s[k] = false) : digs s.data.toList = false := by
  have hm : s[k] ∈ s.data.toList := by rw [← data_at s k h]; exact List.getElem_mem _
  have : s.data.toList.all dg = false := by
    rw [List.all_eq_false]
    exact ⟨_, hm, by simp [hd]⟩
  simp [digs, this]

theorem digs_all (s : ByteArray) (k : Nat) (h : ¬ k < s.size) (ha : (s.data.toList.take k).all dg = true) : digs s.data.toList = !s.toList.isEmpty := by
  rw [List.take_of_length_le (by rw [data_length]; omega)] at ha
  rw [ByteArray.toList_eq]
  simp [digs, ha]

theorem dg_lo (c : UInt8) (h : (c.toNat : Int) < 48) : dg c = false := by simp [dg]; omega
theorem dg_hi (c : UInt8) (h : (57 : Int) < (c.toNat : Int)) : dg c = false := by simp [dg]; omega
theorem dg_in (c : UInt8) (h1 : (48 : Int) ≤ (c.toNat : Int)) (h2 : (c.toNat : Int) ≤ 57) : dg c = true := by simp [dg]; omega
theorem dg_out (c : UInt8) (h : ¬ ((48 : Int) ≤ (c.toNat : Int) ∧ (c.toNat : Int) ≤ 57)) : dg c = false := by simp [dg]; omega

theorem drop_cons (s : ByteArray) (k : Nat) (h : k < s.size) : s.data.toList.drop k = s[k] :: s.data.toList.drop (k + 1) := by
  rw [← data_at s k h]; exact List.drop_eq_getElem_cons _

end Go.Proofs.Ybulkcdes.Plain
