/-
  THE PLAIN LAWS OF 'LawS3970CBuilt': no Go in sight.
-/
import Derived.Test.YbulkcdesPlain
namespace Go.Proofs.Ybulkcdes.Plain

/-! ### CBuilt -/
theorem data_append (a b : ByteArray) : (a ++ b).data.toList = a.data.toList ++ b.data.toList := by
  rw [ByteArray.data_append, Array.toList_append]

/-- The three prefixes. -/
def Pre (p : List UInt8) : Prop := p = [] ∨ p = [43] ∨ p = [45]

theorem isInt_digits (p l : List UInt8) (hp : Pre p) (hl : l.all dg = true) : isInt (p ++ l) = !l.isEmpty := by
  rcases hp with rfl | rfl | rfl
  · rw [List.nil_append, isInt_plain]
    · simp [digs, hl]
    · intro c r e
      subst e
      exact dg_not_sg c (by simp at hl; exact hl.1)
  · rw [List.singleton_append, isInt_sign _ _ rfl]
    simp [digs, hl]
  · rw [List.singleton_append, isInt_sign _ _ rfl]
    simp [digs, hl]

theorem isInt_spoilt (p a c : List UInt8) (b : UInt8) (hp : Pre p) (ha : a.all dg = true) (hd : dg b = false) (hs : sg b = false) : isInt (p ++ (a ++ [b] ++ c)) = false := by
  have hn : digs (a ++ [b] ++ c) = false := by simp [digs, hd]
  rcases hp with rfl | rfl | rfl
  · rw [List.nil_append, isInt_plain, hn]
    intro x r e
    cases a with
    | nil =>
      simp at e
      rw [← e.1]; exact hs
    | cons y q =>
      simp at e ha
      rw [← e.1]; exact dg_not_sg y ha.1
  · rw [List.singleton_append, isInt_sign _ _ rfl, hn]
  · rw [List.singleton_append, isInt_sign _ _ rfl, hn]

/-- The digit that the law makes of a number. -/
def dgt (n : Int) : Int := 48 + n % 10

theorem dgt_in (n : Int) : 48 ≤ dgt n ∧ dgt n ≤ 57 := by unfold dgt; omega

/-- The law's body behind k rounds: k digits, the rest nought. -/
def row (z : List Int) (k : Nat) : List Int := (z.take k).map dgt ++ List.replicate (z.length - k) 0

theorem row_zero (z : List Int) : row z 0 = List.replicate z.length 0 := by simp [row]
theorem row_full (z : List Int) (k : Nat) (h : z.length ≤ k) : row z k = z.map dgt := by
  simp [row, List.take_of_length_le h, Nat.sub_eq_zero_of_le h]
theorem row_length (z : List Int) (k : Nat) (h : k ≤ z.length) : (row z k).length = z.length := by simp [row]; omega
theorem row_step (z : List Int) (k : Nat) (h : k < z.length) : (row z k).set k (dgt (z.getD k 0)) = row z (k + 1) := by
  apply List.ext_getElem?
  intro j
  have hl : (List.map dgt (z.take k)).length = k := by simp; omega
  by_cases hj : j < z.length
  · rw [List.getElem?_set]
    by_cases e : k = j
    · subst e
      rw [if_pos rfl, if_pos (by rw [row_length z k (by omega)]; exact hj)]
      have h2 : (row z (k + 1))[k]? = ((z.take (k + 1)).map dgt)[k]? := by
        unfold row; rw [List.getElem?_append_left (by simp; omega)]
      rw [h2]
      simp [List.getD, hj]
    · rw [if_neg e]
      by_cases lt : j < k
      · have h1 : (row z k)[j]? = ((z.take k).map dgt)[j]? := by unfold row; rw [List.getElem?_append_left (by simp; omega)]
        have h2 : (row z (k + 1))[j]? = ((z.take (k + 1)).map dgt)[j]? := by unfold row; rw [List.getElem?_append_left (by simp; omega)]
        rw [h1, h2]
        simp [lt, show j < k + 1 by omega]
      · have h1 : (row z k)[j]? = some 0 := by
          unfold row; rw [List.getElem?_append_right (by simp; omega), List.getElem?_replicate, if_pos (by simp; omega)]
        have h2 : (row z (k + 1))[j]? = some 0 := by
          unfold row; rw [List.getElem?_append_right (by simp; omega), List.getElem?_replicate, if_pos (by simp; omega)]
        rw [h1, h2]
  · rw [List.getElem?_eq_none (by rw [List.length_set, row_length z k (by omega)]; omega), List.getElem?_eq_none (by rw [row_length z (k + 1) (by omega)]; omega)]

theorem byte_dg (n : Int) (h : 48 ≤ n ∧ n ≤ 57) : dg (UInt8.ofNat n.toNat) = true := by
  have e : (UInt8.ofNat n.toNat).toNat = n.toNat := by
    rw [UInt8.toNat_ofNat']; exact Nat.mod_eq_of_lt (by omega)
  simp [dg, e]; omega

theorem bytes_dg (z : List Int) : ((z.map dgt).map fun n => UInt8.ofNat n.toNat).all dg = true := by
  rw [List.all_eq_true]
  intro x hx
  simp only [List.mem_map] at hx
  obtain ⟨y, ⟨q, _, rfl⟩, rfl⟩ := hx
  exact byte_dg _ (dgt_in q)

end Go.Proofs.Ybulkcdes.Plain
