/-
  THE WALKS OF 'LawS3970BExact' (5) AND 'LawS3970BSkipsMark' (6).
-/
import Derived.Test.YbulkcdesMark
import Derived.OpenShut
namespace Go.Proofs.Ybulkcdes.Mark
open Go.RowKit

theorem start_bounds (s : ByteArray) : 0 ≤ start s.data.toList ∧ start s.data.toList ≤ (s.size : Int) := by
  unfold start
  cases hm : marked s.data.toList
  · simp
  · have := marked_long s hm
    simp; omega

set_option maxHeartbeats 400000 in
theorem exact_any (a0 : Int) (a1 : ByteArray) (w0 : (Lit.int .u8 a0).wf = true) (w : World) :
    Calls Yba.prog 5 #[.int .u8 a0, .string a1] w fun e w' => e = .returned (.bool true) ∧ Grown w w' := by
  obtain ⟨g0, g1⟩ := bounds_u8 w0
  clear w0
  by_cases hl : a1.size ≤ 4096
  · have hl' : (a1.size : Int) ≤ 4096 := by omega
    go_enter Yba.func5, Yba.ntmps5
    go_wp2_with fail
    refine (bprefix_any a0 _ g0 g1).mono ?_
    rintro e w2 ⟨p, hp, rfl, rfl⟩
    obtain ⟨b0, b1⟩ := start_bounds (p ++ a1)
    rw [ByteArray.size_append] at b1
    obtain ⟨r, hr⟩ : ∃ r, start (p ++ a1).data.toList = r := ⟨_, rfl⟩
    rw [hr] at b0 b1
    have b1' : r ≤ (p.size : Int) + (a1.size : Int) := by omega
    have HR : Hid (start (p ++ a1).data.toList = r) := hr
    clear hr b1
    go_wp2_with fail
    refine (textStart_any (p ++ a1) _).mono ?_
    rintro e w3 ⟨rfl, rfl⟩
    rw [HR.out]
    go_wp2_with fail
    refine (bmodel_any (p ++ a1) _).mono ?_
    rintro e w3 ⟨rfl, rfl⟩
    rw [HR.out]
    go_wp2_with fail
    go_ret
    exact ⟨rfl, Grown.refl _⟩
  · have hl' : (4096 : Int) < (a1.size : Int) := by omega
    go_enter Yba.func5, Yba.ntmps5
    go_wp2
    go_ret
    exact ⟨rfl, Grown.refl _⟩

theorem start_marked (a : ByteArray) : start ((⟨#[239, 187, 191]⟩ : ByteArray) ++ a).data.toList = 3 := by
  rw [ByteArray.data_append, Array.toList_append]
  rfl

theorem start_other (s : ByteArray) (h : 0 < s.size) (c : ¬ (s[0].toNat : Int) = 239) : start s.data.toList = 0 := by
  by_cases h3 : 3 ≤ s.size
  · rw [start, marked_bytes s h3, if_neg]; simp; omega
  · rw [start, marked_short s h3]; rfl

theorem extract_marked (a : ByteArray) : ((((⟨#[239, 187, 191]⟩ : ByteArray) ++ a).extract 3 (3 + a.size)).toList == a.toList) = true := by
  rw [ByteArray.toList_eq, ByteArray.toList_eq, extract_data, ByteArray.data_append, Array.toList_append, beq_iff_eq]
  show List.take (3 + a.size - 3) a.data.toList = _
  exact List.take_of_length_le (by rw [data_len]; omega)

set_option maxHeartbeats 400000 in
theorem skips_any (a0 : ByteArray) (w : World) :
    Calls Yba.prog 6 #[.string a0] w fun e w' => e = .returned (.bool true) ∧ Grown w w' := by
  by_cases hl : a0.size ≤ 4096
  · have hl' : (a0.size : Int) ≤ 4096 := by omega
    have HS : Hid (start ((⟨#[239, 187, 191]⟩ : ByteArray) ++ a0).data.toList = 3) := start_marked a0
    have hex := extract_marked a0
    by_cases hz : a0.size = 0
    · have H0 : Hid (start a0.data.toList = 0) := by
        show start a0.data.toList = 0
        rw [start, marked_short a0 (by omega)]; rfl
      have hz' : ((a0.size : Int) == 0) = true := by simp [hz]
      clear hz
      go_enter Yba.func6, Yba.ntmps6
      go_wp2_with fail
      refine (textStart_any _ _).mono ?_
      rintro e w3 ⟨rfl, rfl⟩
      rw [HS.out]
      go_wp2_with fail
      refine (textStart_any _ _).mono ?_
      rintro e w4 ⟨rfl, rfl⟩
      rw [H0.out]
      go_wp2_with fail
      go_ret
      exact ⟨rfl, Grown.refl _⟩
    · have hp : 0 < a0.size := by omega
      have hz' : ((a0.size : Int) == 0) = false := by simp; intro h; rw [h] at hz; exact hz rfl
      by_cases c : (a0[0].toNat : Int) = 239
      · have c' : ((a0[0].toNat : Int) != 239) = false := by simp [c]
        clear c hz
        go_enter Yba.func6, Yba.ntmps6
        go_wp2_with fail
        refine (textStart_any _ _).mono ?_
        rintro e w3 ⟨rfl, rfl⟩
        rw [HS.out]
        go_wp2_with fail
        go_ret
        exact ⟨rfl, Grown.refl _⟩
      · have H0 : Hid (start a0.data.toList = 0) := start_other a0 hp c
        have c' : ((a0[0].toNat : Int) != 239) = true := by simp [c]
        clear c hz
        go_enter Yba.func6, Yba.ntmps6
        go_wp2_with fail
        refine (textStart_any _ _).mono ?_
        rintro e w3 ⟨rfl, rfl⟩
        rw [HS.out]
        go_wp2_with fail
        refine (textStart_any _ _).mono ?_
        rintro e w4 ⟨rfl, rfl⟩
        rw [H0.out]
        go_wp2_with fail
        go_ret
        exact ⟨rfl, Grown.refl _⟩
  · have hl' : (4096 : Int) < (a0.size : Int) := by omega
    go_enter Yba.func6, Yba.ntmps6
    go_wp2
    go_ret
    exact ⟨rfl, Grown.refl _⟩

end Go.Proofs.Ybulkcdes.Mark
