/-
  THE WALK OF 'LawS3970AMatchesModel' (3).
-/
import Derived.Test.YbulkcdesSpace
import Derived.OpenShut
namespace Go.Proofs.Ybulkcdes
open Go.RowKit

set_option maxHeartbeats 400000 in
theorem match_any (a0 : ByteArray) (a1 : Int) (w1 : (Lit.int .u32 a1).wf = true) (w : World) :
    Calls Yba.prog 3 #[.string a0, .int .u32 a1] w fun e w' => e = .returned (.bool true) ∧ Grown w w' := by
  obtain ⟨g0, g1⟩ := bounds_u32 w1
  clear w1
  by_cases hl : a0.size ≤ 1024
  · have hl' : (a0.size : Int) ≤ 1024 := by omega
    obtain ⟨q, hq⟩ : ∃ q : Nat, a1 % ((a0.size : Int) + 2) = (q : Int) := ⟨(a1 % ((a0.size : Int) + 2)).toNat, (Int.toNat_of_nonneg (Int.emod_nonneg _ (by omega))).symm⟩
    have hq1 : q ≤ a0.size + 1 := by have := Int.emod_lt_of_pos a1 (show (0 : Int) < (a0.size : Int) + 2 by omega); omega
    go_enter Yba.func3, Yba.ntmps3
    go_wp2_with fail
    refine (spaceEnd_any w.heap.size q a0 _ hl hq1 ?hc).mono ?_
    case hc => simp
    rintro e w2 ⟨rfl, rfl⟩
    go_wp2_with fail
    refine (amodel_any q a0 _ hl hq1).mono ?_
    rintro e w2 ⟨rfl, rfl⟩
    go_wp2_with fail
    go_ret
    exact ⟨rfl, (Grown.refl _).alloc _ _⟩
  · have hl' : (1024 : Int) < (a0.size : Int) := by omega
    go_enter Yba.func3, Yba.ntmps3
    go_wp2
    go_ret
    exact ⟨rfl, Grown.refl _⟩

end Go.Proofs.Ybulkcdes
