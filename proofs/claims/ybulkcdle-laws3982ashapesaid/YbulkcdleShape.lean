/-
  THE WALK OF 'LawS3982AShape' (3).
-/
import Derived.Test.YbulkcdleRows
import Derived.WalkKit
import Derived.WalkSpells
import Derived.WalkLawsBesides
import Derived.OpenShut
import Derived.LaidEql
namespace Go.Proofs.Ybulkcdle
open Go.RowKit

theorem comp22 : (Yba.prog.info? 22).map (fun i => i.comparable) = some true := by kernel_rfl
theorem some25 : (Yba.prog.info? 25).isSome = true := by kernel_rfl

/-- 'b.r == io.Reader(rd)', both the law's own reader: one. -/
theorem reader_same (a : Addr) (w : World) : (binOp .eql 35 (.iface 22 (.pointer (some a))) (.iface 22 (.pointer (some a)))).run Yba.prog w = .ok (.bool true) w := by
  obtain ⟨i, hi, hc⟩ := Option.map_eq_some_iff.1 comp22
  obtain ⟨j, hj⟩ := Option.isSome_iff_exists.1 some25
  exact run_eql_iface_ptr_same w a Yba.underlying35 Yba.underlying22 hi hc hj

theorem some28 : (Yba.prog.info? 28).isSome = true := by kernel_rfl

/-- 'b.chunk != ch', both the law's own chunk: no. -/
theorem chunk_same (a : Addr) (w : World) : (binOp .neq 26 (.pointer (some a)) (.pointer (some a))).run Yba.prog w = .ok (.bool false) w := by
  obtain ⟨j, hj⟩ := Option.isSome_iff_exists.1 some28
  have h : ∀ d : Nat, (Op.equalIn (d + 1) 26 (.pointer (some a)) (.pointer (some a))).run Yba.prog w = .ok true w := fun d => by
    simp [Op.equalIn, run_underlying Yba.underlying26, typeInfo, sizeOf, run_sameAddr_same, hj]
  simp only [binOp]
  simp [Op.equal, Op.maxDepth, h 9999]

/-- 'err.(*ChunkMismatchError)', 'b.r.(*io.LimitedReader)' at a value of that very type. -/
theorem assert43 (v : Value) (w : World) : (Instr.typeAssert (.iface 43 v) 31 43 true).run Yba.prog w = .ok (.tuple #[v, .bool true]) w := by kernel_rfl
theorem assert47 (v : Value) (w : World) : (Instr.typeAssert (.iface 47 v) 35 47 true).run Yba.prog w = .ok (.tuple #[v, .bool true]) w := by kernel_rfl

set_option maxHeartbeats 1000000 in
set_option maxRecDepth 100000 in
theorem shape_none (a0 : ByteArray) (a1 : Int) (a4 : Int) (a5 : Int) (w : World) :
    Calls Yba.prog 3 #[.string a0, .int .i64 a1, .bool false, .bool false, .int .i64 a4, .int .i64 a5] w fun e w' => e = .returned (.bool true) ∧ Grown w w' := by
  have hsame := reader_same
  go_enter Yba.func3, Yba.ntmps3
  go_wp2
  go_ret
  exact ⟨rfl, by repeat (first | exact Grown.refl _ | apply Grown.drew | apply Grown.alloc)⟩

set_option maxHeartbeats 1000000 in
set_option maxRecDepth 100000 in
theorem mismatch_any (b c : Nat) (id : ByteArray) (size start length : Int) (w : World) (h0 : w.cell? ⟨b, 0, none⟩ = some (.string id)) (h1 : w.cell? ⟨b, 1, none⟩ = some (.int .i64 size)) (h2 : w.cell? ⟨b, 2, none⟩ = some (.pointer (some ⟨c, 0, none⟩)))
    (k0 : w.cell? ⟨c, 0, none⟩ = some (.int .i64 start)) (k1 : w.cell? ⟨c, 1, none⟩ = some (.int .i64 length)) :
    Calls Yba.prog 7 #[.pointer (some ⟨b, 0, none⟩)] w fun e w' => e = .returned (.iface 43 (.pointer (some ⟨w.heap.size, 0, none⟩))) ∧ w' = (w.alloc (.cells #[.string id, .int .i64 start, .int .i64 length, .int .i64 size] 46)).drew := by
  go_enter Yba.func7, Yba.ntmps7
  go_wp2
  go_region
  go_wp2
  go_ret
  exact ⟨rfl, rfl⟩

set_option maxHeartbeats 1000000 in
set_option maxRecDepth 100000 in
theorem shape_apart (a0 : ByteArray) (a1 : Int) (a4 : Int) (a5 : Int) (w : World) (hne : ¬ a4 = a1) :
    Calls Yba.prog 3 #[.string a0, .int .i64 a1, .bool true, .bool false, .int .i64 a4, .int .i64 a5] w fun e w' => e = .returned (.bool true) ∧ Grown w w' := by
  have hsame := reader_same
  have has := assert43
  have hb : (a4 != a1) = true := by simp [hne]
  clear hne
  go_enter Yba.func3, Yba.ntmps3
  go_wp2_with (first | (go_at_call 7; refine (mismatch_any (w.heap.size + 1 + 1) (w.heap.size + 1) a0 a1 a4 a5 _ ?h0 ?h1 ?h2 ?k0 ?k1).mono ?_) | go_in)
  case h0 => go_simp
  case h1 => go_simp
  case h2 => go_simp
  case k0 => go_simp
  case k1 => go_simp
  rintro e w2 ⟨rfl, rfl⟩
  go_wp2
  go_ret
  exact ⟨rfl, by repeat (first | exact Grown.refl _ | apply Grown.drew | apply Grown.alloc)⟩

set_option maxHeartbeats 1000000 in
set_option maxRecDepth 100000 in
theorem shape_at (a0 : ByteArray) (a1 : Int) (a5 : Int) (w : World) :
    Calls Yba.prog 3 #[.string a0, .int .i64 a1, .bool true, .bool false, .int .i64 a1, .int .i64 a5] w fun e w' => e = .returned (.bool true) ∧ Grown w w' := by
  have hsame := reader_same
  have has := assert47
  have hch := chunk_same
  go_enter Yba.func3, Yba.ntmps3
  go_wp2
  go_ret
  exact ⟨rfl, by repeat (first | exact Grown.refl _ | apply Grown.drew | apply Grown.alloc)⟩

set_option maxHeartbeats 1000000 in
set_option maxRecDepth 100000 in
theorem shape_at_told (a0 : ByteArray) (a1 : Int) (a4 : Int) (a5 : Int) (w : World) :
    Calls Yba.prog 3 #[.string a0, .int .i64 a1, .bool true, .bool true, .int .i64 a4, .int .i64 a5] w fun e w' => e = .returned (.bool true) ∧ Grown w w' := by
  have hsame := reader_same
  have has := assert47
  have hch := chunk_same
  go_enter Yba.func3, Yba.ntmps3
  go_wp2
  go_ret
  exact ⟨rfl, by repeat (first | exact Grown.refl _ | apply Grown.drew | apply Grown.alloc)⟩

set_option maxHeartbeats 1000000 in
set_option maxRecDepth 100000 in
theorem shape_none_told (a0 : ByteArray) (a1 : Int) (a4 : Int) (a5 : Int) (w : World) :
    Calls Yba.prog 3 #[.string a0, .int .i64 a1, .bool false, .bool true, .int .i64 a4, .int .i64 a5] w fun e w' => e = .returned (.bool true) ∧ Grown w w' := by
  have hsame := reader_same
  go_enter Yba.func3, Yba.ntmps3
  go_wp2
  go_ret
  exact ⟨rfl, by repeat (first | exact Grown.refl _ | apply Grown.drew | apply Grown.alloc)⟩

theorem shape_any (a0 : ByteArray) (a1 : Int) (a2 a3 : Bool) (a4 : Int) (a5 : Int) (w : World) :
    Calls Yba.prog 3 #[.string a0, .int .i64 a1, .bool a2, .bool a3, .int .i64 a4, .int .i64 a5] w fun e w' => e = .returned (.bool true) ∧ Grown w w' := by
  cases a2
  · cases a3
    · exact shape_none a0 a1 a4 a5 w
    · exact shape_none_told a0 a1 a4 a5 w
  · cases a3
    · by_cases h : a4 = a1
      · subst h
        exact shape_at a0 a4 a5 w
      · exact shape_apart a0 a1 a4 a5 w h
    · exact shape_at_told a0 a1 a4 a5 w

end Go.Proofs.Ybulkcdle
