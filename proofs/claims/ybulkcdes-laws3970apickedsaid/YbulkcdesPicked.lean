/-
  THE WALK OF 'LawS3970APicked' (4).
-/
import Derived.Test.YbulkcdesSpace
import Derived.OpenShut
namespace Go.Proofs.Ybulkcdes.Picked
open Go.RowKit

theorem info5 : (Yba.prog.info? 5).map (fun i => (i.zero, i.size, i.bytes)) = some (some (.int .u8 0), 1, 1) := by kernel_rfl

/-- More than 1024 picks: it returns at once. -/
theorem picked_long (ad : Option Addr) (len cap : Nat) (a1 : Int) (w : World) (hl : ¬ len ≤ 1024) :
    Calls Yba.prog 4 #[.slice ad len cap, .int .u32 a1] w fun e w' => e = .returned (.bool true) ∧ Below w.heap.size w w' := by
  have h1 : (1024 : Int) < (len : Int) := by omega
  clear hl
  go_enter Yba.func4, Yba.ntmps4
  go_wp2
  go_ret
  exact ⟨rfl, Below.refl _ _⟩

/-- A row of bytes of the call's own. -/
def Row (w : World) (B len : Nat) : Prop := ∃ xs : List Int, xs.length = len ∧ w.ownsRow B 5 1 (.slice (some ⟨B, 0, none⟩) len len) len (xs.map (Value.int .u8))

theorem row_made {w : World} {B len : Nat} (h : w.ownsRow B 5 1 (.slice (some ⟨B, 0, none⟩) len len) len (madeCells #[Value.int .u8 0] len).toList) : Row w B len :=
  ⟨List.replicate len 0, by simp, by rw [List.map_replicate, ← toList_madeCells_one]; exact h⟩

theorem row_cell {w : World} {B len : Nat} (h : Row w B len) (k : Nat) (hk : k < len) : ∃ v, w.cell? ⟨B, k, none⟩ = some (.int .u8 v) := by
  obtain ⟨xs, hl, h⟩ := h
  refine ⟨xs[k]'(by omega), ?_⟩
  rw [h.cellAt k (by omega), List.getElem?_map, List.getElem?_eq_getElem (by omega)]
  rfl

theorem row_free {w : World} {B len : Nat} (h : Row w B len) (k : Nat) : w.frozen? ⟨B, k, none⟩ = false := by
  obtain ⟨xs, _, h⟩ := h
  exact h.frozenAt k

theorem row_stored {w : World} {B len : Nat} (h : Row w B len) (k : Nat) (v : Int) : Row (w.setCell ⟨B, k, none⟩ (.int .u8 v)) B len := by
  obtain ⟨xs, hl, h⟩ := h
  refine ⟨xs.set k v, by simpa using hl, ?_⟩
  rw [List.map_set]
  exact (h.stored k _).1

theorem row_string {w : World} {B len : Nat} (h : Row w B len) : ∃ t : ByteArray, t.size = len ∧ (convert 40 9 (.slice (some ⟨B, 0, none⟩) len len)).run Yba.prog w = .ok (.string t) w := by
  obtain ⟨xs, hl, h⟩ := h
  refine ⟨strOfNums xs, by rw [strOfNums_size, hl], run_convert_bytes_arg (P := Yba.prog) w 40 5 Yba.underlying40 Yba.underlying5 B 0 len len xs hl (fun i hi => ?_) 9 Yba.underlying9⟩
  rw [Nat.zero_add, h.cellAt i (by omega), List.getElem?_map, List.getElem?_eq_getElem (by omega)]
  simp [List.getD, show i < xs.length by omega]

/-! ### What 'spEnd' answers -/
theorem sp_le (s : ByteArray) (o : Nat) (h : o ≤ s.size) : o ≤ spEnd s.data.toList o ∧ spEnd s.data.toList o ≤ s.size := by
  unfold spEnd
  have := skip_le (s.data.toList.drop o)
  rw [List.length_drop, data_len] at this
  omega

theorem takeWhile_all (p : UInt8 → Bool) : ∀ (l : List UInt8) (j : Nat) (h : j < l.length), j < (l.takeWhile p).length → p l[j] = true
  | [], j, h, _ => absurd h (Nat.not_lt_zero j)
  | c :: r, j, h, hj => by
    by_cases hc : p c = true
    · rw [List.takeWhile_cons_of_pos hc] at hj
      cases j with
      | zero => exact hc
      | succ j => exact takeWhile_all p r j (by simpa using h) (by simpa using hj)
    · rw [List.takeWhile_cons_of_neg hc] at hj
      exact absurd hj (Nat.not_lt_zero j)

theorem takeWhile_stop (p : UInt8 → Bool) : ∀ (l : List UInt8) (h : (l.takeWhile p).length < l.length), p l[(l.takeWhile p).length] = false
  | [], h => absurd h (Nat.not_lt_zero _)
  | c :: r, h => by
    by_cases hc : p c = true
    · have e : (c :: r).takeWhile p = c :: r.takeWhile p := List.takeWhile_cons_of_pos hc
      have h' : (r.takeWhile p).length < r.length := by rw [e] at h; simpa using h
      have := takeWhile_stop p r h'
      simp only [e, List.length_cons, List.getElem_cons_succ]
      exact this
    · have e : (c :: r).takeWhile p = [] := List.takeWhile_cons_of_neg hc
      simp only [e, List.length_nil, List.getElem_cons_zero]
      simpa using hc

theorem sp_in (s : ByteArray) (o k : Nat) (h : k < s.size) (h1 : o ≤ k) (h2 : k < spEnd s.data.toList o) : ws s[k].toNat = true := by
  unfold spEnd skip at h2
  have hl : k - o < (s.data.toList.drop o).length := by rw [List.length_drop, data_len]; omega
  have := takeWhile_all (fun c => ws c.toNat) (s.data.toList.drop o) (k - o) hl (by omega)
  rw [List.getElem_drop] at this
  have e : o + (k - o) = k := by omega
  simp only [e] at this
  exact this

theorem sp_out (s : ByteArray) (o : Nat) (ho : o ≤ s.size) (h : spEnd s.data.toList o < s.size) : ws (s[spEnd s.data.toList o]'h).toNat = false := by
  have hl : skip (s.data.toList.drop o) < (s.data.toList.drop o).length := by
    rw [List.length_drop, data_len]; unfold spEnd at h; omega
  have := takeWhile_stop (fun c => ws c.toNat) (s.data.toList.drop o) hl
  have e := List.getElem_drop (xs := s.data.toList) (i := o) (j := skip (s.data.toList.drop o)) (h := hl)
  show ws (s.data.toList[o + skip (s.data.toList.drop o)]'(by rw [data_len]; exact h)).toNat = false
  rw [← e]
  exact this

set_option maxHeartbeats 1000000 in
set_option maxRecDepth 100000 in
theorem picked_short (ad : Option Addr) (len cap : Nat) (z : List Int) (a1 : Int) (w : World) (g1 : 0 ≤ a1) (g1' : a1 ≤ 4294967295)
    (hl : len ≤ 1024) (hr : Hid (∀ j : Nat, 0 ≤ z[j]?.getD 0 ∧ z[j]?.getD 0 ≤ 255))
    (hc : Hid (∀ k, k < len → ∃ b off, ad = some ⟨b, off, none⟩ ∧ b < w.heap.size ∧ ∀ i, i < len → w.cell? ⟨b, off + i, none⟩ = some (.int .u8 (z.getD i 0)))) :
    Calls Yba.prog 4 #[.slice ad len cap, .int .u32 a1] w fun e w' => e = .returned (.bool true) ∧ Below w.heap.size w w' := by
  obtain ⟨i0, hi, hz0, hz1, hz2⟩ := info_parts info5
  have hl' : (len : Int) ≤ 1024 := by omega
  have hd0 : decide ((1024 : Int) < (len : Int)) = false := by simp; omega
  go_enter Yba.func4, Yba.ntmps4
  go_wp2_with (at_make; refine wpList_make_full _ rfl _ _ 40 rfl w.heap.size 5 i0 (.int .u8 0) 1 Yba.underlying40 hi hz0 hz1 _ _ _ _ len rfl rfl rfl rfl ?b2 ?b3 (Nat.le_refl _) ?_)
  case b2 => rw [hz2]; omega
  case b3 => unfold maxLen; omega
  intro w0 hown0 hgrow0
  have hR0 := row_made hown0
  have hb0 : Below w.heap.size w w0 := (Below.refl _ _).grown hgrow0 (Nat.le_refl _) (fun k h => by cases h)
  clear hgrow0 hown0
  go_wp2
  go_loopw [6] (fun i wr => ∃ k : Nat, k ≤ len ∧ i = .int .i64 k ∧ Row wr w.heap.size len ∧ Below w.heap.size w wr) (fun i _ => len - (intOf i).toNat)
  case atStart => exact ⟨0, Nat.zero_le _, rfl, hR0, hb0⟩
  case round =>
    obtain ⟨k, hk, rfl, hR, hb⟩ := hrel
    clear hR0 hb0
    by_cases hlt : k < len
    · obtain ⟨b, off, had, hbw, hcell⟩ := hc.out k hlt
      have hcx : wr.cell? ⟨b, off + k, none⟩ = some (.int .u8 (z[k]?.getD 0)) := by
        have := (hb.cell (p := ⟨b, off + k, none⟩) hbw).trans (hcell k hlt)
        simpa [List.getD] using this
      clear hcell
      obtain ⟨v, hcv⟩ := row_cell hR k hlt
      have hfz : wr.frozen? ⟨w.heap.size, k, none⟩ = false := row_free hR k
      have hrk := hr.out k
      have h10 : 0 ≤ z[k]?.getD 0 % 10 ∧ z[k]?.getD 0 % 10 < 10 := by omega
      subst had
      go_wp2
      go_roundw
      case rel => exact ⟨k + 1, by omega, by go_num, row_stored hR k _, hb.setCell (Nat.le_refl _) _⟩
      case measure => simp [intOf]; omega
    · obtain ⟨t, hts, hconv⟩ := row_string hR
      have HT : Hid (t.size = len) := hts
      have ht1 : t.size ≤ 1024 := by omega
      have ht2 : (t.size : Int) ≤ 1024 := by omega
      obtain ⟨q, hq⟩ : ∃ q : Nat, a1 % ((t.size : Int) + 1) = (q : Int) := ⟨(a1 % ((t.size : Int) + 1)).toNat, (Int.toNat_of_nonneg (Int.emod_nonneg _ (by omega))).symm⟩
      have hq1 : q ≤ t.size := by have := Int.emod_lt_of_pos a1 (show (0 : Int) < (t.size : Int) + 1 by omega); omega
      obtain ⟨e1, e2⟩ := sp_le t q hq1
      have HI : Hid (∀ j (h : j < t.size), q ≤ j → j < spEnd t.data.toList q → ws t[j].toNat = true) := fun j h h1 h2 => sp_in t q j h h1 h2
      have HO : Hid (∀ h : spEnd t.data.toList q < t.size, ws (t[spEnd t.data.toList q]'h).toNat = false) := fun h => sp_out t q hq1 h
      clear hts hR hc hr
      go_wp2_with fail
      refine (spaceEnd_any wr.heap.size q t _ ht1 (by omega) ?hcc).mono ?_
      case hcc => simp
      rintro e w2 ⟨rfl, rfl⟩
      generalize spEnd t.data.toList q = g at *
      have hd1 : decide (g < q) = false := by simp; omega
      have hd2 : decide (t.size < g) = false := by simp; omega
      go_wp2_with fail
      go_loop [11] (fun i => ∃ j : Nat, q ≤ j ∧ j ≤ g ∧ i = .int .i64 j) (fun i => g - (intOf i).toNat)
      case atStart => exact ⟨q, Nat.le_refl _, e1, rfl⟩
      case round =>
        obtain ⟨j, hj1, hj2, rfl⟩ := hrel
        by_cases hjg : j < g
        · have hjt : j < t.size := by omega
          have hw := HI.out j hjt hj1 hjg
          go_wp2_with (go_at_call 11; refine (aws_any _ _).mono ?_; rintro e w' ⟨rfl, rfl⟩)
          go_round
          case rel => exact ⟨j + 1, by omega, by omega, by go_num⟩
          case measure => simp [intOf]; omega
        · by_cases hgt : g < t.size
          · have hw := HO.out hgt
            go_wp2_with (go_at_call 11; refine (aws_any _ _).mono ?_; rintro e w' ⟨rfl, rfl⟩)
            go_ret
            exact ⟨rfl, hb.alloc hb.size _⟩
          · have hgf : decide ((g : Int) < (t.size : Int)) = false := by simp; omega
            go_wp2
            go_ret
            exact ⟨rfl, hb.alloc hb.size _⟩

end Go.Proofs.Ybulkcdes.Picked
