/-
  THE WALK OF 'LawS3970CBuilt' (8): the long slice; then one walk a sign (the same text thrice, laid by program).
-/
import Derived.Test.YbulkcdesInt
import Derived.Test.YbulkcdesPlainBuilt
import Derived.OpenShut
namespace Go.Proofs.Ybulkcdes
open Go.RowKit
open Plain

theorem info5 : (Yba.prog.info? 5).map (fun i => (i.zero, i.size, i.bytes)) = some (some (.int .u8 0), 1, 1) := by kernel_rfl

/-- More than 1024 digits: it returns at once. -/
theorem built_long (a0 : Int) (ad : Option Addr) (len cap : Nat) (a2 a3 : Int) (w : World) (hl : ¬ len ≤ 1024) :
    Calls Yba.prog 8 #[.int .u8 a0, .slice ad len cap, .int .u8 a2, .int .u64 a3] w fun e w' => e = .returned (.bool true) ∧ Below w.heap.size w w' := by
  have h1 : (1024 : Int) < (len : Int) := by omega
  clear hl
  go_enter Yba.func8, Yba.ntmps8
  go_wp2
  go_ret
  exact ⟨rfl, Below.refl _ _⟩

theorem row_made (n : Nat) (z : List Int) (h : z.length = n) : (madeCells #[Value.int .u8 0] n).toList = (row z 0).map (Value.int .u8) := by
  rw [row_zero, h, List.map_replicate]
  exact toList_madeCells_one _ _

theorem row_stored (z : List Int) (k : Nat) (h : k < z.length) : ((row z k).map (Value.int .u8)).set k (.int .u8 (dgt (z.getD k 0))) = (row z (k + 1)).map (Value.int .u8) := by
  rw [← row_step z k h, List.map_set]

theorem row_cell {w : World} {B g n k : Nat} {z : List Int} (hz : z.length = n) (hk : k < n) (h : w.ownsRow B 5 1 (.slice (some ⟨g, 0, none⟩) n n) n ((row z k).map (Value.int .u8))) : ∃ v, w.cell? ⟨g, k, none⟩ = some (.int .u8 v) := by
  have hl := row_length z k (by omega)
  refine ⟨(row z k)[k]'(by omega), ?_⟩
  rw [h.cellAt k (by omega), List.getElem?_map, List.getElem?_eq_getElem (by omega)]
  rfl

theorem own_cell {w : World} {B g n cap : Nat} {y : List Int} (hy : y.length = n) (h : w.ownsRow B 5 1 (.slice (some ⟨g, 0, none⟩) n cap) n (y.map (Value.int .u8))) : ∀ i, i < n → w.cell? ⟨g, 0 + i, none⟩ = some (.int .u8 (y.getD i 0)) := by
  intro i hi
  rw [Nat.zero_add, h.cellAt i (by omega), List.getElem?_map, List.getElem?_eq_getElem (by omega)]
  simp [List.getD, show i < y.length by omega]

theorem built_first (p t : ByteArray) (n : Nat) (hp : Pre p.data.toList) (ht : t.data.toList.all dg = true) (hs : t.size = n) : isInt (p ++ t).data.toList = decide ((0 : Int) < (n : Int)) := by
  rw [data_append, isInt_digits _ _ hp ht, ← hs, ← data_length]
  cases t.data.toList <;> simp

theorem cells_upto {w : World} {g n q : Nat} {y : List Int} (hy : y.length = n) (hcell : ∀ i, i < n → w.cell? ⟨g, 0 + i, none⟩ = some (.int .u8 (y.getD i 0))) {ao : Option Addr} (hao : ao = some ⟨g, 0, none⟩) :
    ∀ ad, ao = some ad → ∀ j u, ((y.take q).map (Value.int .u8))[j]? = some u → w.cell? (ad.add j) = some u := by
  intro ad had j u hu
  rw [hao] at had
  obtain rfl := Option.some.inj had
  have hj : j < q ∧ j < n := by
    have := (List.getElem?_eq_some_iff.1 hu).1
    simp at this
    omega
  rw [Addr.add_lit, hcell j hj.2]
  rw [List.getElem?_map, List.getElem?_take_of_lt hj.1, List.getElem?_eq_getElem (by omega)] at hu
  simp at hu
  rw [← hu]
  simp [List.getD, show j < y.length by omega]

/-- Every byte of the law's table is neither a digit nor a sign. -/
theorem table_bad (n : Nat) (h : n < (⟨#[47, 58, 97, 32, 46, 120, 255, 95]⟩ : ByteArray).size) : dg ((⟨#[47, 58, 97, 32, 46, 120, 255, 95]⟩ : ByteArray)[n]'h) = false ∧ sg ((⟨#[47, 58, 97, 32, 46, 120, 255, 95]⟩ : ByteArray)[n]'h) = false := by
  have h8 : n < 8 := h
  have : n = 0 ∨ n = 1 ∨ n = 2 ∨ n = 3 ∨ n = 4 ∨ n = 5 ∨ n = 6 ∨ n = 7 := by omega
  rcases this with rfl | rfl | rfl | rfl | rfl | rfl | rfl | rfl <;> exact ⟨rfl, rfl⟩

theorem one_cell_at (w : World) (v : Value) (t : TypeId) : ∀ j u, [v][j]? = some u → (w.alloc (.cells #[v] t)).cell? ((⟨w.heap.size, 0, none⟩ : Addr).add j) = some u := by
  intro j u hj
  match j, hj with
  | 0, hj => simp at hj; subst hj; simp [Addr.add]

/-- The spoilt digits: q of them, the byte, the rest. -/
def mid (y : List Int) (q : Nat) (c : UInt8) : List Int := y.take q ++ [(c.toNat : Int)] ++ y.drop q

theorem mid_form (y : List Int) (q : Nat) (c : UInt8) : List.take q (List.map (Value.int .u8) y) ++ Value.int .u8 (c.toNat : Int) :: List.drop q (List.map (Value.int .u8) y) = (mid y q c).map (Value.int .u8) := by simp [mid]
theorem mid_form_end (y : List Int) (q : Nat) (c : UInt8) (h : y.length ≤ q) : List.take q (List.map (Value.int .u8) y) ++ [Value.int .u8 (c.toNat : Int)] = (mid y q c).map (Value.int .u8) := by simp [mid, List.drop_eq_nil_of_le h]
theorem mid_length (y : List Int) (q n : Nat) (c : UInt8) (hy : y.length = n) (hq : q ≤ n) : (mid y q c).length = n + 1 := by simp [mid, hy]; omega

theorem mid_conv {w5 : World} {B g n N q : Nat} {y : List Int} {c : UInt8} (hy : y.length = n) (hq : q ≤ n) (hN : N = n + 1) (hown5 : w5.ownsRow B 5 1 (.slice (some ⟨g, 0, none⟩) N (n + 1)) N ((mid y q c).map (Value.int .u8))) :
    (convert 40 9 (.slice (some ⟨g, 0, none⟩) N (n + 1))).run Yba.prog w5 = .ok (.string (strOfNums (mid y q c))) w5 := by
  subst hN
  have hl := mid_length y q n c hy hq
  exact run_convert_bytes_arg (P := Yba.prog) w5 40 5 Yba.underlying40 Yba.underlying5 g 0 (n + 1) (n + 1) _ hl (own_cell hl hown5) 9 Yba.underlying9

theorem built_second (p : ByteArray) (y : List Int) (q : Nat) (c : UInt8) (hp : Pre p.data.toList) (ht : (strOfNums y).data.toList.all dg = true) (hb : dg c = false ∧ sg c = false) :
    isInt (p ++ strOfNums (mid y q c)).data.toList = false := by
  unfold mid
  have e : (strOfNums (y.take q ++ [(c.toNat : Int)] ++ y.drop q)).data.toList = (y.take q).map (fun n => UInt8.ofNat n.toNat) ++ [c] ++ (y.drop q).map (fun n => UInt8.ofNat n.toNat) := by
    rw [strOfNums_data]; simp
  rw [data_append, e]
  refine isInt_spoilt _ _ _ _ hp ?_ hb.1 hb.2
  rw [strOfNums_data, List.all_eq_true] at ht
  rw [List.all_eq_true]
  intro x hx
  refine ht x ?_
  simp only [List.mem_map] at hx ⊢
  obtain ⟨n, hn, e⟩ := hx
  exact ⟨n, List.mem_of_mem_take hn, e⟩


set_option maxHeartbeats 1000000 in
set_option maxRecDepth 100000 in
theorem built_plain (a0 : Int) (ad : Option Addr) (len cap : Nat) (z : List Int) (a2 a3 : Int) (w : World) (g0 : 0 ≤ a0) (g0' : a0 ≤ 255) (g2 : 0 ≤ a2) (g2' : a2 ≤ 255) (g3 : 0 ≤ a3) (g3' : a3 ≤ 18446744073709551615)
    (hl : len ≤ 1024) (hz : Hid (z.length = len)) (hr : Hid (∀ j : Nat, 0 ≤ z[j]?.getD 0 ∧ z[j]?.getD 0 ≤ 255))
    (hc : Hid (∀ k, k < len → ∃ b off, ad = some ⟨b, off, none⟩ ∧ b < w.heap.size ∧ ∀ i, i < len → w.cell? ⟨b, off + i, none⟩ = some (.int .u8 (z.getD i 0)))) (s1 : (a0 % 3 == 1) = false) (s2 : (a0 % 3 == 2) = false) :
    Calls Yba.prog 8 #[.int .u8 a0, .slice ad len cap, .int .u8 a2, .int .u64 a3] w fun e w' => e = .returned (.bool true) ∧ Below w.heap.size w w' := by
  obtain ⟨i0, hi, hz0, hz1, hz2⟩ := info_parts info5
  have hl' : (len : Int) ≤ 1024 := by omega
  have hd0 : decide ((1024 : Int) < (len : Int)) = false := by simp; omega
  go_enter Yba.func8, Yba.ntmps8
  go_wp2_with (at_make; refine wpList_make_full _ rfl _ _ 40 rfl w.heap.size 5 i0 (.int .u8 0) 1 Yba.underlying40 hi hz0 hz1 _ _ _ _ len rfl rfl rfl rfl ?b2 ?b3 (Nat.le_refl _) ?_)
  case b2 => rw [hz2]; omega
  case b3 => unfold maxLen; omega
  intro w0 hown0 hgrow0
  rw [row_made len z hz.out] at hown0
  have hb0 : Below w.heap.size w w0 := (Below.refl _ _).grown hgrow0 (Nat.le_refl _) (fun k h => by cases h)
  clear hgrow0
  go_wp2
  go_loopw [11] (fun i wr => ∃ k : Nat, k ≤ len ∧ i = .int .i64 k ∧ wr.ownsRow w.heap.size 5 1 (.slice (some ⟨w.heap.size, 0, none⟩) len len) len ((row z k).map (Value.int .u8)) ∧ Below w.heap.size w wr) (fun i _ => len - (intOf i).toNat)
  case atStart => exact ⟨0, Nat.zero_le _, rfl, hown0, hb0⟩
  case round =>
    obtain ⟨k, hk, rfl, hown, hb⟩ := hrel
    clear hown0 hb0
    by_cases hlt : k < len
    · obtain ⟨b, off, had, hbw, hcell⟩ := hc.out k hlt
      have hcx : wr.cell? ⟨b, off + k, none⟩ = some (.int .u8 (z[k]?.getD 0)) := by
        have := (hb.cell (p := ⟨b, off + k, none⟩) hbw).trans (hcell k hlt)
        simpa [List.getD] using this
      clear hcell
      obtain ⟨v, hcv⟩ := row_cell hz.out hlt hown
      have hfz : wr.frozen? ⟨w.heap.size, k, none⟩ = false := hown.frozenAt k
      have hrk := hr.out k
      subst had
      have HR : (wr.setCell ⟨w.heap.size, k, none⟩ (.int .u8 (48 + z[k]?.getD 0 % 10))).ownsRow w.heap.size 5 1 (.slice (some ⟨w.heap.size, 0, none⟩) len len) len ((row z (k + 1)).map (Value.int .u8)) := by
        rw [← row_stored z k (by rw [hz.out]; exact hlt)]
        exact (hown.stored k _).1
      have HB : Below w.heap.size w (wr.setCell ⟨w.heap.size, k, none⟩ (.int .u8 (48 + z[k]?.getD 0 % 10))) := hb.setCell (Nat.le_refl _) _
      go_wp2
      go_roundw
      case rel => exact ⟨k + 1, by omega, by go_num, HR, HB⟩
      case measure => simp [intOf]; omega
    · rw [row_full z k (by rw [hz.out]; omega)] at hown
      have hyl : (z.map dgt).length = len := by simp [hz.out]
      have hcy := own_cell hyl hown
      have hconv := run_convert_bytes_arg (P := Yba.prog) wr 40 5 Yba.underlying40 Yba.underlying5 w.heap.size 0 len len (z.map dgt) hyl hcy 9 Yba.underlying9
      have HY : Hid ((z.map dgt).length = len) := hyl
      have HT : Hid ((strOfNums (z.map dgt)).data.toList.all dg = true) := bytes_dg z
      have HS : Hid ((strOfNums (z.map dgt)).size = len) := by show _ = _; rw [strOfNums_size, hyl]
      have HC : Hid (∀ i, i < len → wr.cell? ⟨w.heap.size, 0 + i, none⟩ = some (.int .u8 ((z.map dgt).getD i 0))) := hcy
      have hts : (strOfNums (z.map dgt)).size ≤ 1024 := by rw [HS.out]; exact hl
      have HI : Hid (isInt ((⟨#[]⟩ : ByteArray) ++ strOfNums (z.map dgt)).data.toList = decide ((0 : Int) < (len : Int))) := built_first _ _ _ (by unfold Pre; simp) HT.out HS.out
      obtain ⟨q, hq⟩ : ∃ q : Nat, a3 % ((len : Int) + 1) = (q : Int) := ⟨(a3 % ((len : Int) + 1)).toNat, (Int.toNat_of_nonneg (Int.emod_nonneg _ (by omega))).symm⟩
      have hq1 : q ≤ len := by have := Int.emod_lt_of_pos a3 (show (0 : Int) < (len : Int) + 1 by omega); omega
      have hb8 : 0 ≤ a2 % 8 ∧ a2 % 8 < 8 := by omega
      have hsz1 : w.heap.size < wr.heap.size := (hown.lt _ rfl).2
      clear hyl hcy hown hc hr hz
      generalize z.map dgt = y at *
      go_wp2_with fail
      refine (isInteger_any _ _ ?hsz).mono ?_
      case hsz => rw [ByteArray.size_append]; unfold maxLen; have hp1 : (⟨#[]⟩ : ByteArray).size ≤ 1 := by decide
                  omega
      rintro e w1 ⟨rfl, rfl⟩
      rw [HI.out]
      go_wp2_with (at_make; refine wpList_make_own _ rfl _ _ 40 rfl w1.heap.size 5 i0 (.int .u8 0) 1 Yba.underlying40 hi hz0 hz1 _ _ _ (len + 1) rfl rfl (by omega) ?b2' ?b3' (Nat.le_refl _) ?_)
      case b2' => rw [hz2]; omega
      case b3' => unfold maxLen; omega
      intro w2 hown2 hgrow2
      have HC2 : Hid (∀ i, i < len → w2.cell? ⟨w.heap.size, 0 + i, none⟩ = some (.int .u8 (y.getD i 0))) := fun i hi' => hgrow2.cell (HC.out i hi') (fun e => by cases e)
      go_wp2_with (at_builtin; (refine wpList_append_fits_any _ rfl (.tmp 67) (.tmp 70) 40 rfl w1.heap.size 5 i0 1 Yba.underlying40 hi hz1 w1.heap.size 0 (len + 1) _ rfl hown2 _ q _ ((y.take q).map (Value.int .u8)) rfl ?l1 ?l2 ?l3 (ints_oneCell _ _) ?l4 ?_))
      case l1 => simp [HY.out]; omega
      case l2 => intro h; first | cases h | (split at h <;> cases h)
      case l3 => exact cells_upto HY.out HC2.out (by first | rfl | simp | (split <;> simp))
      case l4 => omega
      intro w3 hown3 hgrow3
      have h8 : (a2 % 8).toNat < (⟨#[47, 58, 97, 32, 46, 120, 255, 95]⟩ : ByteArray).size := by show _ < 8; omega
      have HB8 : Hid (dg ((⟨#[47, 58, 97, 32, 46, 120, 255, 95]⟩ : ByteArray)[(a2 % 8).toNat]'h8) = false ∧ sg ((⟨#[47, 58, 97, 32, 46, 120, 255, 95]⟩ : ByteArray)[(a2 % 8).toNat]'h8) = false) := table_bad _ h8
      generalize (⟨#[47, 58, 97, 32, 46, 120, 255, 95]⟩ : ByteArray)[(a2 % 8).toNat]'h8 = c at *
      clear h8
      go_wp2_with (at_builtin; (refine wpList_append_fits _ rfl (.tmp 72) (.tmp 74) 40 rfl w1.heap.size 5 i0 1 Yba.underlying40 hi hz1 w1.heap.size q (len + 1) _ rfl (hown3.alloc _) ⟨w3.heap.size, 0, none⟩ 1 1 [.int .u8 (c.toNat : Int)] rfl rfl ?m1 ?m2 ?m3 ?_))
      case m1 => exact one_cell_at _ _ _
      case m2 => intro u hu; simp at hu; subst hu; rfl
      case m3 => omega
      intro w4 hown4 hgrow4
      have HC4 : Hid (∀ i, i < len → w4.cell? ⟨w.heap.size, 0 + i, none⟩ = some (.int .u8 (y.getD i 0))) := fun i hi' => by
        have h3 := hgrow3.cell (HC2.out i hi') (fun e => by have h2 : w.heap.size = w1.heap.size := Option.some.inj e; omega)
        exact hgrow4.cell ((World.grownBy_alloc w3 _ none).cell h3 (fun e => by cases e)) (fun e => by have h2 : w.heap.size = w1.heap.size := Option.some.inj e; omega)
      have HI5 : Hid (isInt ((⟨#[]⟩ : ByteArray) ++ strOfNums (mid y q c)).data.toList = false) := built_second _ _ _ _ (by unfold Pre; simp) HT.out HB8.out
      have hts5 : (strOfNums (mid y q c)).size ≤ 1025 := by rw [strOfNums_size, mid_length y q len c HY.out hq1]; omega
      have hB4 : Below w.heap.size w w4 := (((hb.grown hgrow2 (by omega) (fun k e => by cases e)).grown hgrow3 (by have := hgrow2.size; omega) (fun k e => by cases e; omega)).alloc (by have := hgrow2.size; have := hgrow3.size; omega) _).grown hgrow4 (by simp; have := hgrow2.size; have := hgrow3.size; omega) (fun k e => by cases e; omega)
      have hs4 : w.heap.size ≤ w4.heap.size := hB4.size
      clear hgrow2 hgrow3 hgrow4 hown2 hown3 HC HC2 hconv hb
      by_cases hql : q < len
      · have hne : ¬ len = q := by omega
        go_wp2_with (at_builtin; (refine wpList_append_fits_any _ rfl (.tmp 76) (.tmp 79) 40 rfl w1.heap.size 5 i0 1 Yba.underlying40 hi hz1 w1.heap.size (q + 1) (len + 1) _ rfl hown4 _ (len - q) _ ((y.drop q).map (Value.int .u8)) rfl ?n1 ?n2 ?n3 (ints_oneCell _ _) ?n4 ?_))
        case n1 => simp [HY.out]
        case n2 => intro h; cases h
        case n3 => exact cells_from HY.out (Nat.le_refl _) HC4.out (by intro h; simp)
        case n4 => omega
        intro w5 hown5 hgrow5
        rw [mid_form] at hown5
        have hconv5 := mid_conv (N := q + 1 + (len - q)) HY.out hq1 (by omega) hown5
        have hB5 : Below w.heap.size w w5 := hB4.grown hgrow5 hs4 (fun k e => by cases e; omega)
        clear hgrow5 hown5 hB4 hown4
        go_wp2_with fail
        refine (isInteger_any _ _ ?hsz').mono ?_
        case hsz' => rw [ByteArray.size_append]; unfold maxLen; have hp1 : (⟨#[]⟩ : ByteArray).size ≤ 1 := by decide
                     omega
        rintro e w6 ⟨rfl, rfl⟩
        rw [HI5.out]
        go_wp2_with fail
        go_ret
        exact ⟨rfl, hB5⟩
      · obtain rfl : q = len := by omega
        go_wp2_with (at_builtin; (refine wpList_append_fits_any _ rfl (.tmp 76) (.tmp 79) 40 rfl w1.heap.size 5 i0 1 Yba.underlying40 hi hz1 w1.heap.size (q + 1) (q + 1) _ rfl hown4 _ 0 _ [] rfl rfl ?o2 ?o3 ?o5 ?o4 ?_))
        case o3 => intro ad' _ j u hu; simp at hu
        case o5 => intro u hu; cases hu
        case o4 => omega
        intro w5 hown5 hgrow5
        rw [mid_form_end _ _ _ (by rw [HY.out]; omega)] at hown5
        have hconv5 := mid_conv (N := q + 1) HY.out hq1 (by omega) hown5
        have hB5 : Below w.heap.size w w5 := hB4.grown hgrow5 hs4 (fun k e => by cases e; omega)
        clear hgrow5 hown5 hB4 hown4
        go_wp2_with fail
        refine (isInteger_any _ _ ?hszz).mono ?_
        case hszz => rw [ByteArray.size_append]; unfold maxLen; have hp1 : (⟨#[]⟩ : ByteArray).size ≤ 1 := by decide
                     omega
        rintro e w6 ⟨rfl, rfl⟩
        rw [HI5.out]
        go_wp2_with fail
        go_ret
        exact ⟨rfl, hB5⟩

set_option maxHeartbeats 1000000 in
set_option maxRecDepth 100000 in
theorem built_plus (a0 : Int) (ad : Option Addr) (len cap : Nat) (z : List Int) (a2 a3 : Int) (w : World) (g0 : 0 ≤ a0) (g0' : a0 ≤ 255) (g2 : 0 ≤ a2) (g2' : a2 ≤ 255) (g3 : 0 ≤ a3) (g3' : a3 ≤ 18446744073709551615)
    (hl : len ≤ 1024) (hz : Hid (z.length = len)) (hr : Hid (∀ j : Nat, 0 ≤ z[j]?.getD 0 ∧ z[j]?.getD 0 ≤ 255))
    (hc : Hid (∀ k, k < len → ∃ b off, ad = some ⟨b, off, none⟩ ∧ b < w.heap.size ∧ ∀ i, i < len → w.cell? ⟨b, off + i, none⟩ = some (.int .u8 (z.getD i 0)))) (s1 : (a0 % 3 == 1) = true) (_s2 : (a0 % 3 == 2) = false) :
    Calls Yba.prog 8 #[.int .u8 a0, .slice ad len cap, .int .u8 a2, .int .u64 a3] w fun e w' => e = .returned (.bool true) ∧ Below w.heap.size w w' := by
  obtain ⟨i0, hi, hz0, hz1, hz2⟩ := info_parts info5
  have hl' : (len : Int) ≤ 1024 := by omega
  have hd0 : decide ((1024 : Int) < (len : Int)) = false := by simp; omega
  go_enter Yba.func8, Yba.ntmps8
  go_wp2_with (at_make; refine wpList_make_full _ rfl _ _ 40 rfl w.heap.size 5 i0 (.int .u8 0) 1 Yba.underlying40 hi hz0 hz1 _ _ _ _ len rfl rfl rfl rfl ?b2 ?b3 (Nat.le_refl _) ?_)
  case b2 => rw [hz2]; omega
  case b3 => unfold maxLen; omega
  intro w0 hown0 hgrow0
  rw [row_made len z hz.out] at hown0
  have hb0 : Below w.heap.size w w0 := (Below.refl _ _).grown hgrow0 (Nat.le_refl _) (fun k h => by cases h)
  clear hgrow0
  go_wp2
  go_loopw [11] (fun i wr => ∃ k : Nat, k ≤ len ∧ i = .int .i64 k ∧ wr.ownsRow w.heap.size 5 1 (.slice (some ⟨w.heap.size, 0, none⟩) len len) len ((row z k).map (Value.int .u8)) ∧ Below w.heap.size w wr) (fun i _ => len - (intOf i).toNat)
  case atStart => exact ⟨0, Nat.zero_le _, rfl, hown0, hb0⟩
  case round =>
    obtain ⟨k, hk, rfl, hown, hb⟩ := hrel
    clear hown0 hb0
    by_cases hlt : k < len
    · obtain ⟨b, off, had, hbw, hcell⟩ := hc.out k hlt
      have hcx : wr.cell? ⟨b, off + k, none⟩ = some (.int .u8 (z[k]?.getD 0)) := by
        have := (hb.cell (p := ⟨b, off + k, none⟩) hbw).trans (hcell k hlt)
        simpa [List.getD] using this
      clear hcell
      obtain ⟨v, hcv⟩ := row_cell hz.out hlt hown
      have hfz : wr.frozen? ⟨w.heap.size, k, none⟩ = false := hown.frozenAt k
      have hrk := hr.out k
      subst had
      have HR : (wr.setCell ⟨w.heap.size, k, none⟩ (.int .u8 (48 + z[k]?.getD 0 % 10))).ownsRow w.heap.size 5 1 (.slice (some ⟨w.heap.size, 0, none⟩) len len) len ((row z (k + 1)).map (Value.int .u8)) := by
        rw [← row_stored z k (by rw [hz.out]; exact hlt)]
        exact (hown.stored k _).1
      have HB : Below w.heap.size w (wr.setCell ⟨w.heap.size, k, none⟩ (.int .u8 (48 + z[k]?.getD 0 % 10))) := hb.setCell (Nat.le_refl _) _
      go_wp2
      go_roundw
      case rel => exact ⟨k + 1, by omega, by go_num, HR, HB⟩
      case measure => simp [intOf]; omega
    · rw [row_full z k (by rw [hz.out]; omega)] at hown
      have hyl : (z.map dgt).length = len := by simp [hz.out]
      have hcy := own_cell hyl hown
      have hconv := run_convert_bytes_arg (P := Yba.prog) wr 40 5 Yba.underlying40 Yba.underlying5 w.heap.size 0 len len (z.map dgt) hyl hcy 9 Yba.underlying9
      have HY : Hid ((z.map dgt).length = len) := hyl
      have HT : Hid ((strOfNums (z.map dgt)).data.toList.all dg = true) := bytes_dg z
      have HS : Hid ((strOfNums (z.map dgt)).size = len) := by show _ = _; rw [strOfNums_size, hyl]
      have HC : Hid (∀ i, i < len → wr.cell? ⟨w.heap.size, 0 + i, none⟩ = some (.int .u8 ((z.map dgt).getD i 0))) := hcy
      have hts : (strOfNums (z.map dgt)).size ≤ 1024 := by rw [HS.out]; exact hl
      have HI : Hid (isInt ((⟨#[43]⟩ : ByteArray) ++ strOfNums (z.map dgt)).data.toList = decide ((0 : Int) < (len : Int))) := built_first _ _ _ (by unfold Pre; simp) HT.out HS.out
      obtain ⟨q, hq⟩ : ∃ q : Nat, a3 % ((len : Int) + 1) = (q : Int) := ⟨(a3 % ((len : Int) + 1)).toNat, (Int.toNat_of_nonneg (Int.emod_nonneg _ (by omega))).symm⟩
      have hq1 : q ≤ len := by have := Int.emod_lt_of_pos a3 (show (0 : Int) < (len : Int) + 1 by omega); omega
      have hb8 : 0 ≤ a2 % 8 ∧ a2 % 8 < 8 := by omega
      have hsz1 : w.heap.size < wr.heap.size := (hown.lt _ rfl).2
      clear hyl hcy hown hc hr hz
      generalize z.map dgt = y at *
      go_wp2_with fail
      refine (isInteger_any _ _ ?hsz).mono ?_
      case hsz => rw [ByteArray.size_append]; unfold maxLen; have hp1 : (⟨#[43]⟩ : ByteArray).size ≤ 1 := by decide
                  omega
      rintro e w1 ⟨rfl, rfl⟩
      rw [HI.out]
      go_wp2_with (at_make; refine wpList_make_own _ rfl _ _ 40 rfl w1.heap.size 5 i0 (.int .u8 0) 1 Yba.underlying40 hi hz0 hz1 _ _ _ (len + 1) rfl rfl (by omega) ?b2' ?b3' (Nat.le_refl _) ?_)
      case b2' => rw [hz2]; omega
      case b3' => unfold maxLen; omega
      intro w2 hown2 hgrow2
      have HC2 : Hid (∀ i, i < len → w2.cell? ⟨w.heap.size, 0 + i, none⟩ = some (.int .u8 (y.getD i 0))) := fun i hi' => hgrow2.cell (HC.out i hi') (fun e => by cases e)
      go_wp2_with (at_builtin; (refine wpList_append_fits_any _ rfl (.tmp 67) (.tmp 70) 40 rfl w1.heap.size 5 i0 1 Yba.underlying40 hi hz1 w1.heap.size 0 (len + 1) _ rfl hown2 _ q _ ((y.take q).map (Value.int .u8)) rfl ?l1 ?l2 ?l3 (ints_oneCell _ _) ?l4 ?_))
      case l1 => simp [HY.out]; omega
      case l2 => intro h; first | cases h | (split at h <;> cases h)
      case l3 => exact cells_upto HY.out HC2.out (by first | rfl | simp | (split <;> simp))
      case l4 => omega
      intro w3 hown3 hgrow3
      have h8 : (a2 % 8).toNat < (⟨#[47, 58, 97, 32, 46, 120, 255, 95]⟩ : ByteArray).size := by show _ < 8; omega
      have HB8 : Hid (dg ((⟨#[47, 58, 97, 32, 46, 120, 255, 95]⟩ : ByteArray)[(a2 % 8).toNat]'h8) = false ∧ sg ((⟨#[47, 58, 97, 32, 46, 120, 255, 95]⟩ : ByteArray)[(a2 % 8).toNat]'h8) = false) := table_bad _ h8
      generalize (⟨#[47, 58, 97, 32, 46, 120, 255, 95]⟩ : ByteArray)[(a2 % 8).toNat]'h8 = c at *
      clear h8
      go_wp2_with (at_builtin; (refine wpList_append_fits _ rfl (.tmp 72) (.tmp 74) 40 rfl w1.heap.size 5 i0 1 Yba.underlying40 hi hz1 w1.heap.size q (len + 1) _ rfl (hown3.alloc _) ⟨w3.heap.size, 0, none⟩ 1 1 [.int .u8 (c.toNat : Int)] rfl rfl ?m1 ?m2 ?m3 ?_))
      case m1 => exact one_cell_at _ _ _
      case m2 => intro u hu; simp at hu; subst hu; rfl
      case m3 => omega
      intro w4 hown4 hgrow4
      have HC4 : Hid (∀ i, i < len → w4.cell? ⟨w.heap.size, 0 + i, none⟩ = some (.int .u8 (y.getD i 0))) := fun i hi' => by
        have h3 := hgrow3.cell (HC2.out i hi') (fun e => by have h2 : w.heap.size = w1.heap.size := Option.some.inj e; omega)
        exact hgrow4.cell ((World.grownBy_alloc w3 _ none).cell h3 (fun e => by cases e)) (fun e => by have h2 : w.heap.size = w1.heap.size := Option.some.inj e; omega)
      have HI5 : Hid (isInt ((⟨#[43]⟩ : ByteArray) ++ strOfNums (mid y q c)).data.toList = false) := built_second _ _ _ _ (by unfold Pre; simp) HT.out HB8.out
      have hts5 : (strOfNums (mid y q c)).size ≤ 1025 := by rw [strOfNums_size, mid_length y q len c HY.out hq1]; omega
      have hB4 : Below w.heap.size w w4 := (((hb.grown hgrow2 (by omega) (fun k e => by cases e)).grown hgrow3 (by have := hgrow2.size; omega) (fun k e => by cases e; omega)).alloc (by have := hgrow2.size; have := hgrow3.size; omega) _).grown hgrow4 (by simp; have := hgrow2.size; have := hgrow3.size; omega) (fun k e => by cases e; omega)
      have hs4 : w.heap.size ≤ w4.heap.size := hB4.size
      clear hgrow2 hgrow3 hgrow4 hown2 hown3 HC HC2 hconv hb
      by_cases hql : q < len
      · have hne : ¬ len = q := by omega
        go_wp2_with (at_builtin; (refine wpList_append_fits_any _ rfl (.tmp 76) (.tmp 79) 40 rfl w1.heap.size 5 i0 1 Yba.underlying40 hi hz1 w1.heap.size (q + 1) (len + 1) _ rfl hown4 _ (len - q) _ ((y.drop q).map (Value.int .u8)) rfl ?n1 ?n2 ?n3 (ints_oneCell _ _) ?n4 ?_))
        case n1 => simp [HY.out]
        case n2 => intro h; cases h
        case n3 => exact cells_from HY.out (Nat.le_refl _) HC4.out (by intro h; simp)
        case n4 => omega
        intro w5 hown5 hgrow5
        rw [mid_form] at hown5
        have hconv5 := mid_conv (N := q + 1 + (len - q)) HY.out hq1 (by omega) hown5
        have hB5 : Below w.heap.size w w5 := hB4.grown hgrow5 hs4 (fun k e => by cases e; omega)
        clear hgrow5 hown5 hB4 hown4
        go_wp2_with fail
        refine (isInteger_any _ _ ?hsz').mono ?_
        case hsz' => rw [ByteArray.size_append]; unfold maxLen; have hp1 : (⟨#[43]⟩ : ByteArray).size ≤ 1 := by decide
                     omega
        rintro e w6 ⟨rfl, rfl⟩
        rw [HI5.out]
        go_wp2_with fail
        go_ret
        exact ⟨rfl, hB5⟩
      · obtain rfl : q = len := by omega
        go_wp2_with (at_builtin; (refine wpList_append_fits_any _ rfl (.tmp 76) (.tmp 79) 40 rfl w1.heap.size 5 i0 1 Yba.underlying40 hi hz1 w1.heap.size (q + 1) (q + 1) _ rfl hown4 _ 0 _ [] rfl rfl ?o2 ?o3 ?o5 ?o4 ?_))
        case o3 => intro ad' _ j u hu; simp at hu
        case o5 => intro u hu; cases hu
        case o4 => omega
        intro w5 hown5 hgrow5
        rw [mid_form_end _ _ _ (by rw [HY.out]; omega)] at hown5
        have hconv5 := mid_conv (N := q + 1) HY.out hq1 (by omega) hown5
        have hB5 : Below w.heap.size w w5 := hB4.grown hgrow5 hs4 (fun k e => by cases e; omega)
        clear hgrow5 hown5 hB4 hown4
        go_wp2_with fail
        refine (isInteger_any _ _ ?hszz).mono ?_
        case hszz => rw [ByteArray.size_append]; unfold maxLen; have hp1 : (⟨#[43]⟩ : ByteArray).size ≤ 1 := by decide
                     omega
        rintro e w6 ⟨rfl, rfl⟩
        rw [HI5.out]
        go_wp2_with fail
        go_ret
        exact ⟨rfl, hB5⟩

set_option maxHeartbeats 1000000 in
set_option maxRecDepth 100000 in
theorem built_minus (a0 : Int) (ad : Option Addr) (len cap : Nat) (z : List Int) (a2 a3 : Int) (w : World) (g0 : 0 ≤ a0) (g0' : a0 ≤ 255) (g2 : 0 ≤ a2) (g2' : a2 ≤ 255) (g3 : 0 ≤ a3) (g3' : a3 ≤ 18446744073709551615)
    (hl : len ≤ 1024) (hz : Hid (z.length = len)) (hr : Hid (∀ j : Nat, 0 ≤ z[j]?.getD 0 ∧ z[j]?.getD 0 ≤ 255))
    (hc : Hid (∀ k, k < len → ∃ b off, ad = some ⟨b, off, none⟩ ∧ b < w.heap.size ∧ ∀ i, i < len → w.cell? ⟨b, off + i, none⟩ = some (.int .u8 (z.getD i 0)))) (s1 : (a0 % 3 == 1) = false) (s2 : (a0 % 3 == 2) = true) :
    Calls Yba.prog 8 #[.int .u8 a0, .slice ad len cap, .int .u8 a2, .int .u64 a3] w fun e w' => e = .returned (.bool true) ∧ Below w.heap.size w w' := by
  obtain ⟨i0, hi, hz0, hz1, hz2⟩ := info_parts info5
  have hl' : (len : Int) ≤ 1024 := by omega
  have hd0 : decide ((1024 : Int) < (len : Int)) = false := by simp; omega
  go_enter Yba.func8, Yba.ntmps8
  go_wp2_with (at_make; refine wpList_make_full _ rfl _ _ 40 rfl w.heap.size 5 i0 (.int .u8 0) 1 Yba.underlying40 hi hz0 hz1 _ _ _ _ len rfl rfl rfl rfl ?b2 ?b3 (Nat.le_refl _) ?_)
  case b2 => rw [hz2]; omega
  case b3 => unfold maxLen; omega
  intro w0 hown0 hgrow0
  rw [row_made len z hz.out] at hown0
  have hb0 : Below w.heap.size w w0 := (Below.refl _ _).grown hgrow0 (Nat.le_refl _) (fun k h => by cases h)
  clear hgrow0
  go_wp2
  go_loopw [11] (fun i wr => ∃ k : Nat, k ≤ len ∧ i = .int .i64 k ∧ wr.ownsRow w.heap.size 5 1 (.slice (some ⟨w.heap.size, 0, none⟩) len len) len ((row z k).map (Value.int .u8)) ∧ Below w.heap.size w wr) (fun i _ => len - (intOf i).toNat)
  case atStart => exact ⟨0, Nat.zero_le _, rfl, hown0, hb0⟩
  case round =>
    obtain ⟨k, hk, rfl, hown, hb⟩ := hrel
    clear hown0 hb0
    by_cases hlt : k < len
    · obtain ⟨b, off, had, hbw, hcell⟩ := hc.out k hlt
      have hcx : wr.cell? ⟨b, off + k, none⟩ = some (.int .u8 (z[k]?.getD 0)) := by
        have := (hb.cell (p := ⟨b, off + k, none⟩) hbw).trans (hcell k hlt)
        simpa [List.getD] using this
      clear hcell
      obtain ⟨v, hcv⟩ := row_cell hz.out hlt hown
      have hfz : wr.frozen? ⟨w.heap.size, k, none⟩ = false := hown.frozenAt k
      have hrk := hr.out k
      subst had
      have HR : (wr.setCell ⟨w.heap.size, k, none⟩ (.int .u8 (48 + z[k]?.getD 0 % 10))).ownsRow w.heap.size 5 1 (.slice (some ⟨w.heap.size, 0, none⟩) len len) len ((row z (k + 1)).map (Value.int .u8)) := by
        rw [← row_stored z k (by rw [hz.out]; exact hlt)]
        exact (hown.stored k _).1
      have HB : Below w.heap.size w (wr.setCell ⟨w.heap.size, k, none⟩ (.int .u8 (48 + z[k]?.getD 0 % 10))) := hb.setCell (Nat.le_refl _) _
      go_wp2
      go_roundw
      case rel => exact ⟨k + 1, by omega, by go_num, HR, HB⟩
      case measure => simp [intOf]; omega
    · rw [row_full z k (by rw [hz.out]; omega)] at hown
      have hyl : (z.map dgt).length = len := by simp [hz.out]
      have hcy := own_cell hyl hown
      have hconv := run_convert_bytes_arg (P := Yba.prog) wr 40 5 Yba.underlying40 Yba.underlying5 w.heap.size 0 len len (z.map dgt) hyl hcy 9 Yba.underlying9
      have HY : Hid ((z.map dgt).length = len) := hyl
      have HT : Hid ((strOfNums (z.map dgt)).data.toList.all dg = true) := bytes_dg z
      have HS : Hid ((strOfNums (z.map dgt)).size = len) := by show _ = _; rw [strOfNums_size, hyl]
      have HC : Hid (∀ i, i < len → wr.cell? ⟨w.heap.size, 0 + i, none⟩ = some (.int .u8 ((z.map dgt).getD i 0))) := hcy
      have hts : (strOfNums (z.map dgt)).size ≤ 1024 := by rw [HS.out]; exact hl
      have HI : Hid (isInt ((⟨#[45]⟩ : ByteArray) ++ strOfNums (z.map dgt)).data.toList = decide ((0 : Int) < (len : Int))) := built_first _ _ _ (by unfold Pre; simp) HT.out HS.out
      obtain ⟨q, hq⟩ : ∃ q : Nat, a3 % ((len : Int) + 1) = (q : Int) := ⟨(a3 % ((len : Int) + 1)).toNat, (Int.toNat_of_nonneg (Int.emod_nonneg _ (by omega))).symm⟩
      have hq1 : q ≤ len := by have := Int.emod_lt_of_pos a3 (show (0 : Int) < (len : Int) + 1 by omega); omega
      have hb8 : 0 ≤ a2 % 8 ∧ a2 % 8 < 8 := by omega
      have hsz1 : w.heap.size < wr.heap.size := (hown.lt _ rfl).2
      clear hyl hcy hown hc hr hz
      generalize z.map dgt = y at *
      go_wp2_with fail
      refine (isInteger_any _ _ ?hsz).mono ?_
      case hsz => rw [ByteArray.size_append]; unfold maxLen; have hp1 : (⟨#[45]⟩ : ByteArray).size ≤ 1 := by decide
                  omega
      rintro e w1 ⟨rfl, rfl⟩
      rw [HI.out]
      go_wp2_with (at_make; refine wpList_make_own _ rfl _ _ 40 rfl w1.heap.size 5 i0 (.int .u8 0) 1 Yba.underlying40 hi hz0 hz1 _ _ _ (len + 1) rfl rfl (by omega) ?b2' ?b3' (Nat.le_refl _) ?_)
      case b2' => rw [hz2]; omega
      case b3' => unfold maxLen; omega
      intro w2 hown2 hgrow2
      have HC2 : Hid (∀ i, i < len → w2.cell? ⟨w.heap.size, 0 + i, none⟩ = some (.int .u8 (y.getD i 0))) := fun i hi' => hgrow2.cell (HC.out i hi') (fun e => by cases e)
      go_wp2_with (at_builtin; (refine wpList_append_fits_any _ rfl (.tmp 67) (.tmp 70) 40 rfl w1.heap.size 5 i0 1 Yba.underlying40 hi hz1 w1.heap.size 0 (len + 1) _ rfl hown2 _ q _ ((y.take q).map (Value.int .u8)) rfl ?l1 ?l2 ?l3 (ints_oneCell _ _) ?l4 ?_))
      case l1 => simp [HY.out]; omega
      case l2 => intro h; first | cases h | (split at h <;> cases h)
      case l3 => exact cells_upto HY.out HC2.out (by first | rfl | simp | (split <;> simp))
      case l4 => omega
      intro w3 hown3 hgrow3
      have h8 : (a2 % 8).toNat < (⟨#[47, 58, 97, 32, 46, 120, 255, 95]⟩ : ByteArray).size := by show _ < 8; omega
      have HB8 : Hid (dg ((⟨#[47, 58, 97, 32, 46, 120, 255, 95]⟩ : ByteArray)[(a2 % 8).toNat]'h8) = false ∧ sg ((⟨#[47, 58, 97, 32, 46, 120, 255, 95]⟩ : ByteArray)[(a2 % 8).toNat]'h8) = false) := table_bad _ h8
      generalize (⟨#[47, 58, 97, 32, 46, 120, 255, 95]⟩ : ByteArray)[(a2 % 8).toNat]'h8 = c at *
      clear h8
      go_wp2_with (at_builtin; (refine wpList_append_fits _ rfl (.tmp 72) (.tmp 74) 40 rfl w1.heap.size 5 i0 1 Yba.underlying40 hi hz1 w1.heap.size q (len + 1) _ rfl (hown3.alloc _) ⟨w3.heap.size, 0, none⟩ 1 1 [.int .u8 (c.toNat : Int)] rfl rfl ?m1 ?m2 ?m3 ?_))
      case m1 => exact one_cell_at _ _ _
      case m2 => intro u hu; simp at hu; subst hu; rfl
      case m3 => omega
      intro w4 hown4 hgrow4
      have HC4 : Hid (∀ i, i < len → w4.cell? ⟨w.heap.size, 0 + i, none⟩ = some (.int .u8 (y.getD i 0))) := fun i hi' => by
        have h3 := hgrow3.cell (HC2.out i hi') (fun e => by have h2 : w.heap.size = w1.heap.size := Option.some.inj e; omega)
        exact hgrow4.cell ((World.grownBy_alloc w3 _ none).cell h3 (fun e => by cases e)) (fun e => by have h2 : w.heap.size = w1.heap.size := Option.some.inj e; omega)
      have HI5 : Hid (isInt ((⟨#[45]⟩ : ByteArray) ++ strOfNums (mid y q c)).data.toList = false) := built_second _ _ _ _ (by unfold Pre; simp) HT.out HB8.out
      have hts5 : (strOfNums (mid y q c)).size ≤ 1025 := by rw [strOfNums_size, mid_length y q len c HY.out hq1]; omega
      have hB4 : Below w.heap.size w w4 := (((hb.grown hgrow2 (by omega) (fun k e => by cases e)).grown hgrow3 (by have := hgrow2.size; omega) (fun k e => by cases e; omega)).alloc (by have := hgrow2.size; have := hgrow3.size; omega) _).grown hgrow4 (by simp; have := hgrow2.size; have := hgrow3.size; omega) (fun k e => by cases e; omega)
      have hs4 : w.heap.size ≤ w4.heap.size := hB4.size
      clear hgrow2 hgrow3 hgrow4 hown2 hown3 HC HC2 hconv hb
      by_cases hql : q < len
      · have hne : ¬ len = q := by omega
        go_wp2_with (at_builtin; (refine wpList_append_fits_any _ rfl (.tmp 76) (.tmp 79) 40 rfl w1.heap.size 5 i0 1 Yba.underlying40 hi hz1 w1.heap.size (q + 1) (len + 1) _ rfl hown4 _ (len - q) _ ((y.drop q).map (Value.int .u8)) rfl ?n1 ?n2 ?n3 (ints_oneCell _ _) ?n4 ?_))
        case n1 => simp [HY.out]
        case n2 => intro h; cases h
        case n3 => exact cells_from HY.out (Nat.le_refl _) HC4.out (by intro h; simp)
        case n4 => omega
        intro w5 hown5 hgrow5
        rw [mid_form] at hown5
        have hconv5 := mid_conv (N := q + 1 + (len - q)) HY.out hq1 (by omega) hown5
        have hB5 : Below w.heap.size w w5 := hB4.grown hgrow5 hs4 (fun k e => by cases e; omega)
        clear hgrow5 hown5 hB4 hown4
        go_wp2_with fail
        refine (isInteger_any _ _ ?hsz').mono ?_
        case hsz' => rw [ByteArray.size_append]; unfold maxLen; have hp1 : (⟨#[45]⟩ : ByteArray).size ≤ 1 := by decide
                     omega
        rintro e w6 ⟨rfl, rfl⟩
        rw [HI5.out]
        go_wp2_with fail
        go_ret
        exact ⟨rfl, hB5⟩
      · obtain rfl : q = len := by omega
        go_wp2_with (at_builtin; (refine wpList_append_fits_any _ rfl (.tmp 76) (.tmp 79) 40 rfl w1.heap.size 5 i0 1 Yba.underlying40 hi hz1 w1.heap.size (q + 1) (q + 1) _ rfl hown4 _ 0 _ [] rfl rfl ?o2 ?o3 ?o5 ?o4 ?_))
        case o3 => intro ad' _ j u hu; simp at hu
        case o5 => intro u hu; cases hu
        case o4 => omega
        intro w5 hown5 hgrow5
        rw [mid_form_end _ _ _ (by rw [HY.out]; omega)] at hown5
        have hconv5 := mid_conv (N := q + 1) HY.out hq1 (by omega) hown5
        have hB5 : Below w.heap.size w w5 := hB4.grown hgrow5 hs4 (fun k e => by cases e; omega)
        clear hgrow5 hown5 hB4 hown4
        go_wp2_with fail
        refine (isInteger_any _ _ ?hszz).mono ?_
        case hszz => rw [ByteArray.size_append]; unfold maxLen; have hp1 : (⟨#[45]⟩ : ByteArray).size ≤ 1 := by decide
                     omega
        rintro e w6 ⟨rfl, rfl⟩
        rw [HI5.out]
        go_wp2_with fail
        go_ret
        exact ⟨rfl, hB5⟩

end Go.Proofs.Ybulkcdes
