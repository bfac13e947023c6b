/-
  THE WALKS OF 'isInteger' (15) AND OF THE LAW's STATE MACHINE 'zzs3970cmodel' (16).
-/
import Derived.Test.YbulkcdesRows
import Derived.WalkKit
import Derived.WalkSpells
import Derived.WalkLawsBesides
import Derived.Test.YbulkcdesPlain
namespace Go.Proofs.Ybulkcdes
open Go.RowKit
open Plain

theorem ret_bool {a b : Bool} (h : a = b) : Ending.returned (.bool a) = .returned (.bool b) := by rw [h]

set_option maxHeartbeats 400000 in
theorem isInteger_any (s : ByteArray) (w : World) (hs : s.size ≤ maxLen) :
    Calls Yba.prog 15 #[.string s] w fun e w' => e = .returned (.bool (isInt s.data.toList)) ∧ w' = w := by
  unfold maxLen at hs
  have hemp := empty_of_size s
  by_cases h0 : s.size = 0
  · have he : s.toList.isEmpty = true := by rw [hemp]; simp [h0]
    have HF : Hid (isInt s.data.toList = false) := by
      have : s.data.toList = [] := List.eq_nil_of_length_eq_zero (by rw [data_length]; exact h0)
      show isInt s.data.toList = false
      rw [this]; rfl
    clear hemp
    go_enter Yba.func15, Yba.ntmps15
    go_wp2
    go_loop [20] (fun i => i = .int .i64 0) (fun _ => 0)
    case atStart => rfl
    case round =>
      subst hrel
      go_wp2
      go_ret
      exact ⟨ret_bool HF.out.symm, rfl⟩
  · have he : s.toList.isEmpty = false := by rw [hemp]; simp [h0]
    have hp : 0 < s.size := by omega
    have hdc := data_cons s hp
    clear hemp
    by_cases c1 : (s[0].toNat : Int) = 43
    · have HF : Hid (isInt s.data.toList = digs (s.extract 1 s.size).data.toList) := by
        show isInt s.data.toList = _
        rw [hdc]; exact isInt_sign _ _ (by simp [sg]; omega)
      clear hdc
      have c1' : ((s[0].toNat : Int) == 43) = true := by simp [c1]
      clear c1
      go_enter Yba.func15, Yba.ntmps15
      go_wp2
      have e19 : s.size - 1 = (s.extract 1 s.size).size := by simp
      rw [e19]
      clear e19
      have hsz : (s.extract 1 s.size).size ≤ 9223372036854775807 := by simp; omega
      generalize s.extract 1 s.size = t at *
      go_loop [20] (fun i => ∃ k : Nat, k ≤ t.size ∧ i = .int .i64 k ∧ Hid ((t.data.toList.take k).all dg = true)) (fun i => t.size - (intOf i).toNat)
      case atStart => exact ⟨0, Nat.zero_le _, rfl, rfl⟩
      case round =>
        obtain ⟨k, hk, rfl, Ha⟩ := hrel
        by_cases hlt : k < t.size
        · by_cases d1 : (t[k].toNat : Int) < 48
          · have HM : Hid (digs t.data.toList = false) := digs_miss t k hlt (dg_lo _ d1)
            go_wp2
            go_ret
            exact ⟨ret_bool (by rw [HF.out, HM.out]), rfl⟩
          · by_cases d2 : (57 : Int) < (t[k].toNat : Int)
            · have HM : Hid (digs t.data.toList = false) := digs_miss t k hlt (dg_hi _ d2)
              go_wp2
              go_ret
              exact ⟨ret_bool (by rw [HF.out, HM.out]), rfl⟩
            · have HN : Hid ((t.data.toList.take (k + 1)).all dg = true) := all_snoc t k hlt Ha.out (dg_in _ (by omega) (by omega))
              go_wp2
              go_round
              case rel => exact ⟨k + 1, by omega, by go_num, HN⟩
              case measure => simp [intOf]; omega
        · have HM : Hid (digs t.data.toList = !t.toList.isEmpty) := digs_all t k hlt Ha.out
          go_wp2
          go_ret
          exact ⟨ret_bool (by rw [HF.out, HM.out]), rfl⟩
    by_cases c2 : (s[0].toNat : Int) = 45
    · have HF : Hid (isInt s.data.toList = digs (s.extract 1 s.size).data.toList) := by
        show isInt s.data.toList = _
        rw [hdc]; exact isInt_sign _ _ (by simp [sg]; omega)
      clear hdc
      have c1' : ((s[0].toNat : Int) == 43) = false := by simp [c1]
      have c2' : ((s[0].toNat : Int) == 45) = true := by simp [c2]
      clear c1 c2
      go_enter Yba.func15, Yba.ntmps15
      go_wp2
      have e19 : s.size - 1 = (s.extract 1 s.size).size := by simp
      rw [e19]
      clear e19
      have hsz : (s.extract 1 s.size).size ≤ 9223372036854775807 := by simp; omega
      generalize s.extract 1 s.size = t at *
      go_loop [20] (fun i => ∃ k : Nat, k ≤ t.size ∧ i = .int .i64 k ∧ Hid ((t.data.toList.take k).all dg = true)) (fun i => t.size - (intOf i).toNat)
      case atStart => exact ⟨0, Nat.zero_le _, rfl, rfl⟩
      case round =>
        obtain ⟨k, hk, rfl, Ha⟩ := hrel
        by_cases hlt : k < t.size
        · by_cases d1 : (t[k].toNat : Int) < 48
          · have HM : Hid (digs t.data.toList = false) := digs_miss t k hlt (dg_lo _ d1)
            go_wp2
            go_ret
            exact ⟨ret_bool (by rw [HF.out, HM.out]), rfl⟩
          · by_cases d2 : (57 : Int) < (t[k].toNat : Int)
            · have HM : Hid (digs t.data.toList = false) := digs_miss t k hlt (dg_hi _ d2)
              go_wp2
              go_ret
              exact ⟨ret_bool (by rw [HF.out, HM.out]), rfl⟩
            · have HN : Hid ((t.data.toList.take (k + 1)).all dg = true) := all_snoc t k hlt Ha.out (dg_in _ (by omega) (by omega))
              go_wp2
              go_round
              case rel => exact ⟨k + 1, by omega, by go_num, HN⟩
              case measure => simp [intOf]; omega
        · have HM : Hid (digs t.data.toList = !t.toList.isEmpty) := digs_all t k hlt Ha.out
          go_wp2
          go_ret
          exact ⟨ret_bool (by rw [HF.out, HM.out]), rfl⟩
    have HF : Hid (isInt s.data.toList = digs s.data.toList) := by
      refine isInt_plain _ fun c r e => ?_
      rw [hdc] at e
      injection e with e1 e2
      rw [← e1]
      simp [sg]
      omega
    clear hdc
    have c1' : ((s[0].toNat : Int) == 43) = false := by simp [c1]
    have c2' : ((s[0].toNat : Int) == 45) = false := by simp [c2]
    clear c1 c2
    go_enter Yba.func15, Yba.ntmps15
    go_wp2
    go_loop [20] (fun i => ∃ k : Nat, k ≤ s.size ∧ i = .int .i64 k ∧ Hid ((s.data.toList.take k).all dg = true)) (fun i => s.size - (intOf i).toNat)
    case atStart => exact ⟨0, Nat.zero_le _, rfl, rfl⟩
    case round =>
      obtain ⟨k, hk, rfl, Ha⟩ := hrel
      by_cases hlt : k < s.size
      · by_cases d1 : (s[k].toNat : Int) < 48
        · have HM : Hid (digs s.data.toList = false) := digs_miss s k hlt (dg_lo _ d1)
          go_wp2
          go_ret
          exact ⟨ret_bool (by rw [HF.out, HM.out]), rfl⟩
        · by_cases d2 : (57 : Int) < (s[k].toNat : Int)
          · have HM : Hid (digs s.data.toList = false) := digs_miss s k hlt (dg_hi _ d2)
            go_wp2
            go_ret
            exact ⟨ret_bool (by rw [HF.out, HM.out]), rfl⟩
          · have HN : Hid ((s.data.toList.take (k + 1)).all dg = true) := all_snoc s k hlt Ha.out (dg_in _ (by omega) (by omega))
            go_wp2
            go_round
            case rel => exact ⟨k + 1, by omega, by go_num, HN⟩
            case measure => simp [intOf]; omega
      · have HM : Hid (digs s.data.toList = !s.toList.isEmpty) := digs_all s k hlt Ha.out
        go_wp2
        go_ret
        exact ⟨ret_bool (by rw [HF.out, HM.out, he]; rfl), rfl⟩

set_option maxHeartbeats 400000 in
theorem cmodel_any (s : ByteArray) (w : World) (hs : s.size ≤ maxLen) :
    Calls Yba.prog 16 #[.string s] w fun e w' => e = .returned (.bool (mach 0 s.data.toList)) ∧ w' = w := by
  unfold maxLen at hs
  go_enter Yba.func16, Yba.ntmps16
  go_wp2
  go_loop [3, 4] (fun t i => ∃ k st : Nat, k ≤ s.size ∧ st ≤ 2 ∧ i = .int .i64 k ∧ t = .int .i64 st ∧ Hid (mach st (s.data.toList.drop k) = mach 0 s.data.toList)) (fun _ i => s.size - (intOf i).toNat)
  case atStart => exact ⟨0, 0, Nat.zero_le _, by omega, rfl, rfl, rfl⟩
  case round =>
    obtain ⟨k, st, hk, hst, rfl, rfl, Ha⟩ := hrel
    by_cases hlt : k < s.size
    · have hdr := drop_cons s k hlt
      by_cases d : 48 ≤ (s[k].toNat : Int) ∧ (s[k].toNat : Int) ≤ 57
      · obtain ⟨d1, d2⟩ := d
        have HN : Hid (mach 2 (s.data.toList.drop (k + 1)) = mach 0 s.data.toList) := by
          show mach 2 (s.data.toList.drop (k + 1)) = mach 0 s.data.toList
          rw [← Ha.out, hdr]; simp only [mach, dg_in _ d1 d2, if_true]
        clear hdr
        go_wp2
        go_round
        case rel => exact ⟨k + 1, 2, by omega, by omega, by go_num, rfl, HN⟩
        case measure => simp [intOf]; omega
      · have dn : dg s[k] = false := dg_out _ d
        by_cases e1 : (s[k].toNat : Int) = 43
        · have sy : sg s[k] = true := by simp [sg]; omega
          have e1' : ((s[k].toNat : Int) == 43) = true := by simp [e1]
          have d1 : (s[k].toNat : Int) < 48 := by omega
          clear d e1
          by_cases z : st = 0
          · have HN : Hid (mach 1 (s.data.toList.drop (k + 1)) = mach 0 s.data.toList) := by
              show mach 1 (s.data.toList.drop (k + 1)) = mach 0 s.data.toList
              rw [← Ha.out, hdr, z]; simp only [mach, dn, sy]; rfl
            clear hdr
            have z' : ((st : Int) == 0) = true := by simp [z]
            go_wp2
            go_round
            case rel => exact ⟨k + 1, 1, by omega, by omega, by go_num, rfl, HN⟩
            case measure => simp [intOf]; omega
          · have HM : Hid (mach 0 s.data.toList = false) := by
              show mach 0 s.data.toList = false
              rw [← Ha.out, hdr]; simp [mach, dn, z]
            clear hdr
            have z' : ((st : Int) == 0) = false := by simp [z]
            go_wp2
            go_ret
            exact ⟨ret_bool HM.out.symm, rfl⟩
        by_cases e2 : (s[k].toNat : Int) = 45
        · have sy : sg s[k] = true := by simp [sg]; omega
          have e1' : ((s[k].toNat : Int) == 43) = false := by simp [e1]
          have e2' : ((s[k].toNat : Int) == 45) = true := by simp [e2]
          have d1 : (s[k].toNat : Int) < 48 := by omega
          clear d e1 e2
          by_cases z : st = 0
          · have HN : Hid (mach 1 (s.data.toList.drop (k + 1)) = mach 0 s.data.toList) := by
              show mach 1 (s.data.toList.drop (k + 1)) = mach 0 s.data.toList
              rw [← Ha.out, hdr, z]; simp only [mach, dn, sy]; rfl
            clear hdr
            have z' : ((st : Int) == 0) = true := by simp [z]
            go_wp2
            go_round
            case rel => exact ⟨k + 1, 1, by omega, by omega, by go_num, rfl, HN⟩
            case measure => simp [intOf]; omega
          · have HM : Hid (mach 0 s.data.toList = false) := by
              show mach 0 s.data.toList = false
              rw [← Ha.out, hdr]; simp [mach, dn, z]
            clear hdr
            have z' : ((st : Int) == 0) = false := by simp [z]
            go_wp2
            go_ret
            exact ⟨ret_bool HM.out.symm, rfl⟩
        have sn : sg s[k] = false := by simp [sg]; omega
        have HM : Hid (mach 0 s.data.toList = false) := by
          show mach 0 s.data.toList = false
          rw [← Ha.out, hdr]; simp [mach, dn, sn]
        clear hdr
        have e1' : ((s[k].toNat : Int) == 43) = false := by simp [e1]
        have e2' : ((s[k].toNat : Int) == 45) = false := by simp [e2]
        clear e1 e2
        by_cases d1 : (s[k].toNat : Int) < 48
        · clear d
          go_wp2
          go_ret
          exact ⟨ret_bool HM.out.symm, rfl⟩
        · have d2 : (57 : Int) < (s[k].toNat : Int) := by omega
          clear d
          go_wp2
          go_ret
          exact ⟨ret_bool HM.out.symm, rfl⟩
    · have HM : Hid (mach 0 s.data.toList = ((st : Int) == 2)) := by
        show mach 0 s.data.toList = _
        rw [← Ha.out, List.drop_eq_nil_of_le (by rw [data_length]; omega)]
        simp only [mach]
        rw [Bool.eq_iff_iff]; simp; omega
      go_wp2
      go_ret
      exact ⟨ret_bool (by rw [HM.out]), rfl⟩

end Go.Proofs.Ybulkcdes
