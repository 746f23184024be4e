/- The walks of the name's functions. -/
import Derived.Test.Qxb6600249aRows
import Derived.Test.Qxb6600249aPlain
import Derived.WalkKit
import Derived.WalkSpells
import Derived.WalkLawsBesides
import Derived.Lib.ConvBytes
namespace Go.Proofs.Qxb6600249a
open Go.RowKit

theorem ret_int {k : IntKind} {a b : Int} (h : a = b) : Ending.returned (.int k a) = .returned (.int k b) := by rw [h]
theorem ret_bool {a b : Bool} (h : a = b) : Ending.returned (.bool a) = .returned (.bool b) := by rw [h]

set_option maxRecDepth 100000 in
set_option maxHeartbeats 400000 in
theorem class_any (b : Nat) (w : World) :
    Calls Try.prog 37 #[.int .u8 b] w fun e w' => e = .returned (.int .i64 (DP.cls b : Nat)) ∧ w' = w := by
  go_enter Try.func37, Try.ntmps37
  go_wp2
  all_goals go_ret
  all_goals refine ⟨ret_int ?_, rfl⟩
  all_goals unfold DP.cls
  all_goals simp only [beq_iff_eq, beq_eq_false_iff_ne] at *
  all_goals repeat' split
  all_goals omega

set_option maxRecDepth 100000 in
set_option maxHeartbeats 1000000 in
theorem auto_any (s : ByteArray) (w : World) (hs : s.size ≤ 1048576) :
    Calls Try.prog 21 #[.string s] w fun e w' => e = .returned (.bool (DP.vB s)) ∧ w' = w := by
  go_enter Try.func21, Try.ntmps21
  go_wp2
  go_loop [3, 4] (fun t i => ∃ k : Nat, i = .int .i64 k ∧ k ≤ s.size ∧ t = .int .i64 (DP.st s k : Nat)) (fun _ i => s.size - (intOf i).toNat)
  case atStart => exact ⟨0, rfl, Nat.zero_le _, rfl⟩
  case round =>
    obtain ⟨k, rfl, hk, rfl⟩ := hrel
    by_cases hlt : k < s.size
    · have HS : Hid (DP.st s (k + 1) = _) := DP.st_succ s k
      have HB : Hid (DP.bat s k = s[k].toNat) := DP.bat_eq s k hlt
      have hl := DP.st_le s k
      go_wp2_with (go_at_call 37; refine (class_any _ _).mono ?_; rintro e w' ⟨rfl, rfl⟩)
      all_goals go_round
      all_goals first
        | (case rel =>
            refine ⟨k + 1, by go_num, by omega, congrArg (Value.int .i64) ?_⟩
            rw [HS.out, HB.out]
            simp only [beq_iff_eq, beq_eq_false_iff_ne] at *
            repeat' split
            all_goals omega)
        | skip
      all_goals (simp [intOf]; omega)
    · have HV : Hid (DP.vB s = decide (DP.st s s.size = 1)) := DP.vB_st s
      obtain rfl : k = s.size := by omega
      go_wp2
      go_ret
      refine ⟨ret_bool ?_, rfl⟩
      rw [HV.out, Bool.eq_iff_iff, beq_iff_eq, decide_eq_true_eq]
      omega

set_option maxRecDepth 100000 in
set_option maxHeartbeats 1000000 in
theorem valid_any (s : ByteArray) (w : World) (hs : s.size ≤ 1048576) :
    Calls Try.prog 36 #[.string s] w fun e w' => e = .returned (.bool (DP.vB s)) ∧ Below w.heap.size w w' := by
  by_cases h0 : s.size = 0
  · have he : s.toList.isEmpty = true := by
      rw [ByteArray.toList_eq, List.isEmpty_iff, ← List.length_eq_zero_iff, Array.length_toList]; exact h0
    have HV : Hid (DP.vB s = false) := by
      show _ = _
      unfold DP.vB; rw [h0]; rfl
    go_enter Try.func36, Try.ntmps36
    go_wp2
    go_ret
    exact ⟨ret_bool HV.out.symm, Below.refl _ _⟩
  · have he : s.toList.isEmpty = false := by
      cases h : s.toList.isEmpty
      · rfl
      · rw [ByteArray.toList_eq, List.isEmpty_iff, ← List.length_eq_zero_iff, Array.length_toList] at h; exact absurd h h0
    have hcv := Lib.run_convert_string_bytes (P := Try.prog) w 9 23 5 s Try.underlying9 Try.underlying23 Try.underlying5
    have hcell : ∀ k, k < s.size → (Lib.bytesWorld w 5 s).cell? ⟨w.heap.size, k, none⟩ = some (.int .u8 (DP.bat s k : Nat)) := fun k hk => by
      rw [Lib.bytesWorld_cell w 5 s k hk, DP.bat_eq s k hk]
      have hk' : k < s.data.toList.length := by rw [Array.length_toList]; exact hk
      rw [List.getD_eq_getElem?_getD, List.getElem?_eq_getElem hk']
      rfl
    have hbel : Below w.heap.size w (Lib.bytesWorld w 5 s) := ⟨rfl, rfl, rfl, by rw [Lib.bytesWorld_size]; omega, fun k hk => Lib.bytesWorld_at_old w 5 s k hk⟩
    revert hcv hcell hbel
    generalize Lib.bytesWorld w 5 s = wb
    generalize grownCap w s.size 0 5 = cap
    intro hcv hcell hbel
    have HC : Hid (∀ k, k < s.size → wb.cell? ⟨w.heap.size, k, none⟩ = some (.int .u8 (DP.bat s k : Nat))) := hcell
    clear hcell
    have HV : Hid (DP.vB s = DP.allOk s s.size) := by
      show _ = _
      unfold DP.vB
      rw [show decide (0 < s.size) = true by rw [decide_eq_true_eq]; omega, Bool.true_and]
    go_enter Try.func36, Try.ntmps36
    go_wp2
    go_loop [11] (fun i => ∃ k : Nat, i = .int .i64 k ∧ k ≤ s.size ∧ DP.allOk s k = true) (fun i => s.size - (intOf i).toNat)
    case atStart => exact ⟨0, rfl, Nat.zero_le _, rfl⟩
    case round =>
      obtain ⟨k, rfl, hk, hok⟩ := hrel
      have HO : Hid (DP.allOk s k = true) := hok
      clear hok
      by_cases hlt : k < s.size
      · have hc := HC.out k hlt
        have HS : Hid (DP.allOk s (k + 1) = (DP.allOk s k && DP.okAt (DP.bat s k) k)) := rfl
        revert hc HS
        generalize DP.bat s k = b
        intro hc HS
        have hr : (b < 48) ∨ (48 ≤ b ∧ b ≤ 57) ∨ (58 ≤ b ∧ b ≤ 64) ∨ (65 ≤ b ∧ b ≤ 90) ∨ (91 ≤ b ∧ b ≤ 94) ∨ (b = 95) ∨ (b = 96) ∨ (97 ≤ b ∧ b ≤ 122) ∨ (123 ≤ b) := by omega
        rcases hr with hr | hr | hr | hr | hr | hr | hr | hr | hr
        · -- b < 48
          have q95 : ((b : Int) == 95) = false := by rw [beq_eq_false_iff_ne]; omega
          have hc2 : DP.cls b = 2 := by (unfold DP.cls; repeat' split) <;> omega
          by_cases hk0 : k = 0
          · subst hk0
            have HOK : Hid (DP.okAt b 0 = false) := by
              show _ = _
              unfold DP.okAt; rw [hc2]; rfl
            go_wp2
            go_ret
            exact ⟨ret_bool (by rw [HV.out, DP.allOk_false s (0 + 1) s.size (by omega) (by rw [HS.out, HOK.out, Bool.and_false])]), hbel⟩
          · have qk : ((k : Int) == 0) = false := by rw [beq_eq_false_iff_ne]; omega
            have HOK : Hid (DP.okAt b k = false) := by
              show _ = _
              unfold DP.okAt; rw [hc2, decide_eq_true hk0]; rfl
            go_wp2
            go_ret
            exact ⟨ret_bool (by rw [HV.out, DP.allOk_false s (k + 1) s.size (by omega) (by rw [HS.out, HOK.out, Bool.and_false])]), hbel⟩
        · -- 48 ≤ b ∧ b ≤ 57
          obtain ⟨r1, r2⟩ := hr
          have q95 : ((b : Int) == 95) = false := by rw [beq_eq_false_iff_ne]; omega
          have hc1 : DP.cls b = 1 := by (unfold DP.cls; repeat' split) <;> omega
          by_cases hk0 : k = 0
          · subst hk0
            have HOK : Hid (DP.okAt b 0 = false) := by
              show _ = _
              unfold DP.okAt; rw [hc1]; rfl
            go_wp2
            go_ret
            exact ⟨ret_bool (by rw [HV.out, DP.allOk_false s (0 + 1) s.size (by omega) (by rw [HS.out, HOK.out, Bool.and_false])]), hbel⟩
          · have qk : ((k : Int) == 0) = false := by rw [beq_eq_false_iff_ne]; omega
            have HOK : Hid (DP.okAt b k = true) := by
              show _ = _
              unfold DP.okAt; rw [hc1, decide_eq_true hk0]; rfl
            go_wp2
            go_round
            case rel => exact ⟨k + 1, by go_num, by omega, by rw [HS.out, HO.out, HOK.out]; rfl⟩
            case measure => simp [intOf]; omega
        · -- 58 ≤ b ∧ b ≤ 64
          obtain ⟨r1, r2⟩ := hr
          have q95 : ((b : Int) == 95) = false := by rw [beq_eq_false_iff_ne]; omega
          have hc2 : DP.cls b = 2 := by (unfold DP.cls; repeat' split) <;> omega
          by_cases hk0 : k = 0
          · subst hk0
            have HOK : Hid (DP.okAt b 0 = false) := by
              show _ = _
              unfold DP.okAt; rw [hc2]; rfl
            go_wp2
            go_ret
            exact ⟨ret_bool (by rw [HV.out, DP.allOk_false s (0 + 1) s.size (by omega) (by rw [HS.out, HOK.out, Bool.and_false])]), hbel⟩
          · have qk : ((k : Int) == 0) = false := by rw [beq_eq_false_iff_ne]; omega
            have HOK : Hid (DP.okAt b k = false) := by
              show _ = _
              unfold DP.okAt; rw [hc2, decide_eq_true hk0]; rfl
            go_wp2
            go_ret
            exact ⟨ret_bool (by rw [HV.out, DP.allOk_false s (k + 1) s.size (by omega) (by rw [HS.out, HOK.out, Bool.and_false])]), hbel⟩
        · -- 65 ≤ b ∧ b ≤ 90
          obtain ⟨r1, r2⟩ := hr
          have q95 : ((b : Int) == 95) = false := by rw [beq_eq_false_iff_ne]; omega
          have HOK : Hid (DP.okAt b k = true) := by
            show _ = _
            have hc0 : DP.cls b = 0 := by (unfold DP.cls; repeat' split) <;> omega
            unfold DP.okAt; rw [hc0]; rfl
          go_wp2
          go_round
          case rel => exact ⟨k + 1, by go_num, by omega, by rw [HS.out, HO.out, HOK.out]; rfl⟩
          case measure => simp [intOf]; omega
        · -- 91 ≤ b ∧ b ≤ 94
          obtain ⟨r1, r2⟩ := hr
          have q90 : decide ((b : Int) ≤ 90) = false := by rw [decide_eq_false_iff_not]; omega
          have q95 : ((b : Int) == 95) = false := by rw [beq_eq_false_iff_ne]; omega
          have hc2 : DP.cls b = 2 := by (unfold DP.cls; repeat' split) <;> omega
          by_cases hk0 : k = 0
          · subst hk0
            have HOK : Hid (DP.okAt b 0 = false) := by
              show _ = _
              unfold DP.okAt; rw [hc2]; rfl
            go_wp2
            go_ret
            exact ⟨ret_bool (by rw [HV.out, DP.allOk_false s (0 + 1) s.size (by omega) (by rw [HS.out, HOK.out, Bool.and_false])]), hbel⟩
          · have qk : ((k : Int) == 0) = false := by rw [beq_eq_false_iff_ne]; omega
            have HOK : Hid (DP.okAt b k = false) := by
              show _ = _
              unfold DP.okAt; rw [hc2, decide_eq_true hk0]; rfl
            go_wp2
            go_ret
            exact ⟨ret_bool (by rw [HV.out, DP.allOk_false s (k + 1) s.size (by omega) (by rw [HS.out, HOK.out, Bool.and_false])]), hbel⟩
        · -- b = 95
          subst hr
          have HOK : Hid (DP.okAt 95 k = true) := by
            show _ = _
            have hc0 : DP.cls 95 = 0 := by (unfold DP.cls; repeat' split) <;> omega
            unfold DP.okAt; rw [hc0]; rfl
          go_wp2
          go_round
          case rel => exact ⟨k + 1, by go_num, by omega, by rw [HS.out, HO.out, HOK.out]; rfl⟩
          case measure => simp [intOf]; omega
        · -- b = 96
          subst hr
          have hc2 : DP.cls 96 = 2 := by (unfold DP.cls; repeat' split) <;> omega
          by_cases hk0 : k = 0
          · subst hk0
            have HOK : Hid (DP.okAt 96 0 = false) := by
              show _ = _
              unfold DP.okAt; rw [hc2]; rfl
            go_wp2
            go_ret
            exact ⟨ret_bool (by rw [HV.out, DP.allOk_false s (0 + 1) s.size (by omega) (by rw [HS.out, HOK.out, Bool.and_false])]), hbel⟩
          · have qk : ((k : Int) == 0) = false := by rw [beq_eq_false_iff_ne]; omega
            have HOK : Hid (DP.okAt 96 k = false) := by
              show _ = _
              unfold DP.okAt; rw [hc2, decide_eq_true hk0]; rfl
            go_wp2
            go_ret
            exact ⟨ret_bool (by rw [HV.out, DP.allOk_false s (k + 1) s.size (by omega) (by rw [HS.out, HOK.out, Bool.and_false])]), hbel⟩
        · -- 97 ≤ b ∧ b ≤ 122
          obtain ⟨r1, r2⟩ := hr
          have q95 : ((b : Int) == 95) = false := by rw [beq_eq_false_iff_ne]; omega
          have HOK : Hid (DP.okAt b k = true) := by
            show _ = _
            have hc0 : DP.cls b = 0 := by (unfold DP.cls; repeat' split) <;> omega
            unfold DP.okAt; rw [hc0]; rfl
          go_wp2
          go_round
          case rel => exact ⟨k + 1, by go_num, by omega, by rw [HS.out, HO.out, HOK.out]; rfl⟩
          case measure => simp [intOf]; omega
        · -- 123 ≤ b
          have q90 : decide ((b : Int) ≤ 90) = false := by rw [decide_eq_false_iff_not]; omega
          have q122 : decide ((b : Int) ≤ 122) = false := by rw [decide_eq_false_iff_not]; omega
          have q95 : ((b : Int) == 95) = false := by rw [beq_eq_false_iff_ne]; omega
          have hc2 : DP.cls b = 2 := by (unfold DP.cls; repeat' split) <;> omega
          by_cases hk0 : k = 0
          · subst hk0
            have HOK : Hid (DP.okAt b 0 = false) := by
              show _ = _
              unfold DP.okAt; rw [hc2]; rfl
            go_wp2
            go_ret
            exact ⟨ret_bool (by rw [HV.out, DP.allOk_false s (0 + 1) s.size (by omega) (by rw [HS.out, HOK.out, Bool.and_false])]), hbel⟩
          · have qk : ((k : Int) == 0) = false := by rw [beq_eq_false_iff_ne]; omega
            have HOK : Hid (DP.okAt b k = false) := by
              show _ = _
              unfold DP.okAt; rw [hc2, decide_eq_true hk0]; rfl
            go_wp2
            go_ret
            exact ⟨ret_bool (by rw [HV.out, DP.allOk_false s (k + 1) s.size (by omega) (by rw [HS.out, HOK.out, Bool.and_false])]), hbel⟩
      · obtain rfl : k = s.size := by omega
        go_wp2
        go_ret
        exact ⟨ret_bool (by rw [HV.out, HO.out]), hbel⟩

set_option maxRecDepth 100000 in
set_option maxHeartbeats 400000 in
theorem zzValid_any (s : ByteArray) (w : World) (hs : s.size ≤ 1048576) :
    Calls Try.prog 20 #[.string s] w fun e w' => e = .returned (.bool (DP.vB s)) ∧ Below w.heap.size w w' := by
  go_enter Try.func20, Try.ntmps20
  go_wp2_with (go_at_call 36; refine (valid_any s _ hs).mono ?_; rintro e w' ⟨rfl, hb⟩)
  go_ret
  exact ⟨rfl, hb⟩

set_option maxRecDepth 100000 in
set_option maxHeartbeats 400000 in
theorem zz_ok (s : ByteArray) (w : World) (h : s.size ≤ 1048576) :
    Calls Try.prog 19 #[.string s] w fun e w' => e = .returned (.bool true) ∧ w' = w := by
  go_enter Try.func19, Try.ntmps19
  go_wp2
  go_ret
  exact ⟨rfl, rfl⟩

set_option maxRecDepth 100000 in
set_option maxHeartbeats 400000 in
theorem zz_big (s : ByteArray) (w : World) (hm : s.size ≤ maxLen) (h : ¬ s.size ≤ 1048576) :
    Calls Try.prog 19 #[.string s] w fun e w' => e = .returned (.bool false) ∧ w' = w := by
  unfold maxLen at hm
  go_enter Try.func19, Try.ntmps19
  go_wp2
  go_ret
  exact ⟨rfl, rfl⟩

set_option maxRecDepth 100000 in
set_option maxHeartbeats 400000 in
theorem law_dfa (s : ByteArray) (w : World) (hm : s.size ≤ maxLen) :
    Calls Try.prog 5 #[.string s] w fun e w' => e = .returned (.bool true) ∧ Below w.heap.size w w' := by
  by_cases hs : s.size ≤ 1048576
  · go_enter Try.func5, Try.ntmps5
    go_wp2_with (first
      | (go_at_call 19; refine (zz_ok s _ hs).mono ?_; rintro e w' ⟨rfl, rfl⟩)
      | (go_at_call 20; refine (zzValid_any s _ hs).mono ?_; rintro e w1 ⟨rfl, hb⟩)
      | (go_at_call 21; refine (auto_any s _ hs).mono ?_; rintro e w2 ⟨rfl, rfl⟩))
    go_ret
    exact ⟨ret_bool (by simp), hb⟩
  · go_enter Try.func5, Try.ntmps5
    go_wp2_with (go_at_call 19; refine (zz_big s _ hm hs).mono ?_; rintro e w' ⟨rfl, rfl⟩)
    go_ret
    exact ⟨rfl, Below.refl _ _⟩
end Go.Proofs.Qxb6600249a
