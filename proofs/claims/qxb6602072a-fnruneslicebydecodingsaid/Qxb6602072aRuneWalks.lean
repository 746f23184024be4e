/- The walks of the functions on the road of FnRuneSliceByDecoding. -/
import Derived.Test.Qxb6602072aRows
import Derived.Test.Qxb6602072aRunePlain
import Derived.WalkKit
import Derived.WalkSpells
import Derived.WalkLawsBesides
import Derived.Lib.AppendStr
namespace Go.Proofs.Qxb6602072a
open Go.RowKit

theorem ret_int {k : IntKind} {a b : Int} (h : a = b) : Ending.returned (.int k a) = .returned (.int k b) := by rw [h]

/-- isContinuation's answer -/
def contB (n : Int) : Bool := decide (128 ≤ n ∧ n ≤ 191)

set_option maxRecDepth 100000 in
set_option maxHeartbeats 400000 in
theorem cont_any (n : Int) (w : World) :
    Calls Try.prog 29 #[.int .u8 n] w fun e w' => e = .returned (.bool (contB n)) ∧ w' = w := by
  by_cases a : 128 ≤ n
  · by_cases b : n ≤ 191
    · have hf : contB n = true := by simp [contB, a, b]
      have HF : Hid (contB n = true) := hf
      clear hf
      go_enter Try.func29, Try.ntmps29
      go_wp2
      go_ret
      exact ⟨by rw [HF.out]; rfl, rfl⟩
    · have HF : Hid (contB n = false) := by simp [Hid, contB, b]
      go_enter Try.func29, Try.ntmps29
      go_wp2
      go_ret
      exact ⟨by rw [HF.out]; rfl, rfl⟩
  · have HF : Hid (contB n = false) := by simp [Hid, contB, a]
    go_enter Try.func29, Try.ntmps29
    go_wp2
    go_ret
    exact ⟨by rw [HF.out]; rfl, rfl⟩

set_option maxRecDepth 100000 in
set_option maxHeartbeats 400000 in
theorem zzbytes_any (s : ByteArray) (a b : Int) (w : World) (h : s.size ≤ 1048576) :
    Calls Try.prog 13 #[.string s, .int .i64 a, .int .i64 b] w fun e w' => e = .returned (.bool true) ∧ w' = w := by
  go_enter Try.func13, Try.ntmps13
  go_wp2
  go_ret
  exact ⟨rfl, rfl⟩

set_option maxRecDepth 100000 in
set_option maxHeartbeats 400000 in
theorem zzbytes_big (s : ByteArray) (a b : Int) (w : World) (hm : s.size ≤ maxLen) (h : ¬ s.size ≤ 1048576) :
    Calls Try.prog 13 #[.string s, .int .i64 a, .int .i64 b] w fun e w' => e = .returned (.bool false) ∧ w' = w := by
  unfold maxLen at hm
  go_enter Try.func13, Try.ntmps13
  go_wp2
  go_ret
  exact ⟨rfl, rfl⟩

set_option maxRecDepth 100000 in
set_option maxHeartbeats 4000000 in
theorem utf8Width_any (s : ByteArray) (i : Nat) (w : World) (hi : i < s.size) (hs : s.size ≤ 1048576) :
    Calls Try.prog 20 #[.string s, .int .i64 i] w fun e w' => e = .returned (.int .i64 (RP.wd s i)) ∧ w' = w := by
  by_cases a : s[i].toNat < 128
  · have HF : Hid (RP.wd s i = 1) := by
      show RP.wd s i = 1
      rw [← RP.uwn_wd, RP.bat_eq s i hi]
      simp [RP.uwn, a]
    go_enter Try.func20, Try.ntmps20
    go_wp2
    go_ret
    exact ⟨ret_int (by rw [HF.out]; rfl), rfl⟩
  · have HW : Hid (RP.wd s i = RP.uwn s.size i s[i].toNat (RP.bat s (i+1)) (RP.bat s (i+2)) (RP.bat s (i+3))) := by
      show RP.wd s i = _
      rw [← RP.uwn_wd, RP.bat_eq s i hi]
    go_enter Try.func20, Try.ntmps20
    go_wp2_with (go_at_call 29; refine (cont_any _ _).mono ?_; rintro e w' ⟨rfl, rfl⟩)
    all_goals go_ret
    all_goals refine ⟨ret_int ?_, rfl⟩
    all_goals rw [HW.out]
    all_goals clear HW
    all_goals try simp only [contB, decide_eq_true_eq, decide_eq_false_iff_not, beq_iff_eq, beq_eq_false_iff_ne] at *
    all_goals
      have e1 : ∀ h : i + 1 < s.size, RP.bat s (i+1) = (s[i+1]'h).toNat := fun h => RP.bat_eq s (i+1) h
      have e2 : ∀ h : i + 2 < s.size, RP.bat s (i+2) = (s[i+2]'h).toNat := fun h => RP.bat_eq s (i+2) h
      have e3 : ∀ h : i + 3 < s.size, RP.bat s (i+3) = (s[i+3]'h).toNat := fun h => RP.bat_eq s (i+3) h
      try replace e1 := e1 (by omega)
      try replace e2 := e2 (by omega)
      try replace e3 := e3 (by omega)
      unfold RP.uwn
      repeat' split
      all_goals first | rfl | omega
theorem ret_str {a b : ByteArray} (h : a = b) : Ending.returned (.string a) = .returned (.string b) := by rw [h]
set_option maxRecDepth 100000 in
set_option maxHeartbeats 400000 in
theorem runeSlice_none (s : ByteArray) (f t : Int) (w : World) (h : t ≤ max f 0) :
    Calls Try.prog 19 #[.string s, .int .i64 f, .int .i64 t] w fun e w' => e = .returned (.string ByteArray.empty) ∧ Below w.heap.size w w' := by
  go_enter Try.func19, Try.ntmps19
  go_wp2
  all_goals (go_ret; exact ⟨rfl, Below.refl _ _⟩)
set_option maxRecDepth 100000 in
set_option maxHeartbeats 1000000 in
theorem runeSlice_pos (s : ByteArray) (F T : Nat) (w : World) (hFT : F < T) (hT : T ≤ 9223372036854775807) (hs : s.size ≤ 1048576) :
    Calls Try.prog 19 #[.string s, .int .i64 F, .int .i64 T] w fun e w' => e = .returned (.string (s.extract (RP.posAt s F) (RP.posAt s T))) ∧ Below w.heap.size w w' := by
  have hd : decide ((T : Int) ≤ (F : Int)) = false := by simp; omega
  go_enter Try.func19, Try.ntmps19
  go_wp2
  go_loopw [7, 8, 9] (fun st en i wr => ∃ k : Nat, en = .int .i64 s.size ∧ wr = w.iter s (RP.posAt s k) ∧ i = .int .i64 k ∧ st = .int .i64 (RP.stOf s F k : Nat) ∧ k ≤ T ∧ k ≤ RP.posAt s k) (fun _ _ _ wr => s.size - wr.iterPos w.heap.size)
  case atStart => exact ⟨0, rfl, rfl, rfl, by rw [RP.stOf_zero], Nat.zero_le _, Nat.zero_le _⟩
  case round =>
    obtain ⟨k, rfl, rfl, rfl, rfl, hkT, hkp⟩ := hrel
    have hp1 := RP.posAt_le s k
    have hst := RP.stOf_le s F k
    by_cases hp : RP.posAt s k < s.size
    · have hnx : ∀ ty, (Instr.next (.pointer (some ⟨w.heap.size, 0, none⟩)) true ty).run Try.prog (w.iter s (RP.posAt s k)) = _ := fun ty => run_next_any w s (RP.posAt s k) ty hp
      have HP : Hid (RP.posAt s (k + 1) = RP.posAt s k + RP.wd s (RP.posAt s k)) := RP.posAt_succ s k hp
      have hwd := RP.wd_pos s (RP.posAt s k)
      have hwd2 : 1 ≤ (Utf8.decode s (RP.posAt s k)).2 := hwd
      by_cases hkF : k = F
      · subst hkF
        have hne : ((k : Int) == (T : Int)) = false := by simp; omega
        go_wp2
        go_roundw
        case rel => exact ⟨k + 1, rfl, by rw [HP.out]; rfl, by go_num, by rw [RP.stOf_hit], by omega, by rw [HP.out]; omega⟩
        case measure => simp; omega
      · by_cases hkTe : k = T
        · subst hkTe
          have hne : ((k : Int) == (F : Int)) = false := by simp; omega
          have HX : Hid (RP.stOf s F k = RP.posAt s F) := RP.stOf_past s F k hFT
          have hle : RP.stOf s F k ≤ RP.posAt s k := by rw [HX.out]; exact RP.posAt_mono s F k (by omega)
          go_wp2
          go_ret
          exact ⟨ret_str (by rw [HX.out]), (Below.refl _ _).alloc (Nat.le_refl _) _⟩
        · have hne : ((k : Int) == (F : Int)) = false := by simp; omega
          have hne2 : ((k : Int) == (T : Int)) = false := by simp; omega
          go_wp2
          go_roundw
          case rel => exact ⟨k + 1, rfl, by rw [HP.out]; rfl, by go_num, by rw [RP.stOf_miss s F k hkF], by omega, by rw [HP.out]; omega⟩
          case measure => simp; omega
    · have hnx : ∀ ty, (Instr.next (.pointer (some ⟨w.heap.size, 0, none⟩)) true ty).run Try.prog (w.iter s (RP.posAt s k)) = _ := fun ty => run_next_end w s (RP.posAt s k) ty hp
      have HX : Hid (s.extract (RP.stOf s F k) s.size = s.extract (RP.posAt s F) (RP.posAt s T)) := by
        show s.extract (RP.stOf s F k) s.size = _
        rw [RP.stOf_end s F k hp, RP.posAt_sat s k T hkT hp]
      go_wp2
      go_ret
      exact ⟨ret_str HX.out, (Below.refl _ _).alloc (Nat.le_refl _) _⟩
set_option maxRecDepth 100000 in
set_option maxHeartbeats 1000000 in
theorem runeSlice_neg (s : ByteArray) (f : Int) (hf : f < 0) (T : Nat) (w : World) (hFT : 0 < T) (hT : T ≤ 9223372036854775807) (hs : s.size ≤ 1048576) :
    Calls Try.prog 19 #[.string s, .int .i64 f, .int .i64 T] w fun e w' => e = .returned (.string (s.extract (RP.posAt s 0) (RP.posAt s T))) ∧ Below w.heap.size w w' := by
  have hd : decide ((T : Int) ≤ 0) = false := by simp; omega
  go_enter Try.func19, Try.ntmps19
  go_wp2
  go_loopw [7, 8, 9] (fun st en i wr => ∃ k : Nat, en = .int .i64 s.size ∧ wr = w.iter s (RP.posAt s k) ∧ i = .int .i64 k ∧ st = .int .i64 (RP.stOf s 0 k : Nat) ∧ k ≤ T ∧ k ≤ RP.posAt s k) (fun _ _ _ wr => s.size - wr.iterPos w.heap.size)
  case atStart => exact ⟨0, rfl, rfl, rfl, by rw [RP.stOf_zero], Nat.zero_le _, Nat.zero_le _⟩
  case round =>
    obtain ⟨k, rfl, rfl, rfl, rfl, hkT, hkp⟩ := hrel
    have hp1 := RP.posAt_le s k
    have hst := RP.stOf_le s 0 k
    by_cases hp : RP.posAt s k < s.size
    · have hnx : ∀ ty, (Instr.next (.pointer (some ⟨w.heap.size, 0, none⟩)) true ty).run Try.prog (w.iter s (RP.posAt s k)) = _ := fun ty => run_next_any w s (RP.posAt s k) ty hp
      have HP : Hid (RP.posAt s (k + 1) = RP.posAt s k + RP.wd s (RP.posAt s k)) := RP.posAt_succ s k hp
      have hwd := RP.wd_pos s (RP.posAt s k)
      have hwd2 : 1 ≤ (Utf8.decode s (RP.posAt s k)).2 := hwd
      by_cases hkF : k = 0
      · subst hkF
        have hne : ((0 : Int) == (T : Int)) = false := by simp; omega
        go_wp2
        go_roundw
        case rel => exact ⟨1, rfl, by rw [HP.out]; rfl, by go_num, by rw [RP.stOf_hit], by omega, by rw [HP.out]; omega⟩
        case measure => simp; omega
      · by_cases hkTe : k = T
        · subst hkTe
          have hne : ((k : Int) == 0) = false := by simp; omega
          have HX : Hid (RP.stOf s 0 k = RP.posAt s 0) := RP.stOf_past s 0 k hFT
          have hle : RP.stOf s 0 k ≤ RP.posAt s k := by rw [HX.out]; exact RP.posAt_mono s 0 k (by omega)
          go_wp2
          go_ret
          exact ⟨ret_str (by rw [HX.out]), (Below.refl _ _).alloc (Nat.le_refl _) _⟩
        · have hne : ((k : Int) == 0) = false := by simp; omega
          have hne2 : ((k : Int) == (T : Int)) = false := by simp; omega
          go_wp2
          go_roundw
          case rel => exact ⟨k + 1, rfl, by rw [HP.out]; rfl, by go_num, by rw [RP.stOf_miss s 0 k hkF], by omega, by rw [HP.out]; omega⟩
          case measure => simp; omega
    · have hnx : ∀ ty, (Instr.next (.pointer (some ⟨w.heap.size, 0, none⟩)) true ty).run Try.prog (w.iter s (RP.posAt s k)) = _ := fun ty => run_next_end w s (RP.posAt s k) ty hp
      have HX : Hid (s.extract (RP.stOf s 0 k) s.size = s.extract (RP.posAt s 0) (RP.posAt s T)) := by
        show s.extract (RP.stOf s 0 k) s.size = _
        rw [RP.stOf_end s 0 k hp, RP.posAt_sat s k T hkT hp]
      go_wp2
      go_ret
      exact ⟨ret_str HX.out, (Below.refl _ _).alloc (Nat.le_refl _) _⟩
end Go.Proofs.Qxb6602072a
