/- The walks of the column names' functions. -/
import Derived.Test.Qxb6600408aRows
import Derived.Test.Qxb6600408aPlain
import Derived.WalkKit
import Derived.WalkSpells
import Derived.WalkLawsBesides
import Derived.Deep.QuietTactic
import Derived.BigQuiet
namespace Go.Proofs.Qxb6600408a
open Go.RowKit

theorem ret_str {a b : ByteArray} (h : a = b) : Ending.returned (.string a) = .returned (.string b) := by rw [h]
theorem ret_bool {a b : Bool} (h : a = b) : Ending.returned (.bool a) = .returned (.bool b) := by rw [h]

/-- a name as a string -/
def str (l : List UInt8) : ByteArray := ⟨l.toArray⟩

theorem str_size (l : List UInt8) : (str l).size = l.length := by simp [str, ByteArray.size]

theorem str_append (a b : List UInt8) : str a ++ str b = str (a ++ b) := by
  apply ByteArray.ext
  simp [str, ByteArray.data_append]

theorem letter_str (m : Nat) (h : 0 < m) : Utf8.encode (65 + ((m : Int) - 1) % 26) = str [UInt8.ofNat (65 + (m - 1) % 26)] := by
  have e : (65 + ((m : Int) - 1) % 26) = ((65 + (m - 1) % 26 : Nat) : Int) := by omega
  rw [e]
  have hlt : 65 + (m - 1) % 26 < 91 := by omega
  generalize 65 + (m - 1) % 26 = q at hlt
  have hv : Utf8.valid (q : Int) = true := by
    unfold Utf8.valid
    simp only [Bool.or_eq_true, Bool.and_eq_true, decide_eq_true_eq]
    omega
  unfold Utf8.encode
  simp only [hv, if_true, Int.toNat_natCast]
  rw [if_pos (by omega)]
  rfl

set_option maxRecDepth 100000 in
set_option maxHeartbeats 1000000 in
theorem name_pos (j : Nat) (w : World) (hj : j ≤ 1073741824) :
    Calls Try.prog 7 #[.int .i64 j] w fun e w' => e = .returned (.string (str (CP.cn (j + 1)))) ∧ w' = w := by
  go_enter Try.func7, Try.ntmps7
  go_wp2
  go_loop [3, 4] (fun nm n => ∃ (f m : Nat) (l : List UInt8), nm = .string (str l) ∧ n = .int .i64 m ∧ m ≤ f ∧ m ≤ 1073741825 ∧ CP.cnf f m ++ l = CP.cn (j + 1)) (fun _ n => (intOf n).toNat)
  case atStart => exact ⟨j + 1, j + 1, [], rfl, by go_num, Nat.le_refl _, by omega, by rw [List.append_nil]; rfl⟩
  case round =>
    obtain ⟨f, m, l, rfl, rfl, hmf, hm, hc⟩ := hrel
    have HC : Hid (CP.cnf f m ++ l = CP.cn (j + 1)) := hc
    clear hc
    by_cases h0 : 0 < m
    · have hl : l.length ≤ 7 := by
        have := CP.cn_len (j + 1) (by omega)
        rw [← HC.out, List.length_append] at this
        omega
      have hsz : (Utf8.encode (65 + ((m : Int) - 1) % 26)).size + (str l).size ≤ 8 := by
        rw [letter_str m h0, str_size, str_size, List.length_singleton]; omega
      obtain ⟨g, rfl⟩ : ∃ g, f = g + 1 := ⟨f - 1, by omega⟩
      go_wp2
      go_round
      case rel =>
        refine ⟨g, (m - 1) / 26, UInt8.ofNat (65 + (m - 1) % 26) :: l, ?_, ?_, by omega, by omega, ?_⟩
        · rw [letter_str m h0, str_append]; rfl
        · have e : ((m : Int) - 1) / 26 = (((m - 1) / 26 : Nat) : Int) := by omega
          rw [e]
        · rw [← HC.out, CP.cnf_succ g m h0, List.append_assoc]; rfl
      case measure => simp [intOf]; omega
    · obtain rfl : m = 0 := by omega
      go_wp2
      go_ret
      refine ⟨ret_str ?_, rfl⟩
      rw [← HC.out, CP.cnf_zero, List.nil_append]

set_option maxRecDepth 100000 in
set_option maxHeartbeats 400000 in
theorem name_neg (j : Int) (w : World) (h0 : -9223372036854775808 ≤ j) (h1 : j < 0) :
    Calls Try.prog 7 #[.int .i64 j] w fun e w' => e = .returned (.string (str [])) ∧ w' = w := by
  go_enter Try.func7, Try.ntmps7
  go_wp2
  refine wp_loop_rounds 1 ?_
  rw [rounds_succ]
  go_wp2
  go_ret
  exact ⟨rfl, rfl⟩

set_option maxRecDepth 100000 in
set_option maxHeartbeats 400000 in
theorem zz_pos (j : Nat) (w : World) (hj : j ≤ 1073741824) :
    Calls Try.prog 5 #[.int .i64 j] w fun e w' => e = .returned (.string (str (CP.cn (j + 1)))) ∧ w' = w := by
  go_enter Try.func5, Try.ntmps5
  go_wp2_with (go_at_call 7; refine (name_pos j _ hj).mono ?_; rintro e w' ⟨rfl, rfl⟩)
  go_ret
  exact ⟨rfl, rfl⟩

set_option maxRecDepth 100000 in
set_option maxHeartbeats 400000 in
theorem zz_neg (j : Int) (w : World) (h0 : -9223372036854775808 ≤ j) (h1 : j < 0) :
    Calls Try.prog 5 #[.int .i64 j] w fun e w' => e = .returned (.string (str [])) ∧ w' = w := by
  go_enter Try.func5, Try.ntmps5
  go_wp2_with (go_at_call 7; refine (name_neg j _ h0 h1).mono ?_; rintro e w' ⟨rfl, rfl⟩)
  go_ret
  exact ⟨rfl, rfl⟩

theorem str_at (l : List UInt8) (k : Nat) (h : k < (str l).size) : (str l)[k] = l[k]'(by rw [str_size] at h; exact h) := rfl

set_option maxRecDepth 100000 in
set_option maxHeartbeats 400000 in
theorem bij_big (j : Int) (w : World) (h : 1073741824 < j) :
    Calls Try.prog 3 #[.int .i64 j] w fun e w' => e = .returned (.bool true) ∧ Below w.heap.size w w' := by
  go_enter Try.func3, Try.ntmps3
  go_wp2
  go_ret
  exact ⟨rfl, Below.refl _ _⟩

theorem empty_str : (str []).toList.isEmpty = true := by
  rw [ByteArray.toList_eq]; rfl

set_option maxRecDepth 100000 in
set_option maxHeartbeats 400000 in
theorem bij_neg (j : Int) (w : World) (h0 : -9223372036854775808 ≤ j) (h : j < 0) :
    Calls Try.prog 3 #[.int .i64 j] w fun e w' => e = .returned (.bool true) ∧ Below w.heap.size w w' := by
  have he := empty_str
  go_enter Try.func3, Try.ntmps3
  go_wp2_with (go_at_call 5; refine (zz_neg j _ h0 h).mono ?_; rintro e w' ⟨rfl, rfl⟩)
  go_ret
  exact ⟨rfl, Below.refl _ _⟩

set_option maxRecDepth 100000 in
set_option maxHeartbeats 1000000 in
theorem bij_pos (j : Nat) (w : World) (hj : j ≤ 1073741824) :
    Calls Try.prog 3 #[.int .i64 j] w fun e w' => e = .returned (.bool true) ∧ Below w.heap.size w w' := by
  have q1 : decide ((1073741824 : Int) < (j : Int)) = false := by rw [decide_eq_false_iff_not]; omega
  have q2 : decide ((j : Int) < 0) = false := by rw [decide_eq_false_iff_not]; omega
  have hl7 := CP.cn_len (j + 1) (by omega)
  have hl1 := CP.cn_ne (j + 1) (by omega)
  have hlet := CP.cn_letters (j + 1)
  have hval := CP.val_cn (j + 1)
  go_enter Try.func3, Try.ntmps3
  go_wp2_with fail
  refine (zz_pos j _ hj).mono ?_
  rintro e w' ⟨rfl, rfl⟩
  revert hl7 hl1 hlet hval
  generalize CP.cn (j + 1) = l
  intro hl7 hl1 hlet hval
  rw [← str_size] at hl7 hl1
  have HV : Hid (CP.val l = j + 1) := hval
  have HL : Hid (∀ c ∈ l, 65 ≤ c.toNat ∧ c.toNat ≤ 90) := hlet
  clear hval hlet
  have q3 : (((str l).size : Int) == 0) = false := by rw [beq_eq_false_iff_ne]; omega
  have q4 : decide ((7 : Int) < ((str l).size : Int)) = false := by rw [decide_eq_false_iff_not]; omega
  go_wp2
  go_loop [4, 5] (fun n k => ∃ i : Nat, k = .int .i64 i ∧ i ≤ (str l).size ∧ n = .int .i64 (CP.val (l.take i) : Nat)) (fun _ k => (str l).size - (intOf k).toNat)
  case atStart => exact ⟨0, rfl, Nat.zero_le _, rfl⟩
  case round =>
    obtain ⟨i, rfl, hi, rfl⟩ := hrel
    by_cases hlt : i < (str l).size
    · have hlt' : i < l.length := by rw [← str_size]; exact hlt
      have hsm := CP.val_small l HL.out i (by omega)
      have hb : 65 ≤ (str l)[i].toNat ∧ (str l)[i].toNat ≤ 90 := HL.out _ (List.getElem_mem hlt')
      obtain ⟨hb1, hb2⟩ := hb
      have HS : Hid (CP.val (l.take (i + 1)) = CP.val (l.take i) * 26 + ((str l)[i].toNat - 65) + 1) := by
        show CP.val (l.take (i + 1)) = _
        rw [CP.take_snoc l i hlt', CP.val_snoc]; rfl
      go_wp2
      go_round
      case rel =>
        refine ⟨i + 1, by go_num, by omega, ?_⟩
        rw [HS.out]
        go_num
      case measure => simp [intOf]; omega
    · have hlt' : l.length ≤ i := by rw [← str_size]; omega
      have HS : Hid (CP.val (l.take i) = j + 1) := by
        show CP.val (l.take i) = _
        rw [List.take_of_length_le hlt', HV.out]
      go_wp2
      go_ret
      refine ⟨ret_bool ?_, Below.refl _ _⟩
      rw [HS.out]
      simp

theorem law_bij (j : Int) (w : World) (h0 : -9223372036854775808 ≤ j) :
    Calls Try.prog 3 #[.int .i64 j] w fun e w' => e = .returned (.bool true) ∧ Below w.heap.size w w' := by
  by_cases h : 1073741824 < j
  · exact bij_big j w h
  · by_cases h1 : j < 0
    · exact bij_neg j w h0 h1
    · obtain ⟨m, rfl⟩ := Int.eq_ofNat_of_zero_le (show 0 ≤ j by omega)
      exact bij_pos m w (by omega)
end Go.Proofs.Qxb6600408a
