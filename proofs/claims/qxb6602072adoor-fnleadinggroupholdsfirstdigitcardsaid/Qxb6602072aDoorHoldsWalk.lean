/- The walk of FnLeadingGroupHoldsFirstDigit. -/
import Derived.Test.Qxb6602072aDoorGroup
namespace Go.Proofs.Qxb6602072aDoor
open Go.RowKit

set_option maxRecDepth 100000 in
set_option maxHeartbeats 400000 in
theorem zz12_ok (k sc dy n : Int) (s : ByteArray) (w : World) (h : s.size ≤ 1048576) :
    Calls Tryd.prog 12 #[.int .u8 k, .int .i16 sc, .int .i32 dy, .int .i64 n, .string s] w fun e w' => e = .returned (.bool true) ∧ w' = w := by
  go_enter Tryd.func12, Tryd.ntmps12
  go_wp2
  go_ret
  exact ⟨rfl, rfl⟩

set_option maxRecDepth 100000 in
set_option maxHeartbeats 400000 in
theorem zz12_big (k sc dy n : Int) (s : ByteArray) (w : World) (hm : s.size ≤ maxLen) (h : ¬ s.size ≤ 1048576) :
    Calls Tryd.prog 12 #[.int .u8 k, .int .i16 sc, .int .i32 dy, .int .i64 n, .string s] w fun e w' => e = .returned (.bool false) ∧ w' = w := by
  unfold maxLen at hm
  go_enter Tryd.func12, Tryd.ntmps12
  go_wp2
  go_ret
  exact ⟨rfl, rfl⟩

set_option maxRecDepth 100000 in
set_option maxHeartbeats 400000 in
theorem holds_big (k sc dy n : Int) (s : ByteArray) (w : World) (hm : s.size ≤ maxLen) (hs : ¬ s.size ≤ 1048576) :
    Calls Tryd.prog 4 #[.int .u8 k, .int .i16 sc, .int .i32 dy, .int .i64 n, .string s] w fun e w' => e = .returned (.bool true) ∧ Below w.heap.size w w' := by
  go_enter Tryd.func4, Tryd.ntmps4
  go_wp2_with (go_at_call 12; refine (zz12_big k sc dy n s _ hm hs).mono ?_; rintro e w' ⟨rfl, rfl⟩)
  go_ret
  exact ⟨rfl, Below.refl _ _⟩

set_option maxRecDepth 100000 in
set_option maxHeartbeats 400000 in
theorem holds_least (k sc dy n : Int) (s : ByteArray) (w : World) (hs : s.size ≤ 1048576) (hn : (n == -9223372036854775808) = true) :
    Calls Tryd.prog 4 #[.int .u8 k, .int .i16 sc, .int .i32 dy, .int .i64 n, .string s] w fun e w' => e = .returned (.bool true) ∧ Below w.heap.size w w' := by
  go_enter Tryd.func4, Tryd.ntmps4
  go_wp2_with (go_at_call 12; refine (zz12_ok k sc dy n s _ hs).mono ?_; rintro e w' ⟨rfl, rfl⟩)
  go_ret
  exact ⟨rfl, Below.refl _ _⟩

set_option maxRecDepth 100000 in
set_option maxHeartbeats 400000 in
theorem holds_nodec (k sc dy n : Int) (s : ByteArray) (w : World) (hs : s.size ≤ 1048576) (hn : (n == -9223372036854775808) = false) (hdec : GP.allDec (NP.dig s.data.toList) = false) :
    Calls Tryd.prog 4 #[.int .u8 k, .int .i16 sc, .int .i32 dy, .int .i64 n, .string s] w fun e w' => e = .returned (.bool true) ∧ Below w.heap.size w w' := by
  have HD : Hid (GP.allDec (digB s).data.toList = false) := hdec
  clear hdec
  have hd := digB_le s
  have hnn : (n != n) = false := by simp
  go_enter Tryd.func4, Tryd.ntmps4
  go_wp2_with (first
    | (go_at_call 12; refine (zz12_ok k sc dy n s _ hs).mono ?_; rintro e w' ⟨rfl, rfl⟩)
    | (go_at_call 6; refine (digitsOf_any s _).mono ?_; rintro e w' ⟨rfl, rfl⟩)
    | (go_at_call 7; refine (dec_any (digB s) _ (by omega)).mono ?_; rw [HD.out]; rintro e w' ⟨rfl, rfl⟩))
  go_ret
  exact ⟨rfl, Below.refl _ _⟩

set_option maxRecDepth 100000 in
set_option maxHeartbeats 400000 in
theorem holds_zero (k sc dy n : Int) (s : ByteArray) (w : World) (hs : s.size ≤ 1048576) (hn : (n == -9223372036854775808) = false) (hdec : GP.allDec (NP.dig s.data.toList) = true) (h0 : s.size = 0) :
    Calls Tryd.prog 4 #[.int .u8 k, .int .i16 sc, .int .i32 dy, .int .i64 n, .string s] w fun e w' => e = .returned (.bool true) ∧ Below w.heap.size w w' := by
  have HD : Hid (GP.allDec (digB s).data.toList = true) := hdec
  clear hdec
  have hd := digB_le s
  have he : s.toList.isEmpty = true := (empty_iff s).2 h0
  have H0 : Hid (s.size = 0) := h0
  clear h0
  go_enter Tryd.func4, Tryd.ntmps4
  go_wp2_with (first
    | (go_at_call 12; refine (zz12_ok k sc dy n s _ hs).mono ?_; rintro e w' ⟨rfl, rfl⟩)
    | (go_at_call 6; refine (digitsOf_any s _).mono ?_; rintro e w' ⟨rfl, rfl⟩)
    | (go_at_call 7; refine (dec_any (digB s) _ (by omega)).mono ?_; rw [HD.out]; rintro e w' ⟨rfl, rfl⟩)
    | (go_at_call 9; refine (zzLead_zero k sc dy n s _ H0.out).mono ?_; rintro e w1 ⟨rfl, b1⟩))
  go_ret
  exact ⟨rfl, b1⟩

set_option maxRecDepth 100000 in
set_option maxHeartbeats 2000000 in
theorem holds_main (k sc dy n : Int) (s : ByteArray) (w : World) (hs : s.size ≤ 1048576) (hn0 : -9223372036854775808 < n) (hn1 : n ≤ 9223372036854775807) (hdec : GP.allDec (NP.dig s.data.toList) = true) (h0 : s.size ≠ 0) :
    Calls Tryd.prog 4 #[.int .u8 k, .int .i16 sc, .int .i32 dy, .int .i64 n, .string s] w fun e w' => e = .returned (.bool true) ∧ Below w.heap.size w w' := by
  have HD : Hid (GP.allDec (digB s).data.toList = true) := hdec
  clear hdec
  have hd := digB_le s
  have he : s.toList.isEmpty = false := by
    cases h : s.toList.isEmpty
    · rfl
    · exact absurd ((empty_iff s).1 h) h0
  have hn : (n == -9223372036854775808) = false := by rw [beq_eq_false_iff_ne]; omega
  obtain ⟨t1, t2, t3, t4, t5⟩ := GP.td (n - 1)
  obtain ⟨Q, hQ⟩ : ∃ Q, (n - 1).tdiv 4 = Q := ⟨_, rfl⟩
  obtain ⟨T, hT⟩ : ∃ T, (n - 1).tmod 4 = T := ⟨_, rfl⟩
  rw [hQ, hT] at t1
  rw [hT] at t2 t3 t4 t5
  have b1 : -2305843009213693952 ≤ Q := by omega
  have b2 : Q ≤ 2305843009213693951 := by omega
  have e1 : n - 1 ≤ 4 * Q + T := by omega
  have e2 : 4 * Q + T ≤ n - 1 := by omega
  have HQ4 : Hid (0 ≤ n - 1 → 0 ≤ T) := t4
  have HQ5 : Hid (n - 1 < 0 → T ≤ 0) := t5
  clear t1 t4 t5
  have q1 : decide ((1048576 : Int) < (s.size : Int)) = false := by rw [decide_eq_false_iff_not]; omega
  by_cases hneg : T < 0
  · obtain ⟨R, hR⟩ : ∃ R : Nat, (R : Int) = T + 4 := ⟨(T + 4).toNat, by omega⟩
    have r1 : (R : Int) ≤ T + 4 := by omega
    have r2 : T + 4 ≤ (R : Int) := by omega
    have r3 : R ≤ 3 := by omega
    clear hR
    have HLS : Hid (GP.ls (digB s).data.toList n (Q - 1) 4 = GP.gval (NP.dig s.data.toList) R) := GP.ls_gval _ n (Q - 1) R r3 (by omega)
    have q2 : (Q - 1 == Q) = false := by rw [beq_eq_false_iff_ne]; omega
    have q3 : decide (0 ≤ T) = false := by rw [decide_eq_false_iff_not]; omega
    go_enter Tryd.func4, Tryd.ntmps4
    go_wp2_with (first
      | (go_at_call 12; refine (zz12_ok k sc dy n s _ hs).mono ?_; rintro e w' ⟨rfl, rfl⟩)
      | (go_at_call 6; refine (digitsOf_any s _).mono ?_; rintro e w' ⟨rfl, rfl⟩)
      | (go_at_call 7; refine (dec_any (digB s) _ (by omega)).mono ?_; rw [HD.out]; rintro e w' ⟨rfl, rfl⟩)
      | (go_at_call 9; refine (zzLead_some k sc dy n (Q - 1) R s _ h0 hs HD.out hn0 hn1 (by omega) (by omega) (by omega)).mono ?_; rintro e w1 ⟨rfl, bw1⟩))
    go_loop [18, 19] (fun t j => ∃ m : Nat, m ≤ 4 ∧ j = .int .i64 (3 - (m : Int)) ∧ t = .int .i64 (GP.ls (digB s).data.toList n (Q - 1) m : Nat)) (fun _ j => (intOf j + 1).toNat)
    case atStart => exact ⟨0, Nat.zero_le _, by go_num, rfl⟩
    case round =>
      obtain ⟨m, hm, rfl, rfl⟩ := hrel
      have hls := GP.ls_le HD.out n (Q - 1) m hm
      by_cases hlt : m < 4
      · have HS : Hid (GP.ls (digB s).data.toList n (Q - 1) (m + 1) = GP.ls (digB s).data.toList n (Q - 1) m * 10 + ((NP.dAt (digB s).data.toList n (4 * (Q - 1) + (3 - (m : Int)))).toNat - 48)) := rfl
        obtain ⟨hb1, hb2⟩ := GP.dAt_dec HD.out n (4 * (Q - 1) + (3 - (m : Int)))
        go_wp2_with (go_at_call 13; refine (digitAt_near (digB s) n _ _ hn0 hn1 (by omega) (by omega) (by omega)).mono ?_; rintro e w' ⟨rfl, rfl⟩)
        go_round
        case rel =>
          refine ⟨m + 1, by omega, by go_num, ?_⟩
          rw [HS.out]
          go_num
        case measure => simp [intOf]; omega
      · obtain rfl : m = 4 := by omega
        go_wp2
        go_ret
        refine ⟨nret_bool ?_, bw1⟩
        rw [HLS.out]
        simp
  · obtain ⟨R, rfl⟩ := Int.eq_ofNat_of_zero_le (show 0 ≤ T by omega)
    have q2 : decide ((R : Int) < 0) = false := by rw [decide_eq_false_iff_not]; omega
    have HLS : Hid (GP.ls (digB s).data.toList n Q 4 = GP.gval (NP.dig s.data.toList) R) := GP.ls_gval _ n Q R (by omega) (by omega)
    go_enter Tryd.func4, Tryd.ntmps4
    go_wp2_with (first
      | (go_at_call 12; refine (zz12_ok k sc dy n s _ hs).mono ?_; rintro e w' ⟨rfl, rfl⟩)
      | (go_at_call 6; refine (digitsOf_any s _).mono ?_; rintro e w' ⟨rfl, rfl⟩)
      | (go_at_call 7; refine (dec_any (digB s) _ (by omega)).mono ?_; rw [HD.out]; rintro e w' ⟨rfl, rfl⟩)
      | (go_at_call 9; refine (zzLead_some k sc dy n Q R s _ h0 hs HD.out hn0 hn1 (by omega) (by omega) (by omega)).mono ?_; rintro e w1 ⟨rfl, bw1⟩))
    go_loop [18, 19] (fun t j => ∃ m : Nat, m ≤ 4 ∧ j = .int .i64 (3 - (m : Int)) ∧ t = .int .i64 (GP.ls (digB s).data.toList n Q m : Nat)) (fun _ j => (intOf j + 1).toNat)
    case atStart => exact ⟨0, Nat.zero_le _, by go_num, rfl⟩
    case round =>
      obtain ⟨m, hm, rfl, rfl⟩ := hrel
      have hls := GP.ls_le HD.out n Q m hm
      by_cases hlt : m < 4
      · have HS : Hid (GP.ls (digB s).data.toList n Q (m + 1) = GP.ls (digB s).data.toList n Q m * 10 + ((NP.dAt (digB s).data.toList n (4 * Q + (3 - (m : Int)))).toNat - 48)) := rfl
        obtain ⟨hb1, hb2⟩ := GP.dAt_dec HD.out n (4 * Q + (3 - (m : Int)))
        go_wp2_with (go_at_call 13; refine (digitAt_near (digB s) n _ _ hn0 hn1 (by omega) (by omega) (by omega)).mono ?_; rintro e w' ⟨rfl, rfl⟩)
        go_round
        case rel =>
          refine ⟨m + 1, by omega, by go_num, ?_⟩
          rw [HS.out]
          go_num
        case measure => simp [intOf]; omega
      · obtain rfl : m = 4 := by omega
        go_wp2
        go_ret
        refine ⟨nret_bool ?_, bw1⟩
        rw [HLS.out]
        simp

theorem law_holds (k sc dy n : Int) (s : ByteArray) (w : World) (hm : s.size ≤ maxLen) (hn0 : -9223372036854775808 ≤ n) (hn1 : n ≤ 9223372036854775807) :
    Calls Tryd.prog 4 #[.int .u8 k, .int .i16 sc, .int .i32 dy, .int .i64 n, .string s] w fun e w' => e = .returned (.bool true) ∧ Below w.heap.size w w' := by
  by_cases hs : s.size ≤ 1048576
  · cases hn : (n == -9223372036854775808) with
    | true => exact holds_least k sc dy n s w hs hn
    | false =>
      cases hdec : GP.allDec (NP.dig s.data.toList) with
      | false => exact holds_nodec k sc dy n s w hs hn hdec
      | true =>
        by_cases h0 : s.size = 0
        · exact holds_zero k sc dy n s w hs hn hdec h0
        · have hne := beq_eq_false_iff_ne.1 hn
          exact holds_main k sc dy n s w hs (by omega) hn1 hdec h0
  · exact holds_big k sc dy n s w hm hs
end Go.Proofs.Qxb6602072aDoor
