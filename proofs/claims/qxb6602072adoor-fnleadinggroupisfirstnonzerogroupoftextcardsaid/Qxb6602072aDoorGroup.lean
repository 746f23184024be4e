/- The walks on the road of leadingGroup. -/
import Derived.Test.Qxb6602072aDoorNumParts
import Derived.Test.Qxb6602072aDoorGroupPlain
namespace Go.Proofs.Qxb6602072aDoor
open Go.RowKit

theorem ret2_int {a b c d : Int} (h : a = c) (k : b = d) : Ending.returned (.tuple #[.int .i64 a, .int .i64 b]) = .returned (.tuple #[.int .i64 c, .int .i64 d]) := by rw [h, k]

set_option maxRecDepth 100000 in
set_option maxHeartbeats 1000000 in
theorem place_any (n P R : Int) (w : World) (h0 : -9223372036854775808 < n) (h1 : n ≤ 9223372036854775807) (g1 : n - 1 ≤ 4 * P + R) (g2 : 4 * P + R ≤ n - 1) (r0 : 0 ≤ R) (r1 : R ≤ 3) :
    Calls Tryd.prog 24 #[.int .i64 n] w fun e w' => e = .returned (.tuple #[.int .i64 P, .int .i64 (3 - R)]) ∧ w' = w := by
  obtain ⟨t1, t2, t3, t4, t5⟩ := GP.td (n - 1)
  obtain ⟨Q, hQ⟩ : ∃ Q, (n - 1).tdiv 4 = Q := ⟨_, rfl⟩
  obtain ⟨T, hT⟩ : ∃ T, (n - 1).tmod 4 = T := ⟨_, rfl⟩
  rw [hQ, hT] at t1
  rw [hT] at t2 t3 t4 t5
  have HT : Hid (n - 1 = 4 * Q + T) := t1
  have b1 : -2305843009213693952 ≤ Q := by omega
  have b2 : Q ≤ 2305843009213693951 := by omega
  have e1 : n - 1 ≤ 4 * Q + T := by omega
  have e2 : 4 * Q + T ≤ n - 1 := by omega
  have HQ4 : Hid (0 ≤ n - 1 → 0 ≤ T) := t4
  have HQ5 : Hid (n - 1 < 0 → T ≤ 0) := t5
  clear t1 t4 t5
  by_cases hneg : T < 0
  · go_enter Tryd.func24, Tryd.ntmps24
    go_wp2
    go_ret2
    exact ⟨ret2_int (by omega) (by omega), rfl⟩
  · go_enter Tryd.func24, Tryd.ntmps24
    go_wp2
    go_ret2
    exact ⟨ret2_int (by omega) (by omega), rfl⟩

set_option maxRecDepth 100000 in
set_option maxHeartbeats 1000000 in
theorem dec_any (d : ByteArray) (w : World) (hd : d.size ≤ 1048576) :
    Calls Tryd.prog 7 #[.string d] w fun e w' => e = .returned (.bool (GP.allDec d.data.toList)) ∧ w' = w := by
  go_enter Tryd.func7, Tryd.ntmps7
  go_wp2
  go_loop [3] (fun i => ∃ k : Nat, i = .int .i64 k ∧ k ≤ d.size ∧ GP.allDec (d.data.toList.take k) = true) (fun i => d.size - (intOf i).toNat)
  case atStart => exact ⟨0, rfl, Nat.zero_le _, rfl⟩
  case round =>
    obtain ⟨k, rfl, hk, hok⟩ := hrel
    have HO : Hid (GP.allDec (d.data.toList.take k) = true) := hok
    clear hok
    by_cases hlt : k < d.size
    · have hkl : k < d.data.toList.length := by rw [list_size]; exact hlt
      have HS : Hid (GP.allDec (d.data.toList.take (k + 1)) = (GP.allDec (d.data.toList.take k) && GP.dec d[k])) := by
        show _ = _
        rw [List.take_succ_eq_append_getElem hkl]
        unfold GP.allDec
        rw [List.all_append]
        simp only [List.all_cons, List.all_nil, Bool.and_true]
        rfl
      have HF : Hid (GP.dec d[k] = false → GP.allDec d.data.toList = false) := by
        intro hf
        unfold GP.allDec
        rw [List.all_eq_false]
        exact ⟨d[k], List.getElem_mem hkl, by rw [hf]; exact Bool.false_ne_true⟩
      by_cases h1 : d[k].toNat < 48
      · have HD : Hid (GP.dec d[k] = false) := by
          show _ = _
          unfold GP.dec; rw [decide_eq_false (by omega), Bool.false_and]
        go_wp2
        go_ret
        exact ⟨nret_bool (HF.out HD.out).symm, rfl⟩
      · by_cases h2 : 57 < d[k].toNat
        · have HD : Hid (GP.dec d[k] = false) := by
            show _ = _
            unfold GP.dec; rw [decide_eq_false (p := d[k].toNat ≤ 57) (by omega), Bool.and_false]
          go_wp2
          go_ret
          exact ⟨nret_bool (HF.out HD.out).symm, rfl⟩
        · have HD : Hid (GP.dec d[k] = true) := (GP.dec_iff _).2 ⟨by omega, by omega⟩
          go_wp2
          go_round
          case rel => exact ⟨k + 1, by go_num, by omega, by rw [HS.out, HO.out, HD.out]; rfl⟩
          case measure => simp [intOf]; omega
    · have HE : Hid (d.data.toList.take k = d.data.toList) := List.take_of_length_le (by rw [list_size]; omega)
      go_wp2
      go_ret
      exact ⟨nret_bool (by rw [← HE.out, HO.out]), rfl⟩

set_option maxRecDepth 100000 in
set_option maxHeartbeats 400000 in
theorem digitAt_near (d : ByteArray) (e p : Int) (w : World) (he : -9223372036854775808 < e) (he' : e ≤ 9223372036854775807) (hp : -3 ≤ e - 1 - p) (hp' : e - 1 - p ≤ 3) (hd : d.size ≤ 1048576) :
    Calls Tryd.prog 13 #[.string d, .int .i64 e, .int .i64 p] w fun e' w' => e' = .returned (.int .u8 (NP.dAt d.data.toList e p).toNat) ∧ w' = w := by
  by_cases h1 : 0 ≤ e - 1 - p
  · by_cases h2 : e - 1 - p < d.size
    · obtain ⟨m, hm⟩ := Int.eq_ofNat_of_zero_le h1
      have hlt : m < d.size := by omega
      have HS : Hid (NP.dAt d.data.toList e p = d[m]) := by
        show NP.dAt d.data.toList e p = d[m]
        unfold NP.dAt
        rw [if_pos h1, hm]
        simp only [Int.toNat_natCast]
        rw [List.getElem?_eq_getElem (by rw [list_size]; exact hlt)]
        rfl
      go_enter Tryd.func13, Tryd.ntmps13
      go_wp2
      go_ret
      exact ⟨nret_int (by rw [HS.out]), rfl⟩
    · have HS : Hid (NP.dAt d.data.toList e p = 48) := by
        show NP.dAt d.data.toList e p = 48
        unfold NP.dAt
        rw [if_pos h1, List.getElem?_eq_none (by rw [list_size]; omega)]
        rfl
      go_enter Tryd.func13, Tryd.ntmps13
      go_wp2
      go_ret
      exact ⟨nret_int (by rw [HS.out]; rfl), rfl⟩
  · have HS : Hid (NP.dAt d.data.toList e p = 48) := by
      show NP.dAt d.data.toList e p = 48
      unfold NP.dAt
      rw [if_neg h1]
    go_enter Tryd.func13, Tryd.ntmps13
    go_wp2
    go_ret
    exact ⟨nret_int (by rw [HS.out]; rfl), rfl⟩

/-- a string of k zeros -/
def zB (k : Nat) : ByteArray := ⟨(NP.zeros k).toArray⟩
theorem zB_list (k : Nat) : (zB k).data.toList = NP.zeros k := rfl
theorem zB_size (k : Nat) : (zB k).size = k := by rw [← list_size, zB_list, NP.zeros_length]

theorem repeat_any (c : Int) (w : World) (h0 : 0 ≤ c) (h1 : c ≤ 100) :
    Calls Tryd.prog 26 #[.string ⟨#[48]⟩, .int .i64 c] w fun e w' => e = .returned (.string (zB c.toNat)) ∧ Below w.heap.size w w' := by
  obtain ⟨m, rfl⟩ := Int.eq_ofNat_of_zero_le h0
  have h := Tryd.strings_Repeat ⟨#[48]⟩ m w (by omega) (by show 1 * m ≤ _; omega)
  rw [show (⟨#[48]⟩ : ByteArray).data.toList = [48] from rfl, GP.repeat_zeros] at h
  exact h

theorem atoi_any (x : ByteArray) (v : Int) (w : World) (hl : x.size ≤ 18) (h : Lib.atoi x.data.toList = some v) :
    Calls Tryd.prog 25 #[.string x] w fun e w' => e = .returned (.tuple #[.int .i64 v, .nilIface]) ∧ Below w.heap.size w w' := by
  refine (Tryd.strconv_Atoi x v hl h w).mono ?_
  rintro e w' ⟨rfl, t, rfl⟩
  exact ⟨rfl, ⟨rfl, rfl, rfl, by rw [Lib.bytesWorld_size]; omega, fun k hk => Lib.bytesWorld_at_old w 5 t k hk⟩⟩

/-- the group's text -/
theorem grp_str (s : ByteArray) (R : Nat) (A : ByteArray) (c : Int) (hA : A = (digB s).extract 0 (min ((digB s).size : Int) (4 - (3 - (R : Int)))).toNat) (hc : c = 4 - (3 - (R : Int)) - ((min (min ((digB s).size : Int) (4 - (3 - (R : Int)))).toNat (digB s).size : Nat) : Int)) :
    (A ++ zB c.toNat).data.toList = (List.range (R + 1)).map (GP.dg (NP.dig s.data.toList)) := by
  subst hA hc
  rw [← GP.grp_eq, ByteArray.data_append, Array.toList_append, zB_list, ByteArray.data_extract, Array.toList_extract, List.extract_eq_take_drop, digB_list, List.drop_zero, Nat.sub_zero]
  have hsz := digB_size s
  by_cases h : (NP.dig s.data.toList).length ≤ R + 1
  · rw [List.take_of_length_le (by omega), List.take_of_length_le (by omega)]
    congr 2
    omega
  · rw [show (min ((digB s).size : Int) (4 - (3 - (R : Int)))).toNat = R + 1 by omega]
    congr 2
    omega

theorem gbcell {W w1 : World} (hb : Below W.heap.size W w1) : (∀ b o, b < W.heap.size → w1.cell? ⟨b, o, none⟩ = W.cell? ⟨b, o, none⟩) ∧ (∀ b o, b < W.heap.size → w1.frozen? ⟨b, o, none⟩ = W.frozen? ⟨b, o, none⟩) :=
  ⟨fun b o h => hb.cell (p := ⟨b, o, none⟩) h, fun b o h => hb.frozen (p := ⟨b, o, none⟩) h⟩

set_option maxRecDepth 100000 in
set_option maxHeartbeats 1000000 in
theorem lead_zero (k sc dy n : Int) (s : ByteArray) (w : World) (hs : s.size = 0) :
    Calls Tryd.prog 15 #[.agg #[.int .u8 k, .int .i16 sc, .int .i32 dy, .int .i64 n, .string s]] w fun e w' => e = .returned (.tuple #[.int .i64 0, .int .i64 0]) ∧ Below w.heap.size w w' := by
  have HZ : Hid (sgnI s = 0) := (sgnI_zero s).2 hs
  clear hs
  go_enter Tryd.func15, Tryd.ntmps15
  go_wp2_with fail
  refine (parts_any k sc dy n s _).mono ?_
  rw [HZ.out]
  rintro e w1 ⟨rfl, b1⟩
  go_wp2
  go_ret2
  exact ⟨rfl, ((Below.refl _ w).alloc (Nat.le_refl _) _).trans (b1.mono (by simp))⟩

set_option maxRecDepth 100000 in
set_option maxHeartbeats 1000000 in
theorem lead_some (k sc dy n P : Int) (R : Nat) (s : ByteArray) (w : World) (hs : s.size ≠ 0) (hsz : s.size ≤ 1048576) (hdec : GP.allDec (NP.dig s.data.toList) = true) (h0 : -9223372036854775808 < n) (h1 : n ≤ 9223372036854775807) (g1 : n - 1 ≤ 4 * P + (R : Int)) (g2 : 4 * P + (R : Int) ≤ n - 1) (r1 : R ≤ 3) :
    Calls Tryd.prog 15 #[.agg #[.int .u8 k, .int .i16 sc, .int .i32 dy, .int .i64 n, .string s]] w fun e w' => e = .returned (.tuple #[.int .i64 P, .int .i64 (GP.gval (NP.dig s.data.toList) R : Nat)]) ∧ Below w.heap.size w w' := by
  have HD : Hid (GP.allDec (NP.dig s.data.toList) = true) := hdec
  have hne : (sgnI s == 0) = false := by
    rw [beq_eq_false_iff_ne]; intro e; exact hs ((sgnI_zero s).1 e)
  clear hdec hs
  have hd := digB_le s
  go_enter Tryd.func15, Tryd.ntmps15
  go_wp2_with fail
  refine (parts_any k sc dy n s _).mono ?_
  rintro e w1 ⟨rfl, b1⟩
  go_wp2_with fail
  refine (place_any n P R _ h0 h1 g1 g2 (by omega) (by omega)).mono ?_
  rintro e w2 ⟨rfl, rfl⟩
  go_wp2_with fail
  refine (repeat_any _ _ (by omega) (by omega)).mono ?_
  rintro e w3 ⟨rfl, b3⟩
  have hG := grp_str s R _ _ rfl rfl
  have hz := zB_size (4 - (3 - (R : Int)) - ((min (min ((digB s).size : Int) (4 - (3 - (R : Int)))).toNat (digB s).size : Nat) : Int)).toNat
  revert hG hz
  generalize hcc : (4 - (3 - (R : Int)) - ((min (min ((digB s).size : Int) (4 - (3 - (R : Int)))).toNat (digB s).size : Nat) : Int)) = c
  generalize hAA : (digB s).extract 0 (min ((digB s).size : Int) (4 - (3 - (R : Int)))).toNat = A
  have hA : A.size ≤ 4 := by rw [← hAA, ByteArray.size_extract]; omega
  have hc4 : c ≤ 4 := by omega
  generalize zB c.toNat = Z
  intro hG hz
  have hZ : Z.size ≤ 4 := by omega
  clear hz hcc hAA
  have hsz2 : (A ++ Z).size ≤ 18 := by rw [ByteArray.size_append]; omega
  have HL : Hid (Lib.atoi (A ++ Z).data.toList = some (GP.gval (NP.dig s.data.toList) R : Int)) := by
    show _ = _
    rw [hG]; exact GP.atoi_grp HD.out R
  clear hG
  go_wp2_with fail
  refine (atoi_any (A ++ Z) _ _ hsz2 HL.out).mono ?_
  rintro e w4 ⟨rfl, b4⟩
  go_wp2
  go_ret2
  exact ⟨rfl, ((((Below.refl _ w).alloc (Nat.le_refl _) _).trans (b1.mono (by simp))).trans (b3.mono (by have := b1.size; simp at this; omega))).trans (b4.mono (by have := b1.size; have := b3.size; simp at *; omega))⟩

set_option maxRecDepth 100000 in
set_option maxHeartbeats 400000 in
theorem zzLead_zero (k sc dy n : Int) (s : ByteArray) (w : World) (hs : s.size = 0) :
    Calls Tryd.prog 9 #[.int .u8 k, .int .i16 sc, .int .i32 dy, .int .i64 n, .string s] w fun e w' => e = .returned (.tuple #[.int .i64 0, .int .i64 0]) ∧ Below w.heap.size w w' := by
  have HS : Hid (s.size = 0) := hs
  clear hs
  go_enter Tryd.func9, Tryd.ntmps9
  go_wp2_with (go_at_call 15; refine (lead_zero k sc dy n s _ HS.out).mono ?_; rintro e w' ⟨rfl, hb⟩)
  go_ret2
  exact ⟨rfl, hb⟩

set_option maxRecDepth 100000 in
set_option maxHeartbeats 400000 in
theorem zzLead_some (k sc dy n P : Int) (R : Nat) (s : ByteArray) (w : World) (hs : s.size ≠ 0) (hsz : s.size ≤ 1048576) (hdec : GP.allDec (NP.dig s.data.toList) = true) (h0 : -9223372036854775808 < n) (h1 : n ≤ 9223372036854775807) (g1 : n - 1 ≤ 4 * P + (R : Int)) (g2 : 4 * P + (R : Int) ≤ n - 1) (r1 : R ≤ 3) :
    Calls Tryd.prog 9 #[.int .u8 k, .int .i16 sc, .int .i32 dy, .int .i64 n, .string s] w fun e w' => e = .returned (.tuple #[.int .i64 P, .int .i64 (GP.gval (NP.dig s.data.toList) R : Nat)]) ∧ Below w.heap.size w w' := by
  have HD : Hid (GP.allDec (NP.dig s.data.toList) = true) := hdec
  clear hdec
  go_enter Tryd.func9, Tryd.ntmps9
  go_wp2_with (go_at_call 15; refine (lead_some k sc dy n P R s _ hs hsz HD.out h0 h1 g1 g2 r1).mono ?_; rintro e w' ⟨rfl, hb⟩)
  go_ret2
  exact ⟨rfl, hb⟩
end Go.Proofs.Qxb6602072aDoor
