/- The walk of FnLeadingGroupIsFirstNonzeroGroupOfText. -/
import Derived.Test.Qxb6602072aDoorNumText
import Derived.Test.Qxb6602072aDoorGroup
import Derived.Test.Qxb6602072aDoorTextPlain
namespace Go.Proofs.Qxb6602072aDoor
open Go.RowKit

/-- the printed text behind the sign -/
def tB (sc n : Int) (s : ByteArray) : ByteArray := ⟨(TP.body sc n (NP.dig s.data.toList)).toArray⟩

theorem tB_size (sc n : Int) (s : ByteArray) : (tB sc n s).size = (TP.body sc n (NP.dig s.data.toList)).length := by
  rw [← list_size]; rfl

theorem tB_of (sc n : Int) (s : ByteArray) (i : Nat) (h : i < (tB sc n s).size) {c : UInt8} (hc : (TP.body sc n (NP.dig s.data.toList))[i]? = some c) : (tB sc n s)[i] = c := by
  have h' : i < (TP.body sc n (NP.dig s.data.toList)).length := by rw [← tB_size]; exact h
  rw [List.getElem?_eq_getElem h'] at hc
  exact Option.some.inj hc

theorem top_le (n : Int) (n1 : n ≤ 65536) : NP.top n ≤ 65536 := by unfold NP.top; split <;> omega
theorem top_ge (n : Int) : 1 ≤ NP.top n := by unfold NP.top; split <;> omega

/-- the shape of the text -/
structure Shape (t : ByteArray) (sc n : Int) (d : List UInt8) : Prop where
  le : t.size ≤ 200000
  top : NP.top n ≤ t.size
  none : sc = 0 → t.size ≤ NP.top n
  some : sc ≠ 0 → NP.top n < t.size
  dot : sc ≠ 0 → ∀ h : NP.top n < t.size, t[NP.top n] = 46
  at' : ∀ i (h : i < t.size), i ≠ NP.top n → t[i] = NP.dAt d n (TP.pw (NP.top n) i)
  low : ∀ p : Int, p < 0 → ¬ (NP.top n : Int) - p < t.size → NP.dAt d n p = 48

theorem shape (sc n : Int) (s : ByteArray) (h0 : 0 ≤ sc) (h1 : sc ≤ 32767) (n1 : n ≤ 65536) (hl : ((digB s).size : Int) - n ≤ sc) : Shape (tB sc n s) sc n (NP.dig s.data.toList) := by
  rw [digB_size] at hl
  have hlen := TP.body_length sc n (NP.dig s.data.toList) h0 hl
  have hsz := tB_size sc n s
  have ht := top_le n n1
  refine ⟨?_, ?_, ?_, ?_, ?_, ?_, ?_⟩
  · rw [hsz, hlen]; split <;> omega
  · rw [hsz, hlen]; omega
  · intro hs; rw [hsz, hlen, if_pos hs]; omega
  · intro hs; rw [hsz, hlen, if_neg hs]; omega
  · intro hs h; exact tB_of sc n s _ h (TP.body_dot sc n _ h0 hl hs)
  · intro i h hi; exact tB_of sc n s _ h (TP.body_at sc n _ h0 hl i hi (by rw [← hsz]; exact h))
  · intro p hp hnl; exact TP.beyond_low sc n p _ h0 hl hp (by rw [← hsz]; exact hnl)

set_option maxRecDepth 100000 in
set_option maxHeartbeats 400000 in
theorem power_any (p i : Nat) (w : World) (hp : p ≤ 1048576) (hi : i ≤ 1048576) :
    Calls Tryd.prog 10 #[.int .i64 p, .int .i64 i] w fun e w' => e = .returned (.int .i64 (TP.pw p i)) ∧ w' = w := by
  by_cases h : i < p
  · have HP : Hid (TP.pw p i = (p : Int) - 1 - (i : Int)) := by
      show _ = _
      unfold TP.pw; rw [if_pos h]
    go_enter Tryd.func10, Tryd.ntmps10
    go_wp2
    go_ret
    exact ⟨nret_int (by rw [HP.out]), rfl⟩
  · have HP : Hid (TP.pw p i = (p : Int) - (i : Int)) := by
      show _ = _
      unfold TP.pw; rw [if_neg h]
    go_enter Tryd.func10, Tryd.ntmps10
    go_wp2
    go_ret
    exact ⟨nret_int (by rw [HP.out]), rfl⟩

set_option maxRecDepth 100000 in
set_option maxHeartbeats 1000000 in
theorem tda_any (t : ByteArray) (sc n p : Int) (d : List UInt8) (w : World) (S : Shape t sc n d) (n1 : n ≤ 65536) (p0 : -100000 ≤ p) (p1 : p ≤ 100000) :
    Calls Tryd.prog 11 #[.string t, .int .i64 (NP.top n : Nat), .int .i64 p] w fun e w' => e = .returned (.int .u8 (NP.dAt d n p).toNat) ∧ w' = w := by
  have ht := top_le n n1
  have hle := S.le
  have htt := S.top
  by_cases hp : 0 ≤ p
  · by_cases hi : 0 ≤ (NP.top n : Int) - 1 - p
    · obtain ⟨m, hm⟩ := Int.eq_ofNat_of_zero_le hi
      have hlt : m < t.size := by omega
      have HS : Hid (NP.dAt d n p = t[m]) := by
        show _ = _
        rw [S.at' m hlt (by omega)]
        congr 1
        unfold TP.pw; rw [if_pos (by omega)]; omega
      go_enter Tryd.func11, Tryd.ntmps11
      go_wp2
      go_ret
      exact ⟨nret_int (by rw [HS.out]), rfl⟩
    · have HS : Hid (NP.dAt d n p = 48) := TP.beyond_high d n p (by omega)
      go_enter Tryd.func11, Tryd.ntmps11
      go_wp2
      go_ret
      exact ⟨nret_int (by rw [HS.out]; rfl), rfl⟩
  · by_cases hi : (NP.top n : Int) - p < t.size
    · obtain ⟨m, hm⟩ := Int.eq_ofNat_of_zero_le (show 0 ≤ (NP.top n : Int) - p by omega)
      have hlt : m < t.size := by omega
      have HS : Hid (NP.dAt d n p = t[m]) := by
        show _ = _
        rw [S.at' m hlt (by omega)]
        congr 1
        unfold TP.pw; rw [if_neg (by omega)]; omega
      go_enter Tryd.func11, Tryd.ntmps11
      go_wp2
      go_ret
      exact ⟨nret_int (by rw [HS.out]), rfl⟩
    · have HS : Hid (NP.dAt d n p = 48) := S.low p (by omega) hi
      go_enter Tryd.func11, Tryd.ntmps11
      go_wp2
      go_ret
      exact ⟨nret_int (by rw [HS.out]; rfl), rfl⟩

set_option maxRecDepth 100000 in
set_option maxHeartbeats 400000 in
theorem zz5_ok (k sc dy n : Int) (s : ByteArray) (w : World) (h : s.size ≤ 1048576) :
    Calls Tryd.prog 5 #[.int .u8 k, .int .i16 sc, .int .i32 dy, .int .i64 n, .string s] w fun e w' => e = .returned (.bool true) ∧ w' = w := by
  go_enter Tryd.func5, Tryd.ntmps5
  go_wp2
  go_ret
  exact ⟨rfl, rfl⟩

set_option maxRecDepth 100000 in
set_option maxHeartbeats 400000 in
theorem zz5_big (k sc dy n : Int) (s : ByteArray) (w : World) (hm : s.size ≤ maxLen) (h : ¬ s.size ≤ 1048576) :
    Calls Tryd.prog 5 #[.int .u8 k, .int .i16 sc, .int .i32 dy, .int .i64 n, .string s] w fun e w' => e = .returned (.bool false) ∧ w' = w := by
  unfold maxLen at hm
  go_enter Tryd.func5, Tryd.ntmps5
  go_wp2
  go_ret
  exact ⟨rfl, rfl⟩

theorem nonFin_dec (s : ByteArray) (h : GP.allDec (NP.dig s.data.toList) = true) : nonFin s = false := by
  unfold nonFin
  rw [ByteArray.toList_eq]
  revert h
  generalize s.data.toList = l
  intro h
  rw [Bool.or_eq_false_iff, Bool.or_eq_false_iff]
  refine ⟨⟨?_, ?_⟩, ?_⟩
  all_goals
    rw [beq_eq_false_iff_ne]
    rintro rfl
    exact absurd h (by decide)

theorem num_text (sc n : Int) (s : ByteArray) (h : nonFin s = false) : numText sc n s = ⟨(NP.sgn (NP.neg s.data.toList) ++ TP.body sc n (NP.dig s.data.toList)).toArray⟩ := by
  unfold numText
  rw [h, ← TP.ntext_body]
  rfl

/-- the sign is struck -/
theorem strip_neg (sc n : Int) (s : ByteArray) (h : nonFin s = false) (hn : NP.neg s.data.toList = true) :
    ∃ hp : 0 < (numText sc n s).size, (numText sc n s)[0] = 45 ∧ (numText sc n s).extract 1 (numText sc n s).size = tB sc n s := by
  rw [num_text sc n s h, hn]
  refine ⟨?_, ?_, ?_⟩
  · rw [← list_size]; simp [NP.sgn]
  · rfl
  · apply ByteArray.ext
    rw [ByteArray.data_extract]
    apply Array.ext'
    rw [Array.toList_extract, List.extract_eq_take_drop, ← list_size]
    show List.take _ (List.drop 1 (NP.sgn true ++ TP.body sc n (NP.dig s.data.toList))) = TP.body sc n (NP.dig s.data.toList)
    have e : List.drop 1 (NP.sgn true ++ TP.body sc n (NP.dig s.data.toList)) = TP.body sc n (NP.dig s.data.toList) := rfl
    rw [e, List.take_of_length_le]
    show _ ≤ (NP.sgn true ++ TP.body sc n (NP.dig s.data.toList)).length - 1
    rw [List.length_append]
    show _ ≤ 1 + _ - 1
    omega

theorem strip_pos (sc n : Int) (s : ByteArray) (h : nonFin s = false) (hn : NP.neg s.data.toList = false) : numText sc n s = tB sc n s := by
  rw [num_text sc n s h, hn]
  rfl

theorem gval_first (s : ByteArray) (R : Nat) (hd : GP.allDec (NP.dig s.data.toList) = true) (h : 0 < (digB s).size) (hf : (((digB s)[0].toNat : Int) == 48) = false) : 1 ≤ GP.gval (NP.dig s.data.toList) R := by
  refine GP.gval_pos hd ?_ R
  intro e
  have h' : 0 < (NP.dig s.data.toList).length := by rw [← digB_size]; exact h
  have e2 : ((digB s)[0]'h).toNat = 48 := by
    unfold GP.dg at e
    rw [List.getElem?_eq_getElem h'] at e
    exact congrArg UInt8.toNat e
  rw [beq_eq_false_iff_ne] at hf
  exact hf (by omega)

theorem head_digit {sc n : Int} {s : ByteArray} {d : List UInt8} (S : Shape (tB sc n s) sc n d) (hd : GP.allDec d = true) (t : ByteArray) (h : 0 < t.size) (e : t = tB sc n s) : ((t[0].toNat : Int) == 45) = false := by
  subst e
  have ht := top_ge n
  have := GP.dAt_dec hd n (TP.pw (NP.top n) 0)
  rw [← S.at' 0 h (by omega)] at this
  rw [beq_eq_false_iff_ne]
  omega

set_option maxRecDepth 100000 in
set_option maxHeartbeats 2000000 in
theorem text_main (k sc dy n P : Int) (R : Nat) (s : ByteArray) (w : World) (hs : s.size ≤ 1048576) (n0 : -65536 ≤ n) (n1 : n ≤ 65536) (hdec : GP.allDec (NP.dig s.data.toList) = true) (hdne : 0 < (digB s).size) (hfst : ((((digB s)[0]'hdne).toNat : Int) == 48) = false)
    (h0 : 0 ≤ sc) (h1 : sc ≤ 32767) (hl : ((digB s).size : Int) - n ≤ sc) (g1 : n - 1 ≤ 4 * P + (R : Int)) (g2 : 4 * P + (R : Int) ≤ n - 1) (r1 : R ≤ 3) :
    Calls Tryd.prog 3 #[.int .u8 k, .int .i16 sc, .int .i32 dy, .int .i64 n, .string s] w fun e w' => e = .returned (.bool true) ∧ Below w.heap.size w w' := by
  have HD : Hid (GP.allDec (digB s).data.toList = true) := hdec
  have HF : Hid (nonFin s = false) := nonFin_dec s hdec
  clear hdec
  have hd := digB_le s
  have hsn : s.size ≠ 0 := by omega
  have S := shape sc n s h0 h1 n1 hl
  have HSh : Hid (Shape (tB sc n s) sc n (NP.dig s.data.toList)) := S
  clear S
  have q1 : decide ((1048576 : Int) < (s.size : Int)) = false := by rw [decide_eq_false_iff_not]; omega
  have q4 : decide (n < -65536) = false := by rw [decide_eq_false_iff_not]; omega
  have q5 : decide ((65536 : Int) < n) = false := by rw [decide_eq_false_iff_not]; omega
  have q6 : decide (sc < 0) = false := by rw [decide_eq_false_iff_not]; omega
  have q7 : decide (sc < ((digB s).size : Int) - n) = false := by rw [decide_eq_false_iff_not]; omega
  have q8 : (((digB s).size : Int) == 0) = false := by rw [beq_eq_false_iff_ne]; omega
  go_enter Tryd.func3, Tryd.ntmps3
  go_upto_region 15 with (first
    | (go_at_call 5; refine (zz5_ok k sc dy n s _ hs).mono ?_; rintro e w' ⟨rfl, rfl⟩)
    | (go_at_call 6; refine (digitsOf_any s _).mono ?_; rintro e w' ⟨rfl, rfl⟩)
    | (go_at_call 7; refine (dec_any (digB s) _ (by omega)).mono ?_; rw [HD.out]; rintro e w' ⟨rfl, rfl⟩)
    | (go_at_call 8; refine (zzText_any k sc dy n s _ (Or.inr ⟨h0, h1, n0, n1, hs⟩)).mono ?_; rintro e w1 ⟨rfl, b1⟩)
    | (go_at_call 9; refine (zzLead_some k sc dy n P R s _ hsn hs HD.out (by omega) (by omega) g1 g2 r1).mono ?_; rintro e w2 ⟨rfl, b2⟩))
  have hB := b1.trans (b2.mono b1.size)
  clear b1 b2
  go_cut [88] (fun c wc => c = .bool (NP.neg s.data.toList) ∧ w2 = wc)
  case first =>
    cases hneg : NP.neg s.data.toList with
    | true =>
      obtain ⟨hp, hc, _⟩ := strip_neg sc n s HF.out hneg
      have hc2 : (((numText sc n s)[0].toNat : Int) == 45) = true := by rw [hc]; rfl
      clear hc
      go_wp2
      go_meet
      case rel => exact ⟨by rw [hneg], rfl⟩
    | false =>
      have hp : 0 < (numText sc n s).size := by
        rw [strip_pos sc n s HF.out hneg]
        have := HSh.out.top
        have := top_ge n
        omega
      have hc2 : (((numText sc n s)[0].toNat : Int) == 45) = false := head_digit HSh.out HD.out _ hp (strip_pos sc n s HF.out hneg)
      go_wp2
      go_meet
      case rel => exact ⟨by rw [hneg], rfl⟩
  case rest =>
  obtain ⟨rfl, rfl⟩ := hcut
  go_upto_if 88 with fail
  go_cut [15] (fun t wc => t = .string (tB sc n s) ∧ w2 = wc)
  case first =>
    cases hneg : NP.neg s.data.toList with
    | true =>
      obtain ⟨hp, _, hx⟩ := strip_neg sc n s HF.out hneg
      have HX : Hid ((numText sc n s).extract 1 (numText sc n s).size = tB sc n s) := hx
      clear hx
      go_wp2
      go_meet
      case rel => exact ⟨by rw [HX.out], rfl⟩
    | false =>
      have HX : Hid (numText sc n s = tB sc n s) := strip_pos sc n s HF.out hneg
      go_wp2
      go_meet
      case rel => exact ⟨by rw [HX.out], rfl⟩
  case rest =>
  obtain ⟨rfl, rfl⟩ := hcut
  have hle := HSh.out.le
  have htt := HSh.out.top
  have ht1 := top_ge n
  have ht2 := top_le n n1
  have HG1 : Hid (1 ≤ GP.gval (NP.dig s.data.toList) R) := gval_first s R HD.out hdne hfst
  have HLS : Hid (GP.ls (digB s).data.toList n P 4 = GP.gval (NP.dig s.data.toList) R) := GP.ls_gval _ n P R r1 (by omega)
  have hgl : GP.gval (NP.dig s.data.toList) R ≤ 9999 := GP.gval_le HD.out R r1
  revert HSh hle htt
  generalize tB sc n s = t
  intro HSh hle htt
  go_upto_block 0 with fail
  go_cut [16] (fun p wc => p = .int .i64 (NP.top n : Nat) ∧ w2 = wc)
  case first =>
    go_wp2_with fail
    go_loop [16, 17] (fun p i => ∃ m : Nat, m ≤ NP.top n ∧ i = .int .i64 m ∧ p = .int .i64 t.size) (fun _ i => t.size - (intOf i).toNat)
    case atStart => exact ⟨0, Nat.zero_le _, rfl, rfl⟩
    case round =>
      obtain ⟨m, hm, rfl, rfl⟩ := hrel
      by_cases hlt : m < t.size
      · by_cases hmt : m < NP.top n
        · have hx : ((t[m].toNat : Int) == 46) = false := by
            have := GP.dAt_dec HD.out n (TP.pw (NP.top n) m)
            have e : t[m] = NP.dAt (digB s).data.toList n (TP.pw (NP.top n) m) := HSh.out.at' m hlt (by omega)
            rw [← e] at this
            rw [beq_eq_false_iff_ne]
            omega
          go_wp2
          go_round
          case rel => exact ⟨m + 1, by omega, by go_num, rfl⟩
          case measure => simp [intOf]; omega
        · obtain rfl : m = NP.top n := by omega
          have hsc : sc ≠ 0 := fun e => by have := HSh.out.none e; omega
          have hx : ((t[NP.top n].toNat : Int) == 46) = true := by rw [HSh.out.dot hsc hlt]; rfl
          go_wp2
          go_meet
          case rel => exact ⟨rfl, rfl⟩
      · have HE : Hid (t.size = NP.top n) := by show _ = _; omega
        go_wp2
        go_meet
        case rel => exact ⟨by rw [HE.out], rfl⟩
  case rest =>
    obtain ⟨rfl, rfl⟩ := hcut
    go_upto_block 2 with fail
    go_cut [] (fun wc => w2 = wc)
    case first =>
      go_wp2_with fail
      go_loop [20] (fun i => ∃ m : Nat, m ≤ t.size ∧ i = .int .i64 m) (fun i => t.size - (intOf i).toNat)
      case atStart => exact ⟨0, Nat.zero_le _, rfl⟩
      case round =>
        obtain ⟨m, hm, rfl⟩ := hrel
        by_cases hlt : m < t.size
        · by_cases hmt : m = NP.top n
          · have hx : ((m : Int) == (NP.top n : Int)) = true := by rw [beq_iff_eq]; omega
            clear hmt
            go_wp2
            go_round
            case rel => exact ⟨m + 1, by omega, by go_num⟩
            case measure => simp [intOf]; omega
          · have hx : ((m : Int) == (NP.top n : Int)) = false := by rw [beq_eq_false_iff_ne]; omega
            have e : t[m] = NP.dAt (digB s).data.toList n (TP.pw (NP.top n) m) := HSh.out.at' m hlt hmt
            by_cases hpw : P * 4 + 3 < TP.pw (NP.top n) m
            · have hz : ((t[m].toNat : Int) != 48) = false := by
                rw [e, TP.dAt_high _ n _ (by omega)]; rfl
              clear e
              go_wp2_with (go_at_call 10; refine (power_any (NP.top n) m _ (by omega) (by omega)).mono ?_; rintro e w' ⟨rfl, rfl⟩)
              go_round
              case rel => exact ⟨m + 1, by omega, by go_num⟩
              case measure => simp [intOf]; omega
            · clear e
              have hpf : decide (P * 4 + 3 < TP.pw (NP.top n) m) = false := by rw [decide_eq_false_iff_not]; exact hpw
              go_wp2_with (go_at_call 10; refine (power_any (NP.top n) m _ (by omega) (by omega)).mono ?_; rintro e w' ⟨rfl, rfl⟩)
              go_round
              case rel => exact ⟨m + 1, by omega, by go_num⟩
              case measure => simp [intOf]; omega
        · go_wp2
          go_meet
          case rel => rfl
    case rest =>
      subst hcut
      go_wp2_with fail
      go_loop [21, 22] (fun u q => ∃ m : Nat, m ≤ 4 ∧ q = .int .i64 (P * 4 + 3 - (m : Int)) ∧ u = .int .i64 (GP.ls (digB s).data.toList n P m : Nat)) (fun _ q => (intOf q - P * 4 + 1).toNat)
      case atStart => exact ⟨0, Nat.zero_le _, by go_num, rfl⟩
      case round =>
        obtain ⟨m, hm, rfl, rfl⟩ := hrel
        have hls := GP.ls_le HD.out n P m hm
        by_cases hlt : m < 4
        · have HS : Hid (GP.ls (digB s).data.toList n P (m + 1) = GP.ls (digB s).data.toList n P m * 10 + ((NP.dAt (NP.dig s.data.toList) n (P * 4 + 3 - (m : Int))).toNat - 48)) := by
            show GP.ls (digB s).data.toList n P (m + 1) = _
            rw [show P * 4 + 3 - (m : Int) = 4 * P + (3 - (m : Int)) by omega]
            rfl
          obtain ⟨hb1, hb2⟩ := GP.dAt_dec HD.out n (P * 4 + 3 - (m : Int))
          rw [digB_list] at hb1 hb2
          go_wp2_with (go_at_call 11; refine (tda_any t sc n _ _ _ HSh.out n1 (by omega) (by omega)).mono ?_; rintro e w' ⟨rfl, rfl⟩)
          go_round
          case rel =>
            refine ⟨m + 1, by omega, by go_num, ?_⟩
            rw [HS.out]
            go_num
          case measure => simp [intOf]; omega
        · obtain rfl : m = 4 := by omega
          have hgp := HG1.out
          go_wp2
          go_ret
          refine ⟨nret_bool ?_, hB⟩
          rw [HLS.out]
          simp

set_option maxRecDepth 100000 in
set_option maxHeartbeats 1000000 in
theorem text_out (k sc dy n : Int) (s : ByteArray) (w : World) (hs : s.size ≤ 1048576)
    (h : n < -65536 ∨ 65536 < n ∨ (digB s).size = 0 ∨ GP.allDec (NP.dig s.data.toList) = false) :
    Calls Tryd.prog 3 #[.int .u8 k, .int .i16 sc, .int .i32 dy, .int .i64 n, .string s] w fun e w' => e = .returned (.bool true) ∧ Below w.heap.size w w' := by
  have hd := digB_le s
  by_cases hn0 : n < -65536
  · clear h
    go_enter Tryd.func3, Tryd.ntmps3
    go_wp2_with (go_at_call 5; refine (zz5_ok k sc dy n s _ hs).mono ?_; rintro e w' ⟨rfl, rfl⟩)
    go_ret
    exact ⟨rfl, Below.refl _ _⟩
  · by_cases hn1 : 65536 < n
    · clear h
      go_enter Tryd.func3, Tryd.ntmps3
      go_wp2_with (go_at_call 5; refine (zz5_ok k sc dy n s _ hs).mono ?_; rintro e w' ⟨rfl, rfl⟩)
      go_ret
      exact ⟨rfl, Below.refl _ _⟩
    · by_cases hz : (digB s).size = 0
      · clear h
        have q8 : (((digB s).size : Int) == 0) = true := by rw [beq_iff_eq]; omega
        clear hz
        go_enter Tryd.func3, Tryd.ntmps3
        go_wp2_with (first
          | (go_at_call 5; refine (zz5_ok k sc dy n s _ hs).mono ?_; rintro e w' ⟨rfl, rfl⟩)
          | (go_at_call 6; refine (digitsOf_any s _).mono ?_; rintro e w' ⟨rfl, rfl⟩))
        go_ret
        exact ⟨rfl, Below.refl _ _⟩
      · have HD : Hid (GP.allDec (digB s).data.toList = false) := by
          rcases h with h | h | h | h
          · exact absurd h hn0
          · exact absurd h hn1
          · exact absurd h hz
          · exact h
        clear h
        have q8 : (((digB s).size : Int) == 0) = false := by rw [beq_eq_false_iff_ne]; omega
        go_enter Tryd.func3, Tryd.ntmps3
        go_wp2_with (first
          | (go_at_call 5; refine (zz5_ok k sc dy n s _ hs).mono ?_; rintro e w' ⟨rfl, rfl⟩)
          | (go_at_call 6; refine (digitsOf_any s _).mono ?_; rintro e w' ⟨rfl, rfl⟩)
          | (go_at_call 7; refine (dec_any (digB s) _ (by omega)).mono ?_; rw [HD.out]; rintro e w' ⟨rfl, rfl⟩))
        go_ret
        exact ⟨rfl, Below.refl _ _⟩

set_option maxRecDepth 100000 in
set_option maxHeartbeats 1000000 in
theorem text_out2 (k sc dy n : Int) (s : ByteArray) (w : World) (hs : s.size ≤ 1048576) (n0 : -65536 ≤ n) (n1 : n ≤ 65536) (hdec : GP.allDec (NP.dig s.data.toList) = true) (hdne : 0 < (digB s).size)
    (h : ((((digB s)[0]'hdne).toNat : Int) == 48) = true ∨ sc < 0 ∨ sc < ((digB s).size : Int) - n) :
    Calls Tryd.prog 3 #[.int .u8 k, .int .i16 sc, .int .i32 dy, .int .i64 n, .string s] w fun e w' => e = .returned (.bool true) ∧ Below w.heap.size w w' := by
  have hd := digB_le s
  have HD : Hid (GP.allDec (digB s).data.toList = true) := hdec
  clear hdec
  have q8 : (((digB s).size : Int) == 0) = false := by rw [beq_eq_false_iff_ne]; omega
  cases hf : ((((digB s)[0]'hdne).toNat : Int) == 48) with
  | true =>
    clear h
    go_enter Tryd.func3, Tryd.ntmps3
    go_wp2_with (first
      | (go_at_call 5; refine (zz5_ok k sc dy n s _ hs).mono ?_; rintro e w' ⟨rfl, rfl⟩)
      | (go_at_call 6; refine (digitsOf_any s _).mono ?_; rintro e w' ⟨rfl, rfl⟩)
      | (go_at_call 7; refine (dec_any (digB s) _ (by omega)).mono ?_; rw [HD.out]; rintro e w' ⟨rfl, rfl⟩))
    go_ret
    exact ⟨rfl, Below.refl _ _⟩
  | false =>
    have h2 : sc < 0 ∨ sc < ((digB s).size : Int) - n := by
      rcases h with h | h
      · rw [hf] at h; cases h
      · exact h
    clear h
    by_cases hc : sc < 0
    · clear h2
      go_enter Tryd.func3, Tryd.ntmps3
      go_wp2_with (first
        | (go_at_call 5; refine (zz5_ok k sc dy n s _ hs).mono ?_; rintro e w' ⟨rfl, rfl⟩)
        | (go_at_call 6; refine (digitsOf_any s _).mono ?_; rintro e w' ⟨rfl, rfl⟩)
        | (go_at_call 7; refine (dec_any (digB s) _ (by omega)).mono ?_; rw [HD.out]; rintro e w' ⟨rfl, rfl⟩))
      go_ret
      exact ⟨rfl, Below.refl _ _⟩
    · have hl : sc < ((digB s).size : Int) - n := by omega
      clear h2
      go_enter Tryd.func3, Tryd.ntmps3
      go_wp2_with (first
        | (go_at_call 5; refine (zz5_ok k sc dy n s _ hs).mono ?_; rintro e w' ⟨rfl, rfl⟩)
        | (go_at_call 6; refine (digitsOf_any s _).mono ?_; rintro e w' ⟨rfl, rfl⟩)
        | (go_at_call 7; refine (dec_any (digB s) _ (by omega)).mono ?_; rw [HD.out]; rintro e w' ⟨rfl, rfl⟩))
      go_ret
      exact ⟨rfl, Below.refl _ _⟩

set_option maxRecDepth 100000 in
set_option maxHeartbeats 400000 in
theorem text_big (k sc dy n : Int) (s : ByteArray) (w : World) (hm : s.size ≤ maxLen) (hs : ¬ s.size ≤ 1048576) :
    Calls Tryd.prog 3 #[.int .u8 k, .int .i16 sc, .int .i32 dy, .int .i64 n, .string s] w fun e w' => e = .returned (.bool true) ∧ Below w.heap.size w w' := by
  go_enter Tryd.func3, Tryd.ntmps3
  go_wp2_with (go_at_call 5; refine (zz5_big k sc dy n s _ hm hs).mono ?_; rintro e w' ⟨rfl, rfl⟩)
  go_ret
  exact ⟨rfl, Below.refl _ _⟩

theorem law_text (k sc dy n : Int) (s : ByteArray) (w : World) (hm : s.size ≤ maxLen) (hc1 : sc ≤ 32767) :
    Calls Tryd.prog 3 #[.int .u8 k, .int .i16 sc, .int .i32 dy, .int .i64 n, .string s] w fun e w' => e = .returned (.bool true) ∧ Below w.heap.size w w' := by
  by_cases hs : s.size ≤ 1048576
  · by_cases hn0 : n < -65536
    · exact text_out k sc dy n s w hs (Or.inl hn0)
    by_cases hn1 : 65536 < n
    · exact text_out k sc dy n s w hs (Or.inr (Or.inl hn1))
    by_cases hz : (digB s).size = 0
    · exact text_out k sc dy n s w hs (Or.inr (Or.inr (Or.inl hz)))
    cases hdec : GP.allDec (NP.dig s.data.toList) with
    | false => exact text_out k sc dy n s w hs (Or.inr (Or.inr (Or.inr hdec)))
    | true =>
      have hdne : 0 < (digB s).size := by omega
      cases hf : ((((digB s)[0]'hdne).toNat : Int) == 48) with
      | true => exact text_out2 k sc dy n s w hs (by omega) (by omega) hdec hdne (Or.inl hf)
      | false =>
        by_cases hc : sc < 0 ∨ sc < ((digB s).size : Int) - n
        · exact text_out2 k sc dy n s w hs (by omega) (by omega) hdec hdne (Or.inr hc)
        · obtain ⟨R, hR⟩ : ∃ R : Nat, (R : Int) = (n - 1) % 4 := ⟨((n - 1) % 4).toNat, by omega⟩
          exact text_main k sc dy n ((n - 1) / 4) R s w hs (by omega) (by omega) hdec hdne hf (by omega) hc1 (by omega) (by omega) (by omega) (by omega)
  · exact text_big k sc dy n s w hm hs
end Go.Proofs.Qxb6602072aDoor
