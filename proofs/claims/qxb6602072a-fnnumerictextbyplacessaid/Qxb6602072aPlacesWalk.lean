/- The walk of the law's place-by-place model. -/
import Derived.Test.Qxb6602072aNumText
namespace Go.Proofs.Qxb6602072a
open Go.RowKit

theorem ninfo5 : (Try.prog.info? 5).map (fun i => (i.zero, i.size, i.bytes)) = some (some (.int .u8 0), 1, 1) := by kernel_rfl

/-- string(out), out a row of bytes of the call's own -/
theorem nconv_own {w : World} {base n : Nat} {v : Value} {l : List UInt8} (h : w.ownsRow base 5 1 v n (Lib.byteCells l)) :
    (convert 36 9 v).run Try.prog w = .ok (.string ⟨l.toArray⟩) w := by
  have hn : n = l.length := by have := h.1; rw [Lib.byteCells_length] at this; omega
  have h' := h
  rcases h.2 with ⟨rfl, h0⟩ | ⟨g, cap, cur, rfl, _, _, _, _, _, _⟩
  · have hl : l = [] := List.eq_nil_of_length_eq_zero (by omega)
    subst hl
    exact run_convert_bytes_nil w 36 5 Try.underlying36 Try.underlying5 0 0 9 Try.underlying9
  · subst hn
    exact run_convert_bytes_back (P := Try.prog) w 36 9 5 ⟨g, 0, none⟩ cap l Try.underlying36 Try.underlying5 Try.underlying9 (fun j hj => h'.cells (g := g) rfl j _ (by simp [Lib.byteCells, hj]))

theorem one_byte (c : Int) : ∀ u ∈ [Value.int .u8 c], u.oneCell' = true := by
  intro u hu
  simp only [List.mem_singleton] at hu
  subst hu; rfl

theorem own_len {w : World} {base n : Nat} {v : Value} {l : List UInt8} (h : w.ownsRow base 5 1 v n (Lib.byteCells l)) : n = l.length := by
  have := h.1; rw [Lib.byteCells_length] at this; omega

theorem own_any {w : World} {base m : Nat} {v : Value} {xs : List Value} {l : List UInt8} (h : w.ownsRow base 5 1 v m xs) (e : xs = Lib.byteCells l) : w.ownsRow base 5 1 v l.length (Lib.byteCells l) := by
  subst e
  have hm := own_len h
  subst hm
  exact h

theorem cells_snoc (l : List UInt8) (c : UInt8) : Lib.byteCells l ++ [.int .u8 c.toNat] = Lib.byteCells (l ++ [c]) := by
  rw [Lib.byteCells_append]; rfl

set_option maxRecDepth 100000 in
set_option maxHeartbeats 2000000 in
theorem model_text (sc n : Int) (s : ByteArray) (w : World) (h0 : 0 ≤ sc) (h1 : sc ≤ 32767) (n0 : -65536 ≤ n) (n1 : n ≤ 65536) (hs : s.size ≤ 1048576) :
    Calls Try.prog 11 #[.int .i16 sc, .int .i64 n, .string s] w fun e w' => e = .returned (.string ⟨(NP.mtext (NP.neg s.data.toList) sc n (NP.dig s.data.toList)).toArray⟩) ∧ Below w.heap.size w w' := by
  obtain ⟨i0, hi, hz0, hz1, hz2⟩ := info_parts ninfo5
  have hd := digB_le s
  go_enter Try.func11, Try.ntmps11
  go_upto_region 2 with fail
  go_cut [19] (fun c wc => c = .bool (NP.neg s.data.toList) ∧ w = wc)
  case first =>
    by_cases hp : 0 < s.size
    · cases hm : (((s[0].toNat : Nat) : Int) == 45)
      · have HN : Hid (NP.neg s.data.toList = false) := (digB_pos s hp hm).2
        go_wp2
        go_meet
        case rel => exact ⟨by rw [HN.out], rfl⟩
      · have HN : Hid (NP.neg s.data.toList = true) := (digB_neg s hp hm).2
        go_wp2
        go_meet
        case rel => exact ⟨by rw [HN.out], rfl⟩
    · have HN : Hid (NP.neg s.data.toList = false) := (digB_none s hp).2
      go_wp2
      go_meet
      case rel => exact ⟨by rw [HN.out], rfl⟩
  case rest =>
  obtain ⟨rfl, rfl⟩ := hcut
  go_upto_if 19 with fail
  go_cut [7] (fun o w2 => w2.ownsRow w.heap.size 5 1 o (NP.sgn (NP.neg s.data.toList)).length (Lib.byteCells (NP.sgn (NP.neg s.data.toList))) ∧ Below w.heap.size w w2)
  case first =>
    cases hneg : NP.neg s.data.toList with
    | true =>
      go_wp2_with (at_builtin; refine wpList_append_own _ rfl _ _ 36 rfl w.heap.size 5 i0 (.int .u8 0) 1 1 Try.underlying36 hi hz0 hz1 hz2 rfl (by decide) (.slice none 0 0) 0 [] rfl (World.ownsRow_nil _ _ _ _) ⟨w.heap.size, 0, none⟩ 1 1 [.int .u8 45] rfl rfl (cell_one_new _ _ _) (one_byte 45) (by unfold maxLen; omega) (by omega) (by simp) ?_)
      intro v1 w1 hown1 hgrow1 hnil1
      go_wp2
      go_meet
      case rel =>
        exact ⟨by rw [hneg]; exact hown1, ((Below.refl _ w).alloc (Nat.le_refl _) _).grown hgrow1 (by simp) (fun k h => by cases h)⟩
    | false =>
      go_wp2
      go_meet
      case rel => exact ⟨by rw [hneg]; exact World.ownsRow_nil _ _ _ _, Below.refl _ _⟩
  case rest =>
  obtain ⟨hown, hb⟩ := hcut
  have hsl : (NP.sgn (NP.neg s.data.toList)).length ≤ 1 := by unfold NP.sgn; split <;> simp
  go_upto_if 27 with (go_at_call 10; refine (digitsOf_any s _).mono ?_; rintro e w' ⟨rfl, rfl⟩)
  go_cut [9] (fun t9 w3 => t9 = .int .i64 (NP.top n : Nat) ∧ w' = w3)
  case first =>
    by_cases hn1 : n < 1
    · have HT : Hid (NP.top n = 1) := by
        show _ = _
        unfold NP.top; rw [if_pos hn1]
      go_wp2
      go_meet
      case rel => exact ⟨by rw [HT.out]; rfl, rfl⟩
    · have HT : Hid (((NP.top n : Nat) : Int) = n) := by
        show _ = _
        unfold NP.top; rw [if_neg hn1]; omega
      go_wp2
      go_meet
      case rel => exact ⟨by rw [HT.out], rfl⟩
  case rest =>
  obtain ⟨rfl, rfl⟩ := hcut
  have ht1 : 1 ≤ NP.top n := by unfold NP.top; split <;> omega
  have ht2 : NP.top n ≤ 65536 := by unfold NP.top; split <;> omega
  go_wp2_with fail
  go_loopw [7, 10] (fun o p wr => ∃ k : Nat, k ≤ NP.top n ∧ p = .int .i64 ((NP.top n : Int) - 1 - (k : Int)) ∧ wr.ownsRow w.heap.size 5 1 o (NP.sgn (NP.neg s.data.toList) ++ NP.imod n (NP.dig s.data.toList) k).length (Lib.byteCells (NP.sgn (NP.neg s.data.toList) ++ NP.imod n (NP.dig s.data.toList) k)) ∧ Below w.heap.size w wr) (fun _ p _ => (intOf p + 1).toNat)
  case atStart => exact ⟨0, Nat.zero_le _, by go_num, by simpa [NP.imod] using hown, hb⟩
  case round =>
    obtain ⟨k, hk, rfl, hown2, hb2⟩ := hrel
    have hbs := hb2.size
    have hll : (NP.sgn (NP.neg s.data.toList) ++ NP.imod n (NP.dig s.data.toList) k).length ≤ 65537 := by rw [List.length_append, NP.imod_length]; omega
    by_cases hlt : k < NP.top n
    · go_wp2_with fail
      refine (digitAt_any (digB s) n _ _ (by omega) (by omega) (by omega) (by omega) (by omega)).mono ?_
      rintro e w3 ⟨rfl, rfl⟩
      go_wp2_with (at_builtin; refine wpList_append_own _ rfl _ _ 36 rfl w.heap.size 5 i0 (.int .u8 0) 1 1 Try.underlying36 hi hz0 hz1 hz2 rfl (by decide) _ _ _ rfl (hown2.alloc _) ⟨w3.heap.size, 0, none⟩ 1 1 [.int .u8 (NP.dAt (digB s).data.toList n ((NP.top n : Int) - 1 - (k : Int))).toNat] rfl rfl (cell_one_new _ _ _) (one_byte _) ?c1 ?c2 ?c3 ?_)
      case c1 => unfold maxLen; omega
      case c2 => omega
      case c3 => simp; omega
      intro v1 w4 hown4 hgrow4 hnil4
      go_wp2
      go_roundw
      case rel =>
        refine ⟨k + 1, by omega, by go_num, ?_, (hb2.alloc (by omega) _).grown hgrow4 (by simp; omega) (fun j hj => (hown2.lt j hj).1)⟩
        exact own_any hown4 (by rw [NP.imod_succ, ← List.append_assoc, ← cells_snoc]; rfl)
      case measure => simp [intOf]; omega
    · obtain rfl : k = NP.top n := by omega
      have HM : Hid (NP.mtext (NP.neg s.data.toList) sc n (NP.dig s.data.toList) = NP.sgn (NP.neg s.data.toList) ++ NP.imod n (NP.dig s.data.toList) (NP.top n) ++ (if sc = 0 then [] else [46] ++ NP.fmod n (NP.dig s.data.toList) sc.toNat)) := rfl
      by_cases hsc : sc = 0
      · subst hsc
        have HM0 : Hid (NP.mtext (NP.neg s.data.toList) 0 n (NP.dig s.data.toList) = NP.sgn (NP.neg s.data.toList) ++ NP.imod n (NP.dig s.data.toList) (NP.top n)) := by
          show _ = _
          unfold NP.mtext; rw [if_pos rfl, List.append_nil]
        clear HM
        have hcv := nconv_own hown2
        go_wp2
        go_ret
        exact ⟨nret_str (by rw [HM0.out]), hb2⟩
      · have hsp : 0 < sc := by omega
        have hsb : decide (0 < sc) = true := by rw [decide_eq_true_eq]; exact hsp
        go_wp2_with (at_builtin; refine wpList_append_own _ rfl _ _ 36 rfl w.heap.size 5 i0 (.int .u8 0) 1 1 Try.underlying36 hi hz0 hz1 hz2 rfl (by decide) _ _ _ rfl (hown2.alloc _) ⟨wr.heap.size, 0, none⟩ 1 1 [.int .u8 46] rfl rfl (cell_one_new _ _ _) (one_byte _) ?c1 ?c2 ?c3 ?_)
        case c1 => unfold maxLen; omega
        case c2 => omega
        case c3 => simp; omega
        intro v5 w5 hown5 hgrow5 hnil5
        have hown5' := own_any (l := NP.sgn (NP.neg s.data.toList) ++ NP.imod n (NP.dig s.data.toList) (NP.top n) ++ [46]) hown5 (by rw [← cells_snoc]; rfl)
        have hb5 : Below w.heap.size w w5 := (hb2.alloc (by omega) _).grown hgrow5 (by simp; omega) (fun j hj => (hown2.lt j hj).1)
        clear hown5 hgrow5 hnil5
        go_wp2_with fail
        go_loopw [7, 11] (fun o q wr => ∃ k : Nat, (k : Int) ≤ sc ∧ q = .int .i64 ((k : Int) + 1) ∧ wr.ownsRow w.heap.size 5 1 o (NP.sgn (NP.neg s.data.toList) ++ NP.imod n (NP.dig s.data.toList) (NP.top n) ++ [46] ++ NP.fmod n (NP.dig s.data.toList) k).length (Lib.byteCells (NP.sgn (NP.neg s.data.toList) ++ NP.imod n (NP.dig s.data.toList) (NP.top n) ++ [46] ++ NP.fmod n (NP.dig s.data.toList) k)) ∧ Below w.heap.size w wr) (fun _ q _ => (sc + 1 - intOf q).toNat)
        case atStart => exact ⟨0, by omega, by go_num, by simpa [NP.fmod] using hown5', hb5⟩
        case round =>
          obtain ⟨k, hk, rfl, hown6, hb6⟩ := hrel
          have hbs6 := hb6.size
          have hll6 : (NP.sgn (NP.neg s.data.toList) ++ NP.imod n (NP.dig s.data.toList) (NP.top n) ++ [46] ++ NP.fmod n (NP.dig s.data.toList) k).length ≤ 200000 := by
            rw [List.length_append, List.length_append, NP.fmod_length, List.length_singleton]; omega
          by_cases hlt : (k : Int) < sc
          · go_wp2_with fail
            refine (digitAt_any (digB s) n _ _ (by omega) (by omega) (by omega) (by omega) (by omega)).mono ?_
            rintro e w7 ⟨rfl, rfl⟩
            go_wp2_with (at_builtin; refine wpList_append_own _ rfl _ _ 36 rfl w.heap.size 5 i0 (.int .u8 0) 1 1 Try.underlying36 hi hz0 hz1 hz2 rfl (by decide) _ _ _ rfl (hown6.alloc _) ⟨w7.heap.size, 0, none⟩ 1 1 [.int .u8 (NP.dAt (digB s).data.toList n (-((k : Int) + 1))).toNat] rfl rfl (cell_one_new _ _ _) (one_byte _) ?c1 ?c2 ?c3 ?_)
            case c1 => unfold maxLen; omega
            case c2 => omega
            case c3 => simp; omega
            intro v8 w8 hown8 hgrow8 hnil8
            go_wp2
            go_roundw
            case rel =>
              refine ⟨k + 1, by omega, by go_num, ?_, (hb6.alloc (by omega) _).grown hgrow8 (by simp; omega) (fun j hj => (hown6.lt j hj).1)⟩
              exact own_any hown8 (by rw [NP.fmod_succ]; simp only [Lib.byteCells, List.map_append, List.append_assoc, List.map_cons, List.map_nil, List.cons_append, List.nil_append]; rfl)
            case measure => simp [intOf]; omega
          · have hks : (k : Int) = sc := by omega
            have HK : Hid (k = sc.toNat) := by show _ = _; omega
            clear hks
            have hcv := nconv_own hown6
            go_wp2
            go_ret
            exact ⟨nret_str (by rw [HM.out, if_neg hsc, ← HK.out]; simp only [List.append_assoc, List.cons_append, List.nil_append]), hb6⟩

set_option maxRecDepth 100000 in
set_option maxHeartbeats 400000 in
theorem zz7_ok (k sc dy n : Int) (s : ByteArray) (w : World) (h : s.size ≤ 1048576) :
    Calls Try.prog 7 #[.int .u8 k, .int .i16 sc, .int .i32 dy, .int .i64 n, .string s] w fun e w' => e = .returned (.bool true) ∧ w' = w := by
  go_enter Try.func7, Try.ntmps7
  go_wp2
  go_ret
  exact ⟨rfl, rfl⟩

set_option maxRecDepth 100000 in
set_option maxHeartbeats 400000 in
theorem zz7_big (k sc dy n : Int) (s : ByteArray) (w : World) (hm : s.size ≤ maxLen) (h : ¬ s.size ≤ 1048576) :
    Calls Try.prog 7 #[.int .u8 k, .int .i16 sc, .int .i32 dy, .int .i64 n, .string s] w fun e w' => e = .returned (.bool false) ∧ w' = w := by
  unfold maxLen at hm
  go_enter Try.func7, Try.ntmps7
  go_wp2
  go_ret
  exact ⟨rfl, rfl⟩

theorem ptext_fin (sc n : Int) (s : ByteArray) (hf : nonFin s = false) (h0 : 0 ≤ sc) (hl : ((digB s).size : Int) - n ≤ sc) : numText sc n s = ⟨(NP.mtext (NP.neg s.data.toList) sc n (NP.dig s.data.toList)).toArray⟩ := by
  unfold numText
  rw [hf]
  rw [digB_size] at hl
  rw [← NP.ntext_mtext _ sc n _ h0 hl]
  rfl

theorem ptext_non (sc n : Int) (s : ByteArray) (hf : nonFin s = true) : numText sc n s = s := by
  unfold numText; rw [hf]; rfl

set_option maxRecDepth 100000 in
set_option maxHeartbeats 1000000 in
theorem law_places (k sc dy n : Int) (s : ByteArray) (w : World) (hm : s.size ≤ maxLen) (hc1 : sc ≤ 32767) :
    Calls Try.prog 3 #[.int .u8 k, .int .i16 sc, .int .i32 dy, .int .i64 n, .string s] w fun e w' => e = .returned (.bool true) ∧ Below w.heap.size w w' := by
  by_cases hs : s.size ≤ 1048576
  · cases hf : nonFin s with
    | true =>
      have HF : Hid (nonFin s = true) := hf
      clear hf
      go_enter Try.func3, Try.ntmps3
      go_wp2_with (first
        | (go_at_call 7; refine (zz7_ok k sc dy n s _ hs).mono ?_; rintro e w' ⟨rfl, rfl⟩)
        | (go_at_call 8; refine (nonFinite_any s _).mono ?_; rw [HF.out]; rintro e w' ⟨rfl, rfl⟩))
      refine (zzText_any k sc dy n s _ (Or.inl HF.out)).mono ?_
      rintro e w1 ⟨rfl, b1⟩
      rw [ptext_non sc n s HF.out]
      go_wp2
      go_ret
      exact ⟨rfl, b1⟩
    | false =>
      have HF : Hid (nonFin s = false) := hf
      clear hf
      have hd := digB_le s
      by_cases hn0 : n < -65536
      · go_enter Try.func3, Try.ntmps3
        go_wp2_with (first
          | (go_at_call 7; refine (zz7_ok k sc dy n s _ hs).mono ?_; rintro e w' ⟨rfl, rfl⟩)
          | (go_at_call 8; refine (nonFinite_any s _).mono ?_; rw [HF.out]; rintro e w' ⟨rfl, rfl⟩))
        go_ret
        exact ⟨rfl, Below.refl _ _⟩
      by_cases hn1 : 65536 < n
      · go_enter Try.func3, Try.ntmps3
        go_wp2_with (first
          | (go_at_call 7; refine (zz7_ok k sc dy n s _ hs).mono ?_; rintro e w' ⟨rfl, rfl⟩)
          | (go_at_call 8; refine (nonFinite_any s _).mono ?_; rw [HF.out]; rintro e w' ⟨rfl, rfl⟩))
        go_ret
        exact ⟨rfl, Below.refl _ _⟩
      by_cases hc0 : sc < 0
      · go_enter Try.func3, Try.ntmps3
        go_wp2_with (first
          | (go_at_call 7; refine (zz7_ok k sc dy n s _ hs).mono ?_; rintro e w' ⟨rfl, rfl⟩)
          | (go_at_call 8; refine (nonFinite_any s _).mono ?_; rw [HF.out]; rintro e w' ⟨rfl, rfl⟩))
        go_ret
        exact ⟨rfl, Below.refl _ _⟩
      by_cases hl : sc < ((digB s).size : Int) - n
      · go_enter Try.func3, Try.ntmps3
        go_wp2_with (first
          | (go_at_call 7; refine (zz7_ok k sc dy n s _ hs).mono ?_; rintro e w' ⟨rfl, rfl⟩)
          | (go_at_call 8; refine (nonFinite_any s _).mono ?_; rw [HF.out]; rintro e w' ⟨rfl, rfl⟩)
          | (go_at_call 10; refine (digitsOf_any s _).mono ?_; rintro e w' ⟨rfl, rfl⟩))
        go_ret
        exact ⟨rfl, Below.refl _ _⟩
      · go_enter Try.func3, Try.ntmps3
        go_wp2_with (first
          | (go_at_call 7; refine (zz7_ok k sc dy n s _ hs).mono ?_; rintro e w' ⟨rfl, rfl⟩)
          | (go_at_call 8; refine (nonFinite_any s _).mono ?_; rw [HF.out]; rintro e w' ⟨rfl, rfl⟩)
          | (go_at_call 10; refine (digitsOf_any s _).mono ?_; rintro e w' ⟨rfl, rfl⟩))
        refine (zzText_any k sc dy n s _ (Or.inr ⟨by omega, by omega, by omega, by omega, hs⟩)).mono ?_
        rintro e w1 ⟨rfl, b1⟩
        rw [ptext_fin sc n s HF.out (by omega) (by omega)]
        go_wp2_with fail
        refine (model_text sc n s _ (by omega) (by omega) (by omega) (by omega) hs).mono ?_
        rintro e w2 ⟨rfl, b2⟩
        go_wp2
        go_ret
        exact ⟨nret_bool (by simp), b1.trans (b2.mono b1.size)⟩
  · go_enter Try.func3, Try.ntmps3
    go_wp2_with (go_at_call 7; refine (zz7_big k sc dy n s _ hm hs).mono ?_; rintro e w' ⟨rfl, rfl⟩)
    go_ret
    exact ⟨rfl, Below.refl _ _⟩
end Go.Proofs.Qxb6602072a
