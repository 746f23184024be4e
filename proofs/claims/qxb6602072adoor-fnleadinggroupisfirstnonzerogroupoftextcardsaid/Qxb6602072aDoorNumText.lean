/- numericText: the Builder's road, by the library's contracts. -/
import Derived.Test.Qxb6602072aDoorNumParts
import Derived.Lib.UnsafeStr
import Derived.Deep.DeepCutAuto
import Derived.Deep.CutBlock
namespace Go.Proofs.Qxb6602072aDoor
open Go.RowKit

theorem bytes_zero (l : List UInt8) (k : Nat) : Lib.byteCells (l ++ NP.zeros k) ++ [.int .u8 48] = Lib.byteCells (l ++ NP.zeros (k + 1)) := by
  rw [NP.zeros_succ, ← List.append_assoc, Lib.byteCells_append (l ++ NP.zeros k)]
  rfl

set_option maxRecDepth 100000 in
set_option maxHeartbeats 1000000 in
theorem zeros_any (B b : Nat) (l : List UInt8) (n : Int) (w : World) (h : Lib.IsBuilder 46 5 B b (Lib.byteCells l) w) (hl : l.length ≤ 16777216) (hn : n ≤ 16777216) (hBw : B ≤ w.heap.size) :
    Calls Tryd.prog 22 #[.pointer (some ⟨b, 0, none⟩), .int .i64 n] w fun e w' => e = .returned (.tuple #[]) ∧ Lib.IsBuilder 46 5 B b (Lib.byteCells (l ++ NP.zeros n.toNat)) w' ∧ Below B w w' := by
  go_enter Tryd.func22, Tryd.ntmps22
  go_wp2
  go_loopw [5] (fun i wr => ∃ k : Nat, i = .int .i64 k ∧ (k : Int) ≤ max n 0 ∧ Lib.IsBuilder 46 5 B b (Lib.byteCells (l ++ NP.zeros k)) wr ∧ Below B w wr) (fun i _ => (n - intOf i).toNat)
  case atStart => exact ⟨0, rfl, by omega, by simpa [NP.zeros] using h, Below.refl _ _⟩
  case round =>
    obtain ⟨k, rfl, hk, hI, hb⟩ := hrel
    have hbs := hb.size
    by_cases hlt : (k : Int) < n
    · go_wp2_with (go_at_call 20; refine (Tryd.Builder_WriteByte B b _ 48 _ hI ?c1 ?c2).mono ?_)
      case c1 => rw [Lib.byteCells_length, List.length_append, NP.zeros_length]; omega
      case c2 => omega
      rintro e w1 ⟨rfl, h1, b1⟩
      go_wp2
      go_roundw
      case rel => exact ⟨k + 1, by go_num, by omega, by rw [← bytes_zero]; exact Or.inr h1, hb.trans b1⟩
      case measure => simp [intOf]; omega
    · have hkn : k = n.toNat := by omega
      subst hkn
      go_wp2
      go_end0
      exact ⟨rfl, hI, hb⟩

theorem nextract_list (s : ByteArray) (a b : Nat) : (s.extract a b).data.toList = (s.data.toList.take b).drop a := by
  rw [ByteArray.data_extract, Array.toList_extract, List.extract_eq_take_drop, List.drop_take]

theorem nstr_extract (s : ByteArray) (a b : Nat) : Lib.strCells (s.extract a b) = Lib.byteCells ((s.data.toList.take b).drop a) := by
  rw [Lib.strCells_eq, nextract_list]

theorem frac_cells (s : ByteArray) (n : Int) : Lib.strCells ((digB s).extract (max n 0).toNat (digB s).size) = Lib.byteCells ((NP.dig s.data.toList).drop n.toNat) := by
  rw [nstr_extract, digB_list, digB_size, List.take_of_length_le (Nat.le_refl _), show (max n 0).toNat = n.toNat by omega]

theorem frac_none (s : ByteArray) (n : Int) (h : ((digB s).size : Int) ≤ n) : Lib.strCells ⟨#[]⟩ = Lib.byteCells ((NP.dig s.data.toList).drop n.toNat) := by
  rw [List.drop_of_length_le (by rw [← digB_size]; omega)]
  rfl

theorem bcell {W w1 : World} (hb : Below W.heap.size W w1) : (∀ b o, b < W.heap.size → w1.cell? ⟨b, o, none⟩ = W.cell? ⟨b, o, none⟩) ∧ (∀ b o, b < W.heap.size → w1.frozen? ⟨b, o, none⟩ = W.frozen? ⟨b, o, none⟩) :=
  ⟨fun b o h => hb.cell (p := ⟨b, o, none⟩) h, fun b o h => hb.frozen (p := ⟨b, o, none⟩) h⟩

theorem grow_any (w : World) (n : Int) (h0 : 0 ≤ n) (h1 : n ≤ 16777216) :
    Calls Tryd.prog 19 #[.pointer (some ⟨w.heap.size, 0, none⟩), .int .i64 n] (w.alloc (.cells #[.pointer none, .slice none 0 0] 46)) fun e w' => e = .returned (.tuple #[]) ∧ Lib.IsBuilder 46 5 w.heap.size w.heap.size (Lib.byteCells []) w' ∧ Below w.heap.size w w' := by
  obtain ⟨m, rfl⟩ := Int.eq_ofNat_of_zero_le h0
  refine (Tryd.Builder_Grow_fresh w.heap.size w.heap.size m (w.alloc (.cells #[.pointer none, .slice none 0 0] 46)) (Nat.le_refl _) (heap_alloc_new w _) (by simp) (by omega)).mono ?_
  rintro e w' ⟨rfl, h, hb⟩
  exact ⟨rfl, Or.inr h, ((Below.refl _ w).alloc (Nat.le_refl _) _).trans hb⟩

set_option maxRecDepth 100000 in
set_option maxHeartbeats 1000000 in
theorem text_fin (k sc dy n : Int) (s : ByteArray) (w : World) (hf : nonFin s = false) (h0 : 0 ≤ sc) (h1 : sc ≤ 32767) (n0 : -65536 ≤ n) (n1 : n ≤ 65536) (hs : s.size ≤ 1048576) :
    Calls Tryd.prog 14 #[.agg #[.int .u8 k, .int .i16 sc, .int .i32 dy, .int .i64 n, .string s]] w fun e w' => e = .returned (.string ⟨(NP.ntext (NP.neg s.data.toList) sc n (NP.dig s.data.toList)).toArray⟩) ∧ Below w.heap.size w w' := by
  have HF : Hid (nonFin s = false) := hf
  clear hf
  have hd := digB_le s
  go_enter Tryd.func14, Tryd.ntmps14
  go_wp2_with fail
  refine (class_fin k sc dy n s _ HF.out).mono ?_
  rintro e w1 ⟨rfl, b1⟩
  obtain ⟨c1, f1⟩ := bcell b1
  have z1 : w.heap.size < w1.heap.size := by have := b1.size; simp at this; omega
  go_wp2_with fail
  refine (parts_any k sc dy n s _).mono ?_
  rintro e w2 ⟨rfl, b2⟩
  obtain ⟨c2, f2⟩ := bcell b2
  have z2 : w.heap.size < w2.heap.size := by have := b2.size; omega
  go_wp2_with fail
  refine (scale_any k sc dy n s _ (by omega) h1).mono ?_
  rintro e w3 ⟨rfl, b3⟩
  have z3 : w.heap.size < w3.heap.size := by have := b3.size; omega
  clear c1 f1 c2 f2
  go_wp2_with fail
  refine (grow_any w3 _ (by omega) (by omega)).mono ?_
  rintro e w4 ⟨rfl, i4, b4⟩
  go_upto_if 31 with fail
  go_cut [] (fun wc => Lib.IsBuilder 46 5 w3.heap.size w3.heap.size (Lib.byteCells (NP.sgn (NP.neg s.data.toList))) wc ∧ Below w3.heap.size w3 wc)
  case first =>
    have hbs := b4.size
    by_cases hneg : sgnI s < 0
    · have HN : Hid (NP.neg s.data.toList = true) := (sgnI_neg s).1 hneg
      go_wp2_with fail
      refine (Tryd.Builder_WriteByte w3.heap.size w3.heap.size _ 45 _ i4 ?c1 hbs).mono ?_
      case c1 => rw [Lib.byteCells_length]; simp
      rintro e w5 ⟨rfl, i5, b5⟩
      go_wp2
      go_meet
      case rel => exact ⟨by rw [HN.out]; exact Or.inr i5, b4.trans b5⟩
    · have HN : Hid (NP.neg s.data.toList = false) := by
        show _ = _
        cases h : NP.neg s.data.toList
        · rfl
        · exact absurd ((sgnI_neg s).2 h) hneg
      go_wp2
      go_meet
      case rel => exact ⟨by rw [HN.out]; exact i4, b4⟩
  case rest =>
    obtain ⟨i5, b5⟩ := hcut
    have hbs := b5.size
    have hsl : (NP.sgn (NP.neg s.data.toList)).length ≤ 1 := by unfold NP.sgn; split <;> simp
    go_upto_block 0 with fail
    go_cut [] (fun wc2 => Lib.IsBuilder 46 5 w3.heap.size w3.heap.size (Lib.byteCells (NP.sgn (NP.neg s.data.toList) ++ NP.ipart n (NP.dig s.data.toList))) wc2 ∧ Below w3.heap.size w3 wc2)
    case first =>
      by_cases hn0 : n ≤ 0
      · have HI : Hid (NP.ipart n (NP.dig s.data.toList) = [48]) := by
          show _ = _
          unfold NP.ipart; rw [if_pos hn0]
        go_wp2_with fail
        refine (Tryd.Builder_WriteByte w3.heap.size w3.heap.size _ 48 _ i5 ?c1 hbs).mono ?_
        case c1 => rw [Lib.byteCells_length]; omega
        rintro e w5 ⟨rfl, i6, b6⟩
        go_wp2
        go_meet
        case rel => exact ⟨by rw [HI.out, Lib.byteCells_append]; exact Or.inr i6, b5.trans b6⟩
      · by_cases hnl : ((digB s).size : Int) ≤ n
        · have HI : Hid (NP.ipart n (NP.dig s.data.toList) = NP.dig s.data.toList ++ NP.zeros (n.toNat - (digB s).size)) := by
            show _ = _
            have hnl2 := hnl
            rw [digB_size] at hnl2
            unfold NP.ipart; rw [if_neg hn0, if_pos hnl2, digB_size]
          go_wp2_with fail
          refine (Tryd.Builder_WriteString w3.heap.size w3.heap.size _ (digB s) _ i5 ?c1 hbs).mono ?_
          case c1 => rw [Lib.byteCells_length]; omega
          rintro e w5 ⟨rfl, i6, b6⟩
          have i6' : Lib.IsBuilder 46 5 w3.heap.size w3.heap.size (Lib.byteCells (NP.sgn (NP.neg s.data.toList) ++ NP.dig s.data.toList)) w5 := by
            rw [Lib.byteCells_append, ← digB_list, ← Lib.strCells_eq]; exact Or.inr i6
          have hb6 := b6.size
          have hl6 : (NP.sgn (NP.neg s.data.toList) ++ NP.dig s.data.toList).length ≤ 16777216 := by rw [List.length_append, ← digB_size]; omega
          go_wp2_with fail
          refine (zeros_any w3.heap.size w3.heap.size _ _ _ i6' hl6 (by omega) (by omega)).mono ?_
          rintro e w7 ⟨rfl, i7, b7⟩
          go_wp2
          go_meet
          case rel =>
            refine ⟨?_, b5.trans (b6.trans b7)⟩
            rw [HI.out, ← List.append_assoc]
            rw [show (n - ((digB s).size : Int)).toNat = n.toNat - (digB s).size by omega] at i7
            exact i7
        · have HI : Hid (NP.ipart n (NP.dig s.data.toList) = (NP.dig s.data.toList).take n.toNat) := by
            show _ = _
            have hnl2 := hnl
            rw [digB_size] at hnl2
            unfold NP.ipart; rw [if_neg hn0, if_neg hnl2]
          go_wp2_with fail
          refine (Tryd.Builder_WriteString w3.heap.size w3.heap.size _ ((digB s).extract 0 n.toNat) _ i5 ?c1 hbs).mono ?_
          case c1 => rw [Lib.byteCells_length, ByteArray.size_extract]; omega
          rintro e w5 ⟨rfl, i6, b6⟩
          go_wp2
          go_meet
          case rel =>
            refine ⟨?_, b5.trans b6⟩
            rw [HI.out, Lib.byteCells_append]
            rw [nstr_extract, digB_list, List.drop_zero] at i6
            exact Or.inr i6
    case rest =>
      obtain ⟨i8, b8⟩ := hcut
      have hbs8 := b8.size
      have hil := NP.ipart_length n (NP.dig s.data.toList)
      have htop : NP.top n ≤ 65536 := by unfold NP.top; split <;> omega
      have hl8 : (NP.sgn (NP.neg s.data.toList) ++ NP.ipart n (NP.dig s.data.toList)).length ≤ 65537 := by rw [List.length_append]; omega
      clear hil htop
      have bfin : ∀ w', Below w3.heap.size w3 w' → Below w.heap.size w w' := fun w' hw' =>
        (((((Below.refl _ w).alloc (Nat.le_refl _) _).trans (b1.mono (by simp))).trans (b2.mono (Nat.le_of_lt z1))).trans (b3.mono (Nat.le_of_lt z2))).trans (hw'.mono (Nat.le_of_lt z3))
      clear b1 b2 b3
      by_cases hsc : sc = 0
      · subst hsc
        have HT : Hid (NP.ntext (NP.neg s.data.toList) 0 n (NP.dig s.data.toList) = NP.sgn (NP.neg s.data.toList) ++ NP.ipart n (NP.dig s.data.toList)) := by
          show _ = _
          unfold NP.ntext; rw [if_pos rfl, List.append_nil]
        go_wp2_with fail
        refine (Tryd.Builder_String_any w3.heap.size w3.heap.size _ _ i8 hbs8).mono ?_
        rintro e w9 ⟨rfl, b9⟩
        go_wp2
        go_ret
        exact ⟨nret_str (by rw [HT.out]), bfin _ (b8.trans b9)⟩
      · have hsb : (sc == 0) = false := by simpa using hsc
        go_wp2_with fail
        refine (Tryd.Builder_WriteByte w3.heap.size w3.heap.size _ 46 _ i8 ?c1 hbs8).mono ?_
        case c1 => rw [Lib.byteCells_length]; omega
        rintro e w9 ⟨rfl, i9, b9⟩
        have i9' : Lib.IsBuilder 46 5 w3.heap.size w3.heap.size (Lib.byteCells (NP.sgn (NP.neg s.data.toList) ++ NP.ipart n (NP.dig s.data.toList) ++ [46])) w9 := by
          rw [Lib.byteCells_append (NP.sgn (NP.neg s.data.toList) ++ NP.ipart n (NP.dig s.data.toList))]; exact Or.inr i9
        clear i9
        have hb9 := b9.size
        have hl9 : (NP.sgn (NP.neg s.data.toList) ++ NP.ipart n (NP.dig s.data.toList) ++ [46]).length ≤ 65538 := by rw [List.length_append]; simp only [List.length_cons, List.length_nil]; omega
        have HT : Hid (NP.ntext (NP.neg s.data.toList) sc n (NP.dig s.data.toList) = NP.sgn (NP.neg s.data.toList) ++ NP.ipart n (NP.dig s.data.toList) ++ ([46] ++ NP.fpart sc n (NP.dig s.data.toList))) := by
          show _ = _
          unfold NP.ntext; rw [if_neg hsc]
        have HL : Hid (((NP.dig s.data.toList).drop n.toNat).length = (digB s).size - n.toNat) := by
          show _ = _
          rw [List.length_drop, digB_size]
        by_cases hlt : n < ((digB s).size : Int)
        · go_wp2_with fail
          refine (zeros_any w3.heap.size w3.heap.size _ _ _ i9' (by omega) (by omega) (by omega)).mono ?_
          rintro e w10 ⟨rfl, i10, b10⟩
          have hb10 := b10.size
          go_wp2_with fail
          refine (Tryd.Builder_WriteString w3.heap.size w3.heap.size _ ((digB s).extract (max n 0).toNat (digB s).size) _ i10 ?c1 (by omega)).mono ?_
          case c1 => rw [Lib.byteCells_length, List.length_append, NP.zeros_length]; rw [ByteArray.size_extract]; omega
          rintro e w11 ⟨rfl, i11, b11⟩
          have i11' : Lib.IsBuilder 46 5 w3.heap.size w3.heap.size (Lib.byteCells (NP.sgn (NP.neg s.data.toList) ++ NP.ipart n (NP.dig s.data.toList) ++ [46] ++ NP.zeros (max (-n) 0).toNat ++ (NP.dig s.data.toList).drop n.toNat)) w11 := by
            rw [Lib.byteCells_append (NP.sgn (NP.neg s.data.toList) ++ NP.ipart n (NP.dig s.data.toList) ++ [46] ++ NP.zeros (max (-n) 0).toNat)]
            rw [frac_cells] at i11
            exact Or.inr i11
          clear i11
          have hl11 : (NP.sgn (NP.neg s.data.toList) ++ NP.ipart n (NP.dig s.data.toList) ++ [46] ++ NP.zeros (max (-n) 0).toNat ++ (NP.dig s.data.toList).drop n.toNat).length ≤ 16777216 := by
            rw [List.length_append, List.length_append (bs := NP.zeros (max (-n) 0).toNat), NP.zeros_length, List.length_drop, ← digB_size]; omega
          have hb11 := b11.size
          go_wp2_with fail
          refine (zeros_any w3.heap.size w3.heap.size _ _ _ i11' hl11 (by omega) (by omega)).mono ?_
          rintro e w12 ⟨rfl, i12, b12⟩
          have hb12 := b12.size
          go_wp2_with fail
          refine (Tryd.Builder_String_any w3.heap.size w3.heap.size _ _ i12 (by omega)).mono ?_
          rintro e w13 ⟨rfl, b13⟩
          go_wp2
          go_ret
          refine ⟨nret_str ?_, bfin _ (b8.trans (b9.trans (b10.trans (b11.trans (b12.trans b13)))))⟩
          rw [HT.out]
          simp only [List.append_assoc]
          have e1 : (max (-n) 0).toNat = (-n).toNat := by omega
          rw [e1]
          unfold NP.fpart
          simp only [List.append_assoc, List.cons_append, List.nil_append]
          rw [HL.out, show (sc - max (-n) 0).toNat - ((digB s).size - (max n 0).toNat) = (sc - ((-n).toNat : Int) - (((digB s).size - n.toNat : Nat) : Int)).toNat by omega]
        · go_wp2_with fail
          refine (zeros_any w3.heap.size w3.heap.size _ _ _ i9' (by omega) (by omega) (by omega)).mono ?_
          rintro e w10 ⟨rfl, i10, b10⟩
          have hb10 := b10.size
          go_wp2_with fail
          refine (Tryd.Builder_WriteString w3.heap.size w3.heap.size _ ⟨#[]⟩ _ i10 ?c1 (by omega)).mono ?_
          case c1 => rw [Lib.byteCells_length, List.length_append, NP.zeros_length, show (⟨#[]⟩ : ByteArray).size = 0 from rfl]; omega
          rintro e w11 ⟨rfl, i11, b11⟩
          have i11' : Lib.IsBuilder 46 5 w3.heap.size w3.heap.size (Lib.byteCells (NP.sgn (NP.neg s.data.toList) ++ NP.ipart n (NP.dig s.data.toList) ++ [46] ++ NP.zeros (max (-n) 0).toNat ++ (NP.dig s.data.toList).drop n.toNat)) w11 := by
            rw [Lib.byteCells_append (NP.sgn (NP.neg s.data.toList) ++ NP.ipart n (NP.dig s.data.toList) ++ [46] ++ NP.zeros (max (-n) 0).toNat)]
            rw [frac_none s n (by omega)] at i11
            exact Or.inr i11
          clear i11
          have hl11 : (NP.sgn (NP.neg s.data.toList) ++ NP.ipart n (NP.dig s.data.toList) ++ [46] ++ NP.zeros (max (-n) 0).toNat ++ (NP.dig s.data.toList).drop n.toNat).length ≤ 16777216 := by
            rw [List.length_append, List.length_append (bs := NP.zeros (max (-n) 0).toNat), NP.zeros_length, List.length_drop, ← digB_size]; omega
          have hb11 := b11.size
          go_wp2_with fail
          refine (zeros_any w3.heap.size w3.heap.size _ _ _ i11' hl11 (by omega) (by omega)).mono ?_
          rintro e w12 ⟨rfl, i12, b12⟩
          have hb12 := b12.size
          go_wp2_with fail
          refine (Tryd.Builder_String_any w3.heap.size w3.heap.size _ _ i12 (by omega)).mono ?_
          rintro e w13 ⟨rfl, b13⟩
          go_wp2
          go_ret
          refine ⟨nret_str ?_, bfin _ (b8.trans (b9.trans (b10.trans (b11.trans (b12.trans b13)))))⟩
          rw [HT.out]
          simp only [List.append_assoc]
          have e1 : (max (-n) 0).toNat = (-n).toNat := by omega
          rw [e1]
          unfold NP.fpart
          simp only [List.append_assoc, List.cons_append, List.nil_append]
          rw [HL.out, show (sc - max (-n) 0).toNat = (sc - ((-n).toNat : Int) - (((digB s).size - n.toNat : Nat) : Int)).toNat by omega]

set_option maxRecDepth 100000 in
set_option maxHeartbeats 1000000 in
theorem text_non (k sc dy n : Int) (s : ByteArray) (w : World) (hf : nonFin s = true) :
    Calls Tryd.prog 14 #[.agg #[.int .u8 k, .int .i16 sc, .int .i32 dy, .int .i64 n, .string s]] w fun e w' => e = .returned (.string s) ∧ Below w.heap.size w w' := by
  have HF : Hid (nonFin s = true) := hf
  clear hf
  go_enter Tryd.func14, Tryd.ntmps14
  go_wp2_with fail
  refine (class_non k sc dy n s _ HF.out).mono ?_
  rintro e w1 ⟨⟨c, rfl, hc⟩, b1⟩
  obtain ⟨c1, f1⟩ := bcell b1
  go_wp2
  go_ret
  exact ⟨rfl, ((Below.refl _ w).alloc (Nat.le_refl _) _).trans (b1.mono (by simp))⟩

/-- what ZZNumericText answers -/
def numText (sc n : Int) (s : ByteArray) : ByteArray :=
  if nonFin s then s else ⟨(NP.ntext (NP.neg s.data.toList) sc n (NP.dig s.data.toList)).toArray⟩

theorem text_any (k sc dy n : Int) (s : ByteArray) (w : World) (hok : nonFin s = true ∨ (0 ≤ sc ∧ sc ≤ 32767 ∧ -65536 ≤ n ∧ n ≤ 65536 ∧ s.size ≤ 1048576)) :
    Calls Tryd.prog 14 #[.agg #[.int .u8 k, .int .i16 sc, .int .i32 dy, .int .i64 n, .string s]] w fun e w' => e = .returned (.string (numText sc n s)) ∧ Below w.heap.size w w' := by
  unfold numText
  cases hf : nonFin s with
  | true => exact text_non k sc dy n s w hf
  | false =>
    rcases hok with h | ⟨h0, h1, h2, h3, h4⟩
    · rw [hf] at h; cases h
    · exact text_fin k sc dy n s w hf h0 h1 h2 h3 h4

set_option maxRecDepth 100000 in
set_option maxHeartbeats 400000 in
theorem zzText_any (k sc dy n : Int) (s : ByteArray) (w : World) (hok : nonFin s = true ∨ (0 ≤ sc ∧ sc ≤ 32767 ∧ -65536 ≤ n ∧ n ≤ 65536 ∧ s.size ≤ 1048576)) :
    Calls Tryd.prog 8 #[.int .u8 k, .int .i16 sc, .int .i32 dy, .int .i64 n, .string s] w fun e w' => e = .returned (.string (numText sc n s)) ∧ Below w.heap.size w w' := by
  have HO : Hid (nonFin s = true ∨ (0 ≤ sc ∧ sc ≤ 32767 ∧ -65536 ≤ n ∧ n ≤ 65536 ∧ s.size ≤ 1048576)) := hok
  clear hok
  go_enter Tryd.func8, Tryd.ntmps8
  go_wp2_with (go_at_call 14; refine (text_any k sc dy n s _ HO.out).mono ?_; rintro e w' ⟨rfl, hb⟩)
  go_ret
  exact ⟨rfl, hb⟩
end Go.Proofs.Qxb6602072aDoor
