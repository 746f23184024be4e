/- The walk of the law's own model of runeSlice; what both sides come to. -/
import Derived.Test.Qxb6602072aRuneWalks
import Derived.Lib.UnsafeStr
namespace Go.Proofs.Qxb6602072a
open Go.RowKit

theorem Try.info5 : (Try.prog.info? 5).map (fun i => (i.zero, i.size, i.bytes)) = some (some (.int .u8 0), 1, 1) := by kernel_rfl

/-- string(out), out a row of bytes of the call's own -/
theorem conv_own {w : World} {base n : Nat} {v : Value} {l : List UInt8} (h : w.ownsRow base 5 1 v n (Lib.byteCells l)) :
    (convert 36 9 v).run Try.prog w = .ok (.string ⟨l.toArray⟩) w := by
  have hn : n = l.length := by have := h.1; rw [Lib.byteCells_length] at this; omega
  have h' := h
  rcases h.2 with ⟨rfl, h0⟩ | ⟨g, cap, cur, rfl, _, _, _, _, _, _⟩
  · have hl : l = [] := List.eq_nil_of_length_eq_zero (by omega)
    subst hl
    exact run_convert_bytes_nil w 36 5 Try.underlying36 Try.underlying5 0 0 9 Try.underlying9
  · subst hn
    exact run_convert_bytes_back (P := Try.prog) w 36 9 5 ⟨g, 0, none⟩ cap l Try.underlying36 Try.underlying5 Try.underlying9 (fun j hj => h'.cells (g := g) rfl j _ (by simp [Lib.byteCells, hj]))

theorem extract_list (s : ByteArray) (a b : Nat) : (s.extract a b).data.toList = (s.data.toList.take b).drop a := by
  rw [ByteArray.data_extract, Array.toList_extract, List.extract_eq_take_drop, List.drop_take]

theorem strCells_extract (s : ByteArray) (a b : Nat) : Lib.strCells (s.extract a b) = Lib.byteCells ((s.data.toList.take b).drop a) := by
  rw [Lib.strCells_eq, extract_list]

theorem extract_size_le (s : ByteArray) (a b : Nat) : (s.extract a b).size ≤ s.size := by
  rw [ByteArray.size_extract]; omega

set_option maxRecDepth 100000 in
set_option maxHeartbeats 1000000 in
theorem model_any (s : ByteArray) (f t : Int) (w : World) (F T : Nat) (hFT : F ≤ T) (hin : ∀ k : Nat, (f ≤ k ∧ (k : Int) < t) ↔ (F ≤ k ∧ k < T)) (hs : s.size ≤ 1048576) :
    Calls Try.prog 15 #[.string s, .int .i64 f, .int .i64 t] w fun e w' => e = .returned (.string ⟨((s.data.toList.take (RP.posAt s T)).drop (RP.posAt s F)).toArray⟩) ∧ Below w.heap.size w w' := by
  obtain ⟨i0, hi, hz0, hz1, hz2⟩ := info_parts Try.info5
  have HIN : Hid (∀ k : Nat, (f ≤ k ∧ (k : Int) < t) ↔ (F ≤ k ∧ k < T)) := hin
  clear hin
  go_enter Try.func15, Try.ntmps15
  go_wp2
  go_loopw [7, 8, 9] (fun out i at' wr => ∃ k n : Nat, i = .int .i64 k ∧ at' = .int .i64 (RP.posAt s k : Nat) ∧ wr.ownsRow w.heap.size 5 1 out n (Lib.byteCells (RP.gath s F T k)) ∧ Below w.heap.size w wr ∧ k ≤ RP.posAt s k) (fun _ _ a _ => s.size - (intOf a).toNat)
  case atStart => exact ⟨0, 0, rfl, rfl, by rw [RP.gath_zero]; exact World.ownsRow_nil _ _ _ _, Below.refl _ _, Nat.zero_le _⟩
  case round =>
    obtain ⟨k, n, rfl, rfl, hown, hb, hkp⟩ := hrel
    have hbs := hb.size
    have hpl := RP.posAt_le s k
    have hnl : n ≤ s.size := by
      have h1 := hown.1
      rw [Lib.byteCells_length] at h1
      have := RP.gath_length s F T k
      omega
    by_cases hp : RP.posAt s k < s.size
    · have HP : Hid (RP.posAt s (k + 1) = RP.posAt s k + RP.wd s (RP.posAt s k)) := RP.posAt_succ s k hp
      have hwd := RP.wd_pos s (RP.posAt s k)
      have hwl := RP.wd_le s (RP.posAt s k) hp
      by_cases hc : F ≤ k ∧ k < T
      · obtain ⟨h1, h2⟩ := (HIN.out k).2 hc
        have HG := RP.gath_in s F T k hc.1 hc.2 hp
        have HG' : Hid (RP.gath s F T (k + 1) = _) := HG
        clear HG
        go_wp2_with (first
          | (go_at_call 20; refine (utf8Width_any s (RP.posAt s k) _ hp hs).mono ?_; rintro e w' ⟨rfl, rfl⟩)
          | (at_builtin; refine Lib.wpList_append_own_string _ rfl _ _ 36 9 rfl w.heap.size 5 i0 Try.underlying36 Try.underlying9 hi hz0 hz1 hz2 _ _ _ rfl hown (s.extract (RP.posAt s k) (RP.posAt s k + RP.wd s (RP.posAt s k))) rfl ?c1 ?c2 ?c3 ?_))
        case c1 => have := extract_size_le s (RP.posAt s k) (RP.posAt s k + RP.wd s (RP.posAt s k)); unfold maxLen; omega
        case c2 => have := extract_size_le s (RP.posAt s k) (RP.posAt s k + RP.wd s (RP.posAt s k)); omega
        case c3 => omega
        intro v1 w1 hown1 hgrow1 hnil1
        go_wp2
        go_roundw
        case rel =>
          refine ⟨k + 1, n + RP.wd s (RP.posAt s k), by go_num, by rw [HP.out]; go_num, ?_, hb.grown hgrow1 hbs (fun j hj => (hown.lt j hj).1), by rw [HP.out]; omega⟩
          rw [HG'.out, Lib.byteCells_append, ← strCells_extract]
          exact hown1
        case measure => simp [intOf]; omega
      · have HG' : Hid (RP.gath s F T (k + 1) = RP.gath s F T k) := RP.gath_out s F T k hFT (by omega)
        have hc' : ¬ (f ≤ k ∧ (k : Int) < t) := fun h => hc ((HIN.out k).1 h)
        by_cases hfk : f ≤ k
        · have hkt : ¬ (k : Int) < t := fun h => hc' ⟨hfk, h⟩
          clear hc hc'
          go_wp2_with (first
            | (go_at_call 20; refine (utf8Width_any s (RP.posAt s k) _ hp hs).mono ?_; rintro e w' ⟨rfl, rfl⟩))
          go_roundw
          case rel =>
            exact ⟨k + 1, n, by go_num, by rw [HP.out]; go_num, by rw [HG'.out]; exact hown, hb, by rw [HP.out]; omega⟩
          case measure => simp [intOf]; omega
        · clear hc hc'
          go_wp2_with (first
            | (go_at_call 20; refine (utf8Width_any s (RP.posAt s k) _ hp hs).mono ?_; rintro e w' ⟨rfl, rfl⟩))
          go_roundw
          case rel =>
            exact ⟨k + 1, n, by go_num, by rw [HP.out]; go_num, by rw [HG'.out]; exact hown, hb, by rw [HP.out]; omega⟩
          case measure => simp [intOf]; omega
    · have hcv := conv_own hown
      have HE : Hid (RP.gath s F T k = _) := RP.gath_end s F T k hp
      go_wp2
      go_ret
      exact ⟨ret_str (by rw [HE.out]), hb⟩
/-- what both sides come to -/
def rsl (s : ByteArray) (f t : Int) : ByteArray := ⟨((s.data.toList.take (RP.posAt s (max t.toNat f.toNat))).drop (RP.posAt s f.toNat)).toArray⟩

theorem extract_bytes (s : ByteArray) (a b : Nat) : s.extract a b = ⟨((s.data.toList.take b).drop a).toArray⟩ := by
  rw [← extract_list]

theorem rsl_none (s : ByteArray) (f t : Int) (h : t ≤ max f 0) : rsl s f t = ByteArray.empty := by
  unfold rsl
  rw [show max t.toNat f.toNat = f.toNat by omega, List.drop_of_length_le (by rw [List.length_take]; omega)]
  rfl

theorem rsl_some (s : ByteArray) (f t : Int) (F T : Nat) (hF : f.toNat = F) (hT : t.toNat = T) (h : F ≤ T) : rsl s f t = s.extract (RP.posAt s F) (RP.posAt s T) := by
  unfold rsl
  rw [hF, hT, Nat.max_eq_left h, extract_bytes]

theorem runeSlice_all (s : ByteArray) (f t : Int) (w : World) (ht : t ≤ 9223372036854775807) (hs : s.size ≤ 1048576) :
    Calls Try.prog 19 #[.string s, .int .i64 f, .int .i64 t] w fun e w' => e = .returned (.string (rsl s f t)) ∧ Below w.heap.size w w' := by
  by_cases h : t ≤ max f 0
  · rw [rsl_none s f t h]
    exact runeSlice_none s f t w h
  · by_cases hf : f < 0
    · rw [rsl_some s f t 0 t.toNat (by omega) rfl (by omega)]
      have := runeSlice_neg s f hf t.toNat w (by omega) (by omega) hs
      rwa [show ((t.toNat : Nat) : Int) = t by omega] at this
    · rw [rsl_some s f t f.toNat t.toNat rfl rfl (by omega)]
      have := runeSlice_pos s f.toNat t.toNat w (by omega) (by omega) hs
      rwa [show ((t.toNat : Nat) : Int) = t by omega, show ((f.toNat : Nat) : Int) = f by omega] at this

theorem model_all (s : ByteArray) (f t : Int) (w : World) (hs : s.size ≤ 1048576) :
    Calls Try.prog 15 #[.string s, .int .i64 f, .int .i64 t] w fun e w' => e = .returned (.string (rsl s f t)) ∧ Below w.heap.size w w' :=
  model_any s f t w f.toNat (max t.toNat f.toNat) (Nat.le_max_right _ _) (fun k => by omega) hs

set_option maxRecDepth 100000 in
set_option maxHeartbeats 400000 in
theorem zzRuneSlice_all (s : ByteArray) (f t : Int) (w : World) (ht : t ≤ 9223372036854775807) (hs : s.size ≤ 1048576) :
    Calls Try.prog 14 #[.string s, .int .i64 f, .int .i64 t] w fun e w' => e = .returned (.string (rsl s f t)) ∧ Below w.heap.size w w' := by
  go_enter Try.func14, Try.ntmps14
  go_wp2_with (go_at_call 19; refine (runeSlice_all s f t _ ht hs).mono ?_; rintro e w' ⟨rfl, hb⟩)
  go_ret
  exact ⟨rfl, hb⟩

set_option maxRecDepth 100000 in
set_option maxHeartbeats 400000 in
theorem law_rune (s : ByteArray) (f t : Int) (w : World) (hm : s.size ≤ maxLen) (ht : t ≤ 9223372036854775807) :
    Calls Try.prog 5 #[.string s, .int .i64 f, .int .i64 t] w fun e w' => e = .returned (.bool true) ∧ Below w.heap.size w w' := by
  by_cases hs : s.size ≤ 1048576
  · go_enter Try.func5, Try.ntmps5
    go_wp2_with (first
      | (go_at_call 13; refine (zzbytes_any s f t _ hs).mono ?_; rintro e w' ⟨rfl, rfl⟩)
      | (go_at_call 14; refine (zzRuneSlice_all s f t _ ht hs).mono ?_; rintro e w1 ⟨rfl, hb1⟩)
      | (go_at_call 15; refine (model_all s f t _ hs).mono ?_; rintro e w2 ⟨rfl, hb2⟩))
    go_ret
    exact ⟨by simp, hb1.trans (hb2.mono hb1.size)⟩
  · go_enter Try.func5, Try.ntmps5
    go_wp2_with (first
      | (go_at_call 13; refine (zzbytes_big s f t _ hm hs).mono ?_; rintro e w' ⟨rfl, rfl⟩))
    go_ret
    exact ⟨rfl, Below.refl _ _⟩
end Go.Proofs.Qxb6602072a
