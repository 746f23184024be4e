/- The walk of the shortlex law. -/
import Derived.Test.Qxb6600408aWalk
namespace Go.Proofs.Qxb6600408a
open Go.RowKit

set_option maxRecDepth 100000 in
set_option maxHeartbeats 400000 in
theorem slex_short (a b : ByteArray) (w : World) (h : a.size < b.size) :
    Calls Try.prog 6 #[.string a, .string b] w fun e w' => e = .returned (.bool true) ∧ Below w.heap.size w w' := by
  have q1 : ((a.size : Int) != (b.size : Int)) = true := by rw [bne_iff_ne]; omega
  go_enter Try.func6, Try.ntmps6
  go_wp2
  go_ret
  exact ⟨rfl, Below.refl _ _⟩

set_option maxRecDepth 100000 in
set_option maxHeartbeats 1000000 in
theorem slex_same (a b : ByteArray) (K : Nat) (w : World) (ha : a.size ≤ 7) (hab : Hid (a.size = b.size)) (hK : K < a.size) (hKb : K < b.size)
    (hp : Hid (∀ i (h1 : i < a.size) (h2 : i < b.size), i < K → a[i] = b[i])) (hlt : a[K].toNat < b[K].toNat) :
    Calls Try.prog 6 #[.string a, .string b] w fun e w' => e = .returned (.bool true) ∧ Below w.heap.size w w' := by
  have q1 : ((a.size : Int) != (b.size : Int)) = false := by rw [bne_eq_false_iff_eq, hab.out]
  have hb1 : a.size ≤ b.size := by rw [hab.out]; exact Nat.le_refl _
  go_enter Try.func6, Try.ntmps6
  go_wp2
  go_loopw [5] (fun k wr => ∃ i : Nat, k = .int .i64 i ∧ i ≤ K ∧ Below w.heap.size w wr) (fun k _ => K - (intOf k).toNat)
  case atStart => exact ⟨0, rfl, Nat.zero_le _, Below.refl _ _⟩
  case round =>
    obtain ⟨i, rfl, hi, hbel⟩ := hrel
    have hia : i < a.size := by omega
    have hib : i < b.size := by omega
    by_cases hiK : i < K
    · have e1 : a[i] = b[i] := hp.out i hia hib hiK
      have q2 : ((a[i].toNat : Int) != (b[i].toNat : Int)) = false := by rw [e1]; simp
      clear e1
      go_wp2_with fail
      go_quiet (fail)
      go_wp2
      go_roundw
      case rel => exact ⟨i + 1, by go_num, by omega, below_drewN hbel _⟩
      case measure => simp [intOf]; omega
    · obtain rfl : i = K := by omega
      have q2 : ((a[i].toNat : Int) != (b[i].toNat : Int)) = true := by rw [bne_iff_ne]; omega
      go_wp2_with fail
      go_quiet (fail)
      go_wp2_with fail
      go_quiet (fail)
      go_wp2
      go_ret
      exact ⟨rfl, below_drewN (below_drewN hbel _) _⟩

theorem slex_any (a b : List UInt8) (w : World) (ha : a.length ≤ 7) (h : CP.slex a b) :
    Calls Try.prog 6 #[.string (str a), .string (str b)] w fun e w' => e = .returned (.bool true) ∧ Below w.heap.size w w' := by
  rcases h with h | ⟨hl, K, hK, hp, hlt⟩
  · exact slex_short (str a) (str b) w (by rw [str_size, str_size]; exact h)
  · have hKb : K < b.length := by omega
    refine slex_same (str a) (str b) K w (by rw [str_size]; exact ha) (show _ = _ by rw [str_size, str_size]; exact hl) (by rw [str_size]; exact hK) (by rw [str_size]; exact hKb) ?_ ?_
    · intro i h1 h2 hi
      have h1' : i < a.length := by omega
      have h2' : i < b.length := by omega
      have := hp i hi
      rw [List.getD_eq_getElem?_getD, List.getD_eq_getElem?_getD, List.getElem?_eq_getElem h1', List.getElem?_eq_getElem h2'] at this
      exact this
    · rw [List.getD_eq_getElem?_getD, List.getD_eq_getElem?_getD, List.getElem?_eq_getElem hK, List.getElem?_eq_getElem hKb] at hlt
      exact hlt

set_option maxRecDepth 100000 in
set_option maxHeartbeats 1000000 in
theorem law_slex_in (i j : Nat) (w : World) (hij : i < j) (hj : j ≤ 1073741824) :
    Calls Try.prog 4 #[.int .i64 i, .int .i64 j] w fun e w' => e = .returned (.bool true) ∧ Below w.heap.size w w' := by
  have hS : Hid (CP.slex (CP.cn (i + 1)) (CP.cn (j + 1))) := CP.slex_cn (i + 1) (j + 1) (by omega)
  have hL : (CP.cn (i + 1)).length ≤ 7 := CP.cn_len (i + 1) (by omega)
  go_enter Try.func4, Try.ntmps4
  go_wp2_with fail
  refine (zz_pos i _ (by omega)).mono ?_
  rintro e w' ⟨rfl, rfl⟩
  go_wp2_with fail
  refine (zz_pos j _ hj).mono ?_
  rintro e w' ⟨rfl, rfl⟩
  go_wp2_with fail
  refine (slex_any _ _ _ hL hS.out).mono ?_
  rintro e w1 ⟨rfl, hb⟩
  go_wp2
  go_ret
  exact ⟨rfl, hb⟩

set_option maxRecDepth 100000 in
set_option maxHeartbeats 1000000 in
theorem law_slex (i j : Int) (w : World) :
    Calls Try.prog 4 #[.int .i64 i, .int .i64 j] w fun e w' => e = .returned (.bool true) ∧ Below w.heap.size w w' := by
  by_cases h0 : i < 0
  · go_enter Try.func4, Try.ntmps4
    go_wp2
    go_ret
    exact ⟨rfl, Below.refl _ _⟩
  · by_cases h1 : 1073741824 < j
    · go_enter Try.func4, Try.ntmps4
      go_wp2
      go_ret
      exact ⟨rfl, Below.refl _ _⟩
    · by_cases h2 : j ≤ i
      · go_enter Try.func4, Try.ntmps4
        go_wp2
        go_ret
        exact ⟨rfl, Below.refl _ _⟩
      · obtain ⟨m, rfl⟩ := Int.eq_ofNat_of_zero_le (show 0 ≤ i by omega)
        obtain ⟨k, rfl⟩ := Int.eq_ofNat_of_zero_le (show 0 ≤ j by omega)
        exact law_slex_in m k w (by omega) (by omega)
end Go.Proofs.Qxb6600408a
