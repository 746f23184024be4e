/- The small walks on the roads of the numeric laws. -/
import Derived.Test.Qxb6602072aDoorRows
import Derived.Test.Qxb6602072aDoorNumPlain
import Derived.WalkKit
import Derived.WalkSpells
import Derived.WalkLawsBesides
namespace Go.Proofs.Qxb6602072aDoor
open Go.RowKit

theorem nret_int {k : IntKind} {a b : Int} (h : a = b) : Ending.returned (.int k a) = .returned (.int k b) := by rw [h]
theorem nret_str {a b : ByteArray} (h : a = b) : Ending.returned (.string a) = .returned (.string b) := by rw [h]
theorem nret_bool {a b : Bool} (h : a = b) : Ending.returned (.bool a) = .returned (.bool b) := by rw [h]

/-- the texts of the numerics that are not finite -/
def nonFin (s : ByteArray) : Bool := s.toList == [78, 97, 78] || s.toList == [73, 110, 102, 105, 110, 105, 116, 121] || s.toList == [45, 73, 110, 102, 105, 110, 105, 116, 121]

theorem nonFin_false {s : ByteArray} (h : nonFin s = false) : (s.toList == [78, 97, 78]) = false ∧ (s.toList == [73, 110, 102, 105, 110, 105, 116, 121]) = false ∧ (s.toList == [45, 73, 110, 102, 105, 110, 105, 116, 121]) = false := by
  unfold nonFin at h
  rw [Bool.or_eq_false_iff, Bool.or_eq_false_iff] at h
  exact ⟨h.1.1, h.1.2, h.2⟩

/-- the digits' text: s without one leading minus -/
def digB (s : ByteArray) : ByteArray := ⟨(NP.dig s.data.toList).toArray⟩

theorem digB_list (s : ByteArray) : (digB s).data.toList = NP.dig s.data.toList := rfl
theorem list_size (s : ByteArray) : s.data.toList.length = s.size := by rw [Array.length_toList]; rfl
theorem digB_size (s : ByteArray) : (digB s).size = (NP.dig s.data.toList).length := by rw [← list_size, digB_list]
theorem digB_le (s : ByteArray) : (digB s).size ≤ s.size := by
  rw [digB_size, ← list_size]; exact NP.dig_length _

theorem head_at (s : ByteArray) (h : 0 < s.size) : s.data.toList.head? = some s[0] := by
  rw [List.head?_eq_getElem?, List.getElem?_eq_getElem (by rw [list_size]; exact h)]
  rfl

theorem head_none (s : ByteArray) (h : ¬ 0 < s.size) : s.data.toList = [] := List.eq_nil_of_length_eq_zero (by rw [list_size]; omega)

theorem u8_eq (b : UInt8) (n : Nat) (hn : n < 256) : (b.toNat = n) ↔ b = UInt8.ofNat n := by
  constructor
  · intro h
    apply UInt8.toNat_inj.1
    rw [h, UInt8.toNat_ofNat_of_lt' hn]
  · intro h
    rw [h, UInt8.toNat_ofNat_of_lt' hn]

theorem digB_neg (s : ByteArray) (h : 0 < s.size) (hm : (((s[0].toNat : Nat) : Int) == 45) = true) : digB s = s.extract 1 s.size ∧ NP.neg s.data.toList = true := by
  have hb : s[0] = 45 := (u8_eq s[0] 45 (by decide)).1 (by have := eq_of_beq hm; omega)
  have hh := head_at s h
  rw [hb] at hh
  unfold digB NP.neg NP.dig
  rw [hh]
  refine ⟨?_, rfl⟩
  apply ByteArray.ext
  rw [ByteArray.data_extract]
  apply Array.ext'
  rw [Array.toList_extract, List.extract_eq_take_drop]
  simp only [beq_self_eq_true, if_true, List.drop_one]
  rw [List.take_of_length_le (by rw [List.length_tail, list_size]; omega)]

theorem digB_pos (s : ByteArray) (h : 0 < s.size) (hm : (((s[0].toNat : Nat) : Int) == 45) = false) : digB s = s ∧ NP.neg s.data.toList = false := by
  have hb : s[0] ≠ 45 := fun e => by rw [e] at hm; simp at hm
  have hh := head_at s h
  unfold digB NP.neg NP.dig
  rw [hh]
  have hf : (some s[0] == some (45 : UInt8)) = false := by simpa using hb
  rw [hf]
  exact ⟨rfl, rfl⟩

theorem digB_none (s : ByteArray) (h : ¬ 0 < s.size) : digB s = s ∧ NP.neg s.data.toList = false := by
  have hh := head_none s h
  unfold digB NP.neg NP.dig
  rw [hh]
  refine ⟨?_, rfl⟩
  apply ByteArray.ext
  apply Array.ext'
  exact hh.symm

set_option maxRecDepth 100000 in
set_option maxHeartbeats 400000 in
theorem digitsOf_any (s : ByteArray) (w : World) :
    Calls Tryd.prog 6 #[.string s] w fun e w' => e = .returned (.string (digB s)) ∧ w' = w := by
  go_enter Tryd.func6, Tryd.ntmps6
  go_wp2
  · go_ret
    exact ⟨nret_str (digB_neg s (by assumption) (by assumption)).1.symm, rfl⟩
  · go_ret
    exact ⟨nret_str (digB_pos s (by assumption) (by assumption)).1.symm, rfl⟩
  · go_ret
    exact ⟨nret_str (digB_none s (by assumption)).1.symm, rfl⟩

set_option maxRecDepth 100000 in
set_option maxHeartbeats 400000 in
theorem class_fin (k sc dy n : Int) (s : ByteArray) (w : World) (h : nonFin s = false) :
    Calls Tryd.prog 16 #[.agg #[.int .u8 k, .int .i16 sc, .int .i32 dy, .int .i64 n, .string s]] w fun e w' => e = .returned (.int .i8 0) ∧ Below w.heap.size w w' := by
  obtain ⟨h1, h2, h3⟩ := nonFin_false h
  clear h
  go_enter Tryd.func16, Tryd.ntmps16
  go_wp2
  go_ret
  exact ⟨rfl, (Below.refl _ _).alloc (Nat.le_refl _) _⟩

set_option maxRecDepth 100000 in
set_option maxHeartbeats 400000 in
theorem class_non (k sc dy n : Int) (s : ByteArray) (w : World) (h : nonFin s = true) :
    Calls Tryd.prog 16 #[.agg #[.int .u8 k, .int .i16 sc, .int .i32 dy, .int .i64 n, .string s]] w fun e w' => (∃ c : Int, e = .returned (.int .i8 c) ∧ (c != 0) = true) ∧ Below w.heap.size w w' := by
  have HF : Hid (nonFin s = true) := h
  clear h
  go_enter Tryd.func16, Tryd.ntmps16
  go_wp2
  · go_ret
    exact ⟨⟨2, rfl, rfl⟩, (Below.refl _ _).alloc (Nat.le_refl _) _⟩
  · go_ret
    exact ⟨⟨1, rfl, rfl⟩, (Below.refl _ _).alloc (Nat.le_refl _) _⟩
  · go_ret
    exact ⟨⟨-1, rfl, rfl⟩, (Below.refl _ _).alloc (Nat.le_refl _) _⟩
  · exfalso
    have := HF.out
    simp_all [nonFin]

/-- numericSign's answer -/
def sgnI (s : ByteArray) : Int := if s.size = 0 then 0 else if NP.neg s.data.toList then -1 else 1

theorem sgnI_neg (s : ByteArray) : sgnI s < 0 ↔ NP.neg s.data.toList = true := by
  unfold sgnI
  by_cases h : s.size = 0
  · rw [if_pos h, (digB_none s (by omega)).2]; simp
  · rw [if_neg h]
    cases NP.neg s.data.toList <;> simp

theorem sgnI_zero (s : ByteArray) : sgnI s = 0 ↔ s.size = 0 := by
  unfold sgnI
  by_cases h : s.size = 0
  · rw [if_pos h]; simp [h]
  · rw [if_neg h]
    cases NP.neg s.data.toList <;> simp [h]

theorem empty_iff (s : ByteArray) : s.toList.isEmpty = true ↔ s.size = 0 := by
  rw [ByteArray.toList_eq, List.isEmpty_iff, ← List.length_eq_zero_iff, list_size]

set_option maxRecDepth 100000 in
set_option maxHeartbeats 400000 in
theorem sign_any (k sc dy n : Int) (s : ByteArray) (w : World) :
    Calls Tryd.prog 27 #[.agg #[.int .u8 k, .int .i16 sc, .int .i32 dy, .int .i64 n, .string s]] w fun e w' => e = .returned (.int .i64 (sgnI s)) ∧ w' = w.alloc (.cells #[.int .u8 k, .int .i16 sc, .int .i32 dy, .int .i64 n, .string s] 35) := by
  by_cases h0 : s.size = 0
  · have he : s.toList.isEmpty = true := (empty_iff s).2 h0
    have HS : Hid (sgnI s = 0) := (sgnI_zero s).2 h0
    go_enter Tryd.func27, Tryd.ntmps27
    go_wp2
    go_ret
    exact ⟨nret_int (by rw [HS.out]), rfl⟩
  · have he : s.toList.isEmpty = false := by
      cases h : s.toList.isEmpty
      · rfl
      · exact absurd ((empty_iff s).1 h) h0
    have hp : 0 < s.size := by omega
    cases hm : (((s[0].toNat : Nat) : Int) == 45)
    · have HS : Hid (sgnI s = 1) := by
        show sgnI s = 1
        unfold sgnI
        rw [if_neg h0, (digB_pos s hp hm).2]; rfl
      go_enter Tryd.func27, Tryd.ntmps27
      go_wp2
      go_ret
      exact ⟨nret_int (by rw [HS.out]), rfl⟩
    · have HS : Hid (sgnI s = -1) := by
        show sgnI s = -1
        unfold sgnI
        rw [if_neg h0, (digB_neg s hp hm).2]; rfl
      go_enter Tryd.func27, Tryd.ntmps27
      go_wp2
      go_ret
      exact ⟨nret_int (by rw [HS.out]), rfl⟩

set_option maxRecDepth 100000 in
set_option maxHeartbeats 400000 in
theorem scale_any (k sc dy n : Int) (s : ByteArray) (w : World) (h0 : -32768 ≤ sc) (h1 : sc ≤ 32767) :
    Calls Tryd.prog 18 #[.agg #[.int .u8 k, .int .i16 sc, .int .i32 dy, .int .i64 n, .string s]] w fun e w' => e = .returned (.int .i64 sc) ∧ Below w.heap.size w w' := by
  go_enter Tryd.func18, Tryd.ntmps18
  go_wp2
  go_ret
  exact ⟨nret_int (by go_num), (Below.refl _ _).alloc (Nat.le_refl _) _⟩

set_option maxRecDepth 100000 in
set_option maxHeartbeats 400000 in
theorem digitAt_any (d : ByteArray) (e p : Int) (w : World) (he : -1048576 ≤ e) (he' : e ≤ 1048576) (hp : -1048576 ≤ p) (hp' : p ≤ 1048576) (hd : d.size ≤ 1048576) :
    Calls Tryd.prog 13 #[.string d, .int .i64 e, .int .i64 p] w fun e' w' => e' = .returned (.int .u8 (NP.dAt d.data.toList e p).toNat) ∧ w' = w := by
  by_cases h1 : 0 ≤ e - 1 - p
  · by_cases h2 : e - 1 - p < d.size
    · obtain ⟨m, hm⟩ := Int.eq_ofNat_of_zero_le h1
      have hlt : m < d.size := by omega
      have HS : Hid (NP.dAt d.data.toList e p = d[m]) := by
        show NP.dAt d.data.toList e p = d[m]
        unfold NP.dAt
        rw [if_pos h1, hm]
        simp only [Int.toNat_natCast]
        rw [List.getElem?_eq_getElem (by rw [list_size]; exact hlt)]
        rfl
      go_enter Tryd.func13, Tryd.ntmps13
      go_wp2
      go_ret
      exact ⟨nret_int (by rw [HS.out]), rfl⟩
    · have HS : Hid (NP.dAt d.data.toList e p = 48) := by
        show NP.dAt d.data.toList e p = 48
        unfold NP.dAt
        rw [if_pos h1, List.getElem?_eq_none (by rw [list_size]; omega)]
        rfl
      go_enter Tryd.func13, Tryd.ntmps13
      go_wp2
      go_ret
      exact ⟨nret_int (by rw [HS.out]; rfl), rfl⟩
  · have HS : Hid (NP.dAt d.data.toList e p = 48) := by
      show NP.dAt d.data.toList e p = 48
      unfold NP.dAt
      rw [if_neg h1]
    go_enter Tryd.func13, Tryd.ntmps13
    go_wp2
    go_ret
    exact ⟨nret_int (by rw [HS.out]; rfl), rfl⟩
end Go.Proofs.Qxb6602072aDoor
