/- The walk of FnNumericTextScalePadsZeros. -/
import Derived.Test.Qxb6602072aNumText
namespace Go.Proofs.Qxb6602072a
open Go.RowKit

set_option maxRecDepth 100000 in
set_option maxHeartbeats 400000 in
theorem zz12_ok (k sc dy n : Int) (s : ByteArray) (m : Int) (w : World) (h : s.size ≤ 1048576) :
    Calls Try.prog 12 #[.int .u8 k, .int .i16 sc, .int .i32 dy, .int .i64 n, .string s, .int .i16 m] w fun e w' => e = .returned (.bool true) ∧ w' = w := by
  go_enter Try.func12, Try.ntmps12
  go_wp2
  go_ret
  exact ⟨rfl, rfl⟩

set_option maxRecDepth 100000 in
set_option maxHeartbeats 400000 in
theorem zz12_big (k sc dy n : Int) (s : ByteArray) (m : Int) (w : World) (hm : s.size ≤ maxLen) (h : ¬ s.size ≤ 1048576) :
    Calls Try.prog 12 #[.int .u8 k, .int .i16 sc, .int .i32 dy, .int .i64 n, .string s, .int .i16 m] w fun e w' => e = .returned (.bool false) ∧ w' = w := by
  unfold maxLen at hm
  go_enter Try.func12, Try.ntmps12
  go_wp2
  go_ret
  exact ⟨rfl, rfl⟩

/-- the wider text against the narrower -/
structure Padded (A C : ByteArray) (pt more : Nat) : Prop where
  size : C.size = A.size + pt + more
  pre : C.extract 0 A.size = A
  dot : pt = 1 → ∀ h : A.size < C.size, C[A.size] = 46
  zero : ∀ j (h : j < C.size), A.size + pt ≤ j → C[j] = 48

set_option maxRecDepth 100000 in
set_option maxHeartbeats 1000000 in
theorem pads_dot (k dy n : Int) (s : ByteArray) (m : Nat) (w : World) (hs : s.size ≤ 1048576) (hf : nonFin s = false) (hm : 0 < m) (h1 : (m : Int) ≤ 32767) (n0 : -65536 ≤ n) (n1 : n ≤ 65536) (hl : ((digB s).size : Int) - n ≤ 0)
    (hP : Padded (numText 0 n s) (numText m n s) 1 m) (hA : (numText 0 n s).size ≤ 2000000) :
    Calls Try.prog 4 #[.int .u8 k, .int .i16 0, .int .i32 dy, .int .i64 n, .string s, .int .i16 m] w fun e w' => e = .returned (.bool true) ∧ Below w.heap.size w w' := by
  have HF : Hid (nonFin s = false) := hf
  clear hf
  have hd := digB_le s
  have q1 : decide ((1048576 : Int) < (s.size : Int)) = false := by rw [decide_eq_false_iff_not]; omega
  have q2 : decide ((m : Int) < 0) = false := by rw [decide_eq_false_iff_not]; omega
  have q4 : decide (n < -65536) = false := by rw [decide_eq_false_iff_not]; omega
  have q5 : decide ((65536 : Int) < n) = false := by rw [decide_eq_false_iff_not]; omega
  have q8 : decide ((0 : Int) < (m : Int)) = true := by rw [decide_eq_true_eq]; omega
  go_enter Try.func4, Try.ntmps4
  go_wp2_with (first
    | (go_at_call 12; refine (zz12_ok k 0 dy n s m _ hs).mono ?_; rintro e w' ⟨rfl, rfl⟩)
    | (go_at_call 8; refine (nonFinite_any s _).mono ?_; rw [HF.out]; rintro e w' ⟨rfl, rfl⟩)
    | (go_at_call 10; refine (digitsOf_any s _).mono ?_; rintro e w' ⟨rfl, rfl⟩))
  refine (zzText_any k 0 dy n s _ (Or.inr ⟨by omega, by omega, by omega, by omega, hs⟩)).mono ?_
  rintro e w1 ⟨rfl, b1⟩
  go_wp2_with fail
  refine (zzText_any k m dy n s _ (Or.inr ⟨by omega, by omega, by omega, by omega, hs⟩)).mono ?_
  rintro e w2 ⟨rfl, b2⟩
  have hB := b1.trans (b2.mono b1.size)
  clear b1 b2
  revert hA hP
  generalize numText 0 n s = A
  generalize numText m n s = C
  intro hP hA
  obtain ⟨p1, p2, p3, p4⟩ := hP
  have P2 : Hid (C.extract 0 A.size = A) := p2
  have P3 := fun h => p3 h
  have P4 : Hid (∀ j (h : j < C.size), A.size + 1 ≤ j → C[j] = 48) := p4
  have g1 : C.size ≤ A.size + 1 + m := by omega
  have g2 : A.size + 1 + m ≤ C.size := by omega
  clear p1 p2 p4
  have P3' : Hid (∀ h : A.size < C.size, C[A.size] = 46) := p3 rfl
  clear p3 P3
  have hlt : A.size < C.size := by omega
  have d1 : ((C[A.size].toNat : Int) != 46) = false := by rw [P3'.out hlt]; rfl
  have d2 : ((C.extract 0 A.size).toList == A.toList) = true := by rw [P2.out]; exact beq_self_eq_true _
  have d3 : ((C.size : Int) != (A.size : Int) + 1 + m) = false := by rw [bne_eq_false_iff_eq]; omega
  go_wp2
  go_loop [19] (fun j => ∃ i : Nat, j = .int .i64 i ∧ A.size + 1 ≤ i ∧ i ≤ C.size) (fun j => C.size - (intOf j).toNat)
  case atStart => exact ⟨A.size + 1, by go_num, Nat.le_refl _, by omega⟩
  case round =>
    obtain ⟨i, rfl, hi1, hi2⟩ := hrel
    by_cases hic : i < C.size
    · have dz : ((C[i].toNat : Int) != 48) = false := by rw [P4.out i hic hi1]; rfl
      go_wp2
      go_round
      case rel => exact ⟨i + 1, by go_num, by omega, by omega⟩
      case measure => simp [intOf]; omega
    · go_wp2
      go_ret
      exact ⟨rfl, hB⟩
set_option maxRecDepth 100000 in
set_option maxHeartbeats 1000000 in
theorem pads_none (k dy n : Int) (s : ByteArray) (m : Nat) (w : World) (hs : s.size ≤ 1048576) (hf : nonFin s = false) (hm : ¬ 0 < m) (n0 : -65536 ≤ n) (n1 : n ≤ 65536) (hl : ((digB s).size : Int) - n ≤ 0)
    (hP : Padded (numText 0 n s) (numText m n s) 0 m) (hA : (numText 0 n s).size ≤ 2000000) :
    Calls Try.prog 4 #[.int .u8 k, .int .i16 0, .int .i32 dy, .int .i64 n, .string s, .int .i16 m] w fun e w' => e = .returned (.bool true) ∧ Below w.heap.size w w' := by
  have HF : Hid (nonFin s = false) := hf
  clear hf
  have hd := digB_le s
  have q1 : decide ((1048576 : Int) < (s.size : Int)) = false := by rw [decide_eq_false_iff_not]; omega
  have q2 : decide ((m : Int) < 0) = false := by rw [decide_eq_false_iff_not]; omega
  have q4 : decide (n < -65536) = false := by rw [decide_eq_false_iff_not]; omega
  have q5 : decide ((65536 : Int) < n) = false := by rw [decide_eq_false_iff_not]; omega
  have q8 : decide ((0 : Int) < (m : Int)) = false := by rw [decide_eq_false_iff_not]; omega
  go_enter Try.func4, Try.ntmps4
  go_wp2_with (first
    | (go_at_call 12; refine (zz12_ok k 0 dy n s m _ hs).mono ?_; rintro e w' ⟨rfl, rfl⟩)
    | (go_at_call 8; refine (nonFinite_any s _).mono ?_; rw [HF.out]; rintro e w' ⟨rfl, rfl⟩)
    | (go_at_call 10; refine (digitsOf_any s _).mono ?_; rintro e w' ⟨rfl, rfl⟩))
  refine (zzText_any k 0 dy n s _ (Or.inr ⟨by omega, by omega, by omega, by omega, hs⟩)).mono ?_
  rintro e w1 ⟨rfl, b1⟩
  go_wp2_with fail
  refine (zzText_any k m dy n s _ (Or.inr ⟨by omega, by omega, by omega, by omega, hs⟩)).mono ?_
  rintro e w2 ⟨rfl, b2⟩
  have hB := b1.trans (b2.mono b1.size)
  clear b1 b2
  revert hA hP
  generalize numText 0 n s = A
  generalize numText m n s = C
  intro hP hA
  obtain ⟨p1, p2, p3, p4⟩ := hP
  have P2 : Hid (C.extract 0 A.size = A) := p2
  have P3 := fun h => p3 h
  have P4 : Hid (∀ j (h : j < C.size), A.size + 0 ≤ j → C[j] = 48) := p4
  have g1 : C.size ≤ A.size + 0 + m := by omega
  have g2 : A.size + 0 + m ≤ C.size := by omega
  clear p1 p2 p4
  clear p3 P3
  have d2 : ((C.extract 0 A.size).toList == A.toList) = true := by rw [P2.out]; exact beq_self_eq_true _
  have d3 : ((C.size : Int) != (A.size : Int) + m) = false := by rw [bne_eq_false_iff_eq]; omega
  go_wp2
  go_loop [19] (fun j => ∃ i : Nat, j = .int .i64 i ∧ A.size ≤ i ∧ i ≤ C.size) (fun j => C.size - (intOf j).toNat)
  case atStart => exact ⟨A.size, by go_num, Nat.le_refl _, by omega⟩
  case round =>
    obtain ⟨i, rfl, hi1, hi2⟩ := hrel
    by_cases hic : i < C.size
    · have dz : ((C[i].toNat : Int) != 48) = false := by rw [P4.out i hic hi1]; rfl
      go_wp2
      go_round
      case rel => exact ⟨i + 1, by go_num, by omega, by omega⟩
      case measure => simp [intOf]; omega
    · go_wp2
      go_ret
      exact ⟨rfl, hB⟩
set_option maxRecDepth 100000 in
set_option maxHeartbeats 1000000 in
theorem pads_more (k sc dy n : Int) (s : ByteArray) (m : Nat) (w : World) (hs : s.size ≤ 1048576) (hf : nonFin s = false) (h0 : 0 < sc) (h1 : sc + m ≤ 32767) (n0 : -65536 ≤ n) (n1 : n ≤ 65536) (hl : ((digB s).size : Int) - n ≤ sc)
    (hP : Padded (numText sc n s) (numText (sc + m) n s) 0 m) (hA : (numText sc n s).size ≤ 2000000) :
    Calls Try.prog 4 #[.int .u8 k, .int .i16 sc, .int .i32 dy, .int .i64 n, .string s, .int .i16 m] w fun e w' => e = .returned (.bool true) ∧ Below w.heap.size w w' := by
  have HF : Hid (nonFin s = false) := hf
  clear hf
  have hd := digB_le s
  have q1 : decide ((1048576 : Int) < (s.size : Int)) = false := by rw [decide_eq_false_iff_not]; omega
  have q2 : decide ((m : Int) < 0) = false := by rw [decide_eq_false_iff_not]; omega
  have q4 : decide (n < -65536) = false := by rw [decide_eq_false_iff_not]; omega
  have q5 : decide ((65536 : Int) < n) = false := by rw [decide_eq_false_iff_not]; omega
  have q3 : decide ((32767 : Int) - (m : Int) < sc) = false := by rw [decide_eq_false_iff_not]; omega
  have q6 : decide (sc < 0) = false := by rw [decide_eq_false_iff_not]; omega
  have q7 : decide (sc < ((digB s).size : Int) - n) = false := by rw [decide_eq_false_iff_not]; omega
  have q8 : (sc == 0) = false := by rw [beq_eq_false_iff_ne]; omega
  go_enter Try.func4, Try.ntmps4
  go_wp2_with (first
    | (go_at_call 12; refine (zz12_ok k sc dy n s m _ hs).mono ?_; rintro e w' ⟨rfl, rfl⟩)
    | (go_at_call 8; refine (nonFinite_any s _).mono ?_; rw [HF.out]; rintro e w' ⟨rfl, rfl⟩)
    | (go_at_call 10; refine (digitsOf_any s _).mono ?_; rintro e w' ⟨rfl, rfl⟩))
  refine (zzText_any k sc dy n s _ (Or.inr ⟨by omega, by omega, by omega, by omega, hs⟩)).mono ?_
  rintro e w1 ⟨rfl, b1⟩
  go_wp2_with fail
  refine (zzText_any k (sc + m) dy n s _ (Or.inr ⟨by omega, by omega, by omega, by omega, hs⟩)).mono ?_
  rintro e w2 ⟨rfl, b2⟩
  have hB := b1.trans (b2.mono b1.size)
  clear b1 b2
  revert hA hP
  generalize numText sc n s = A
  generalize numText (sc + m) n s = C
  intro hP hA
  obtain ⟨p1, p2, p3, p4⟩ := hP
  have P2 : Hid (C.extract 0 A.size = A) := p2
  have P3 := fun h => p3 h
  have P4 : Hid (∀ j (h : j < C.size), A.size + 0 ≤ j → C[j] = 48) := p4
  have g1 : C.size ≤ A.size + 0 + m := by omega
  have g2 : A.size + 0 + m ≤ C.size := by omega
  clear p1 p2 p4
  clear p3 P3
  have d2 : ((C.extract 0 A.size).toList == A.toList) = true := by rw [P2.out]; exact beq_self_eq_true _
  have d3 : ((C.size : Int) != (A.size : Int) + m) = false := by rw [bne_eq_false_iff_eq]; omega
  go_wp2
  go_loop [19] (fun j => ∃ i : Nat, j = .int .i64 i ∧ A.size ≤ i ∧ i ≤ C.size) (fun j => C.size - (intOf j).toNat)
  case atStart => exact ⟨A.size, by go_num, Nat.le_refl _, by omega⟩
  case round =>
    obtain ⟨i, rfl, hi1, hi2⟩ := hrel
    by_cases hic : i < C.size
    · have dz : ((C[i].toNat : Int) != 48) = false := by rw [P4.out i hic hi1]; rfl
      go_wp2
      go_round
      case rel => exact ⟨i + 1, by go_num, by omega, by omega⟩
      case measure => simp [intOf]; omega
    · go_wp2
      go_ret
      exact ⟨rfl, hB⟩

theorem numText_fin (sc n : Int) (s : ByteArray) (hf : nonFin s = false) : numText sc n s = ⟨(NP.ntext (NP.neg s.data.toList) sc n (NP.dig s.data.toList)).toArray⟩ := by
  unfold numText; rw [hf]; rfl

theorem padded_of (a p z : List UInt8) (m : Nat) (hz : z = NP.zeros m) (hp : p = [] ∨ p = [46]) : Padded ⟨a.toArray⟩ ⟨(a ++ (p ++ z)).toArray⟩ p.length m := by
  subst hz
  have e1 : (⟨a.toArray⟩ : ByteArray).size = a.length := by simp [ByteArray.size]
  have e2 : (⟨(a ++ (p ++ NP.zeros m)).toArray⟩ : ByteArray).size = a.length + p.length + m := by simp [ByteArray.size, NP.zeros_length]; omega
  have get : ∀ j (h : j < (⟨(a ++ (p ++ NP.zeros m)).toArray⟩ : ByteArray).size), (⟨(a ++ (p ++ NP.zeros m)).toArray⟩ : ByteArray)[j] = (a ++ (p ++ NP.zeros m))[j]'(by rw [e2] at h; simp [NP.zeros_length]; omega) := fun j h => rfl
  refine ⟨by rw [e1, e2], ?_, ?_, ?_⟩
  · rw [e1]
    apply ByteArray.ext
    rw [ByteArray.data_extract]
    apply Array.ext'
    rw [Array.toList_extract, List.extract_eq_take_drop]
    simp
  · intro h1 h
    rcases hp with rfl | rfl
    · cases h1
    · rw [get]
      simp only [e1]
      rw [List.getElem_append_right (Nat.le_refl _)]
      simp
  · intro j h hj
    rw [get]
    rw [e1] at hj
    rw [List.getElem_append_right (by omega), List.getElem_append_right (by omega)]
    simp [NP.zeros]

theorem padded (sc n : Int) (m : Nat) (s : ByteArray) (hf : nonFin s = false) (h0 : 0 ≤ sc) (hl : ((digB s).size : Int) - n ≤ sc) :
    Padded (numText sc n s) (numText (sc + m) n s) (if sc = 0 ∧ 0 < m then 1 else 0) m := by
  rw [numText_fin sc n s hf, numText_fin (sc + m) n s hf]
  rw [digB_size] at hl
  rw [NP.ntext_more _ sc n m _ h0 hl]
  unfold NP.pads
  by_cases h : sc = 0 ∧ 0 < m
  · rw [if_pos h, if_pos h]
    exact padded_of _ [46] _ m rfl (Or.inr rfl)
  · rw [if_neg h, if_neg h]
    exact padded_of _ [] _ m rfl (Or.inl rfl)

theorem numText_size (sc n : Int) (s : ByteArray) (hf : nonFin s = false) (h0 : 0 ≤ sc) (h1 : sc ≤ 32767) (n1 : n ≤ 65536) (hl : ((digB s).size : Int) - n ≤ sc) : (numText sc n s).size ≤ 2000000 := by
  rw [numText_fin sc n s hf, ← list_size]
  rw [digB_size] at hl
  have := NP.ntext_length (NP.neg s.data.toList) sc n (NP.dig s.data.toList) h0 hl
  have ht : NP.top n ≤ 65536 := by unfold NP.top; split <;> omega
  show (NP.ntext (NP.neg s.data.toList) sc n (NP.dig s.data.toList)).length ≤ 2000000
  omega

set_option maxRecDepth 100000 in
set_option maxHeartbeats 400000 in
theorem pads_big (k sc dy n : Int) (s : ByteArray) (m : Int) (w : World) (hm : s.size ≤ maxLen) (hs : ¬ s.size ≤ 1048576) :
    Calls Try.prog 4 #[.int .u8 k, .int .i16 sc, .int .i32 dy, .int .i64 n, .string s, .int .i16 m] w fun e w' => e = .returned (.bool true) ∧ Below w.heap.size w w' := by
  go_enter Try.func4, Try.ntmps4
  go_wp2_with (go_at_call 12; refine (zz12_big k sc dy n s m _ hm hs).mono ?_; rintro e w' ⟨rfl, rfl⟩)
  go_ret
  exact ⟨rfl, Below.refl _ _⟩

set_option maxRecDepth 100000 in
set_option maxHeartbeats 400000 in
theorem pads_neg (k sc dy n : Int) (s : ByteArray) (m : Int) (w : World) (hs : s.size ≤ 1048576) (hm0 : m < 0) :
    Calls Try.prog 4 #[.int .u8 k, .int .i16 sc, .int .i32 dy, .int .i64 n, .string s, .int .i16 m] w fun e w' => e = .returned (.bool true) ∧ Below w.heap.size w w' := by
  go_enter Try.func4, Try.ntmps4
  go_wp2_with (go_at_call 12; refine (zz12_ok k sc dy n s m _ hs).mono ?_; rintro e w' ⟨rfl, rfl⟩)
  go_ret
  exact ⟨rfl, Below.refl _ _⟩

set_option maxRecDepth 100000 in
set_option maxHeartbeats 400000 in
theorem pads_over (k sc dy n : Int) (s : ByteArray) (m : Int) (w : World) (hs : s.size ≤ 1048576) (hm0 : 0 ≤ m) (hm1 : m ≤ 32767) (hx : 32767 - m < sc) :
    Calls Try.prog 4 #[.int .u8 k, .int .i16 sc, .int .i32 dy, .int .i64 n, .string s, .int .i16 m] w fun e w' => e = .returned (.bool true) ∧ Below w.heap.size w w' := by
  go_enter Try.func4, Try.ntmps4
  go_wp2_with (go_at_call 12; refine (zz12_ok k sc dy n s m _ hs).mono ?_; rintro e w' ⟨rfl, rfl⟩)
  go_ret
  exact ⟨rfl, Below.refl _ _⟩

theorem numText_non (sc n : Int) (s : ByteArray) (hf : nonFin s = true) : numText sc n s = s := by
  unfold numText; rw [hf]; rfl

set_option maxRecDepth 100000 in
set_option maxHeartbeats 1000000 in
theorem pads_non (k sc dy n : Int) (s : ByteArray) (m : Int) (w : World) (hs : s.size ≤ 1048576) (hf : nonFin s = true) (hm0 : 0 ≤ m) (hm1 : m ≤ 32767) (hx : ¬ 32767 - m < sc) (hc0 : -32768 ≤ sc) :
    Calls Try.prog 4 #[.int .u8 k, .int .i16 sc, .int .i32 dy, .int .i64 n, .string s, .int .i16 m] w fun e w' => e = .returned (.bool true) ∧ Below w.heap.size w w' := by
  have HF : Hid (nonFin s = true) := hf
  clear hf
  go_enter Try.func4, Try.ntmps4
  go_wp2_with (first
    | (go_at_call 12; refine (zz12_ok k sc dy n s m _ hs).mono ?_; rintro e w' ⟨rfl, rfl⟩)
    | (go_at_call 8; refine (nonFinite_any s _).mono ?_; rw [HF.out]; rintro e w' ⟨rfl, rfl⟩))
  refine (zzText_any k sc dy n s _ (Or.inl HF.out)).mono ?_
  rintro e w1 ⟨rfl, b1⟩
  go_wp2_with fail
  refine (zzText_any k (sc + m) dy n s _ (Or.inl HF.out)).mono ?_
  rintro e w2 ⟨rfl, b2⟩
  rw [numText_non sc n s HF.out, numText_non (sc + m) n s HF.out]
  go_wp2
  go_ret
  exact ⟨rfl, b1.trans (b2.mono b1.size)⟩

set_option maxRecDepth 100000 in
set_option maxHeartbeats 1000000 in
theorem pads_far (k sc dy n : Int) (s : ByteArray) (m : Int) (w : World) (hs : s.size ≤ 1048576) (hf : nonFin s = false) (hm0 : 0 ≤ m) (hm1 : m ≤ 32767) (hx : ¬ 32767 - m < sc) (hn : n < -65536 ∨ 65536 < n) :
    Calls Try.prog 4 #[.int .u8 k, .int .i16 sc, .int .i32 dy, .int .i64 n, .string s, .int .i16 m] w fun e w' => e = .returned (.bool true) ∧ Below w.heap.size w w' := by
  have HF : Hid (nonFin s = false) := hf
  clear hf
  rcases hn with hn | hn
  · go_enter Try.func4, Try.ntmps4
    go_wp2_with (first
      | (go_at_call 12; refine (zz12_ok k sc dy n s m _ hs).mono ?_; rintro e w' ⟨rfl, rfl⟩)
      | (go_at_call 8; refine (nonFinite_any s _).mono ?_; rw [HF.out]; rintro e w' ⟨rfl, rfl⟩))
    go_ret
    exact ⟨rfl, Below.refl _ _⟩
  · have hn2 : ¬ n < -65536 := by omega
    go_enter Try.func4, Try.ntmps4
    go_wp2_with (first
      | (go_at_call 12; refine (zz12_ok k sc dy n s m _ hs).mono ?_; rintro e w' ⟨rfl, rfl⟩)
      | (go_at_call 8; refine (nonFinite_any s _).mono ?_; rw [HF.out]; rintro e w' ⟨rfl, rfl⟩))
    go_ret
    exact ⟨rfl, Below.refl _ _⟩

set_option maxRecDepth 100000 in
set_option maxHeartbeats 1000000 in
theorem pads_short (k sc dy n : Int) (s : ByteArray) (m : Int) (w : World) (hs : s.size ≤ 1048576) (hf : nonFin s = false) (hm0 : 0 ≤ m) (hm1 : m ≤ 32767) (hx : ¬ 32767 - m < sc) (n0 : -65536 ≤ n) (n1 : n ≤ 65536) (hl : sc < 0 ∨ sc < ((digB s).size : Int) - n) :
    Calls Try.prog 4 #[.int .u8 k, .int .i16 sc, .int .i32 dy, .int .i64 n, .string s, .int .i16 m] w fun e w' => e = .returned (.bool true) ∧ Below w.heap.size w w' := by
  have HF : Hid (nonFin s = false) := hf
  clear hf
  have hd := digB_le s
  by_cases hc : sc < 0
  · clear hl
    go_enter Try.func4, Try.ntmps4
    go_wp2_with (first
      | (go_at_call 12; refine (zz12_ok k sc dy n s m _ hs).mono ?_; rintro e w' ⟨rfl, rfl⟩)
      | (go_at_call 8; refine (nonFinite_any s _).mono ?_; rw [HF.out]; rintro e w' ⟨rfl, rfl⟩))
    go_ret
    exact ⟨rfl, Below.refl _ _⟩
  · have hl2 : sc < ((digB s).size : Int) - n := by omega
    clear hl
    go_enter Try.func4, Try.ntmps4
    go_wp2_with (first
      | (go_at_call 12; refine (zz12_ok k sc dy n s m _ hs).mono ?_; rintro e w' ⟨rfl, rfl⟩)
      | (go_at_call 8; refine (nonFinite_any s _).mono ?_; rw [HF.out]; rintro e w' ⟨rfl, rfl⟩)
      | (go_at_call 10; refine (digitsOf_any s _).mono ?_; rintro e w' ⟨rfl, rfl⟩))
    go_ret
    exact ⟨rfl, Below.refl _ _⟩

theorem law_pads (k sc dy n : Int) (s : ByteArray) (m : Int) (w : World) (hm : s.size ≤ maxLen) (hc0 : -32768 ≤ sc) (hc1 : sc ≤ 32767) (hm1 : m ≤ 32767) :
    Calls Try.prog 4 #[.int .u8 k, .int .i16 sc, .int .i32 dy, .int .i64 n, .string s, .int .i16 m] w fun e w' => e = .returned (.bool true) ∧ Below w.heap.size w w' := by
  by_cases hs : s.size ≤ 1048576
  · by_cases hm0 : m < 0
    · exact pads_neg k sc dy n s m w hs hm0
    · by_cases hx : 32767 - m < sc
      · exact pads_over k sc dy n s m w hs (by omega) hm1 hx
      · cases hf : nonFin s with
        | true => exact pads_non k sc dy n s m w hs hf (by omega) hm1 hx hc0
        | false =>
          by_cases hn : n < -65536 ∨ 65536 < n
          · exact pads_far k sc dy n s m w hs hf (by omega) hm1 hx hn
          · by_cases hl : sc < 0 ∨ sc < ((digB s).size : Int) - n
            · exact pads_short k sc dy n s m w hs hf (by omega) hm1 hx (by omega) (by omega) hl
            · obtain ⟨mm, rfl⟩ := Int.eq_ofNat_of_zero_le (show 0 ≤ m by omega)
              have hP := padded sc n mm s hf (by omega) (by omega)
              have hA := numText_size sc n s hf (by omega) (by omega) (by omega) (by omega)
              by_cases hz : sc = 0
              · subst hz
                rw [Int.zero_add] at hP
                by_cases hmm : 0 < mm
                · rw [if_pos ⟨rfl, hmm⟩] at hP
                  exact pads_dot k dy n s mm w hs hf hmm (by omega) (by omega) (by omega) (by omega) hP hA
                · rw [if_neg (by omega)] at hP
                  exact pads_none k dy n s mm w hs hf hmm (by omega) (by omega) (by omega) hP hA
              · rw [if_neg (by omega)] at hP
                exact pads_more k sc dy n s mm w hs hf (by omega) (by omega) (by omega) (by omega) (by omega) hP hA
  · exact pads_big k sc dy n s m w hm hs
end Go.Proofs.Qxb6602072a
