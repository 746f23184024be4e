/- Plain mathematics on rune widths and rune positions in a byte string. No Go program in sight. -/
import Derived.Laws.RangeAny
namespace Go.Proofs.Qxb6602072a.RP

/-- the width of the rune at i, as the model's own decoding has it -/
def wd (s : ByteArray) (i : Nat) : Nat := (Utf8.decode s i).2

/-- the byte at i as a number, 0 beyond the end -/
def bat (s : ByteArray) (i : Nat) : Nat := (s.get! i).toNat

theorem bat_lt (s : ByteArray) (i : Nat) : bat s i < 256 := (s.get! i).toNat_lt

theorem bat_eq (s : ByteArray) (i : Nat) (h : i < s.size) : bat s i = (s[i]'h).toNat := by
  have := get_at s i h
  simp only [Nat.add_zero] at this
  simp only [bat, this]

/-- the model's decoding width over the four bytes and the size -/
def dw (n i b0 b1 b2 b3 : Nat) : Nat :=
  if b0 < 128 then 1
  else if b0 / 32 = 6 ∧ i + 1 < n ∧ b1 / 64 = 2 then (if 128 ≤ (b0 % 32) * 64 + b1 % 64 then 2 else 1)
  else if b0 / 16 = 14 ∧ (i + 1 < n ∧ b1 / 64 = 2) ∧ (i + 2 < n ∧ b2 / 64 = 2) then
    (if 2048 ≤ (b0 % 16) * 4096 + (b1 % 64) * 64 + b2 % 64 ∧ ((b0 % 16) * 4096 + (b1 % 64) * 64 + b2 % 64 < 55296 ∨ 57344 ≤ (b0 % 16) * 4096 + (b1 % 64) * 64 + b2 % 64 ∧ (b0 % 16) * 4096 + (b1 % 64) * 64 + b2 % 64 ≤ 1114111) then 3 else 1)
  else if b0 / 8 = 30 ∧ (i + 1 < n ∧ b1 / 64 = 2) ∧ (i + 2 < n ∧ b2 / 64 = 2) ∧ (i + 3 < n ∧ b3 / 64 = 2) then
    (if 65536 ≤ (b0 % 8) * 262144 + (b1 % 64) * 4096 + (b2 % 64) * 64 + b3 % 64 ∧ ((b0 % 8) * 262144 + (b1 % 64) * 4096 + (b2 % 64) * 64 + b3 % 64 < 55296 ∨ 57344 ≤ (b0 % 8) * 262144 + (b1 % 64) * 4096 + (b2 % 64) * 64 + b3 % 64 ∧ (b0 % 8) * 262144 + (b1 % 64) * 4096 + (b2 % 64) * 64 + b3 % 64 ≤ 1114111) then 4 else 1)
  else 1

theorem snd_ite {c : Prop} [Decidable c] (a b : Nat × Nat) : (if c then a else b).2 = if c then a.2 else b.2 := by split <;> rfl

theorem valid_nat (c : Nat) : Utf8.valid (c : Int) = true ↔ (c < 55296 ∨ 57344 ≤ c ∧ c ≤ 1114111) := by
  unfold Utf8.valid
  simp only [Bool.and_eq_true, decide_eq_true_eq, Bool.or_eq_true]
  omega

theorem wd_dw (s : ByteArray) (i : Nat) : wd s i = dw s.size i (bat s i) (bat s (i+1)) (bat s (i+2)) (bat s (i+3)) := by
  unfold wd Utf8.decode
  simp only [snd_ite]
  unfold dw bat
  simp only [Nat.add_zero, beq_iff_eq, Bool.and_eq_true, decide_eq_true_eq, and_assoc, ge_iff_le, valid_nat]

/-- the law's width over the four bytes -/
def uwn (n i b0 b1 b2 b3 : Nat) : Nat :=
  if b0 < 128 then 1
  else if 194 ≤ b0 ∧ b0 ≤ 223 then (if 2 + i ≤ n ∧ 128 ≤ b1 ∧ b1 ≤ 191 then 2 else 1)
  else if 224 ≤ b0 ∧ b0 ≤ 239 then
    (if 3 + i ≤ n ∧ (if b0 = 224 then 160 else 128) ≤ b1 ∧ b1 ≤ (if b0 = 237 then 159 else 191) ∧ 128 ≤ b2 ∧ b2 ≤ 191 then 3 else 1)
  else if 240 ≤ b0 ∧ b0 ≤ 244 then
    (if 4 + i ≤ n ∧ (if b0 = 240 then 144 else 128) ≤ b1 ∧ b1 ≤ (if b0 = 244 then 143 else 191) ∧ 128 ≤ b2 ∧ b2 ≤ 191 ∧ 128 ≤ b3 ∧ b3 ≤ 191 then 4 else 1)
  else 1

theorem ite_eq' {c d : Prop} [Decidable c] [Decidable d] (h : c ↔ d) (a b : Nat) : (if c then a else b) = if d then a else b := by
  by_cases hc : c
  · rw [if_pos hc, if_pos (h.1 hc)]
  · rw [if_neg hc, if_neg (fun hd => hc (h.2 hd))]

theorem uwn_dw (n i b0 b1 b2 b3 : Nat) (h0 : b0 < 256) (h1 : b1 < 256) (h2 : b2 < 256) (h3 : b3 < 256) : uwn n i b0 b1 b2 b3 = dw n i b0 b1 b2 b3 := by
  unfold uwn dw
  by_cases a : b0 < 128
  · rw [if_pos a, if_pos a]
  rw [if_neg a, if_neg a]
  by_cases c2 : 192 ≤ b0 ∧ b0 ≤ 223
  · have e3 : ¬ (b0 / 16 = 14 ∧ (i + 1 < n ∧ b1 / 64 = 2) ∧ (i + 2 < n ∧ b2 / 64 = 2)) := by omega
    have e4 : ¬ (b0 / 8 = 30 ∧ (i + 1 < n ∧ b1 / 64 = 2) ∧ (i + 2 < n ∧ b2 / 64 = 2) ∧ (i + 3 < n ∧ b3 / 64 = 2)) := by omega
    have f3 : ¬ (224 ≤ b0 ∧ b0 ≤ 239) := by omega
    have f4 : ¬ (240 ≤ b0 ∧ b0 ≤ 244) := by omega
    simp only [if_neg e3, if_neg e4, if_neg f3, if_neg f4]
    by_cases k : 2 + i ≤ n ∧ 128 ≤ b1 ∧ b1 ≤ 191
    · have k' : b0 / 32 = 6 ∧ i + 1 < n ∧ b1 / 64 = 2 := by omega
      rw [if_pos k, if_pos k']
      exact ite_eq' (by omega) _ _
    · have k' : ¬ (b0 / 32 = 6 ∧ i + 1 < n ∧ b1 / 64 = 2) := by omega
      rw [if_neg k, if_neg k']
      split <;> rfl
  have e2 : ¬ (b0 / 32 = 6 ∧ i + 1 < n ∧ b1 / 64 = 2) := by omega
  have f2 : ¬ (194 ≤ b0 ∧ b0 ≤ 223) := by omega
  rw [if_neg e2, if_neg f2]
  by_cases c3 : 224 ≤ b0 ∧ b0 ≤ 239
  · have e4 : ¬ (b0 / 8 = 30 ∧ (i + 1 < n ∧ b1 / 64 = 2) ∧ (i + 2 < n ∧ b2 / 64 = 2) ∧ (i + 3 < n ∧ b3 / 64 = 2)) := by omega
    rw [if_pos c3, if_neg e4]
    by_cases k : b0 / 16 = 14 ∧ (i + 1 < n ∧ b1 / 64 = 2) ∧ (i + 2 < n ∧ b2 / 64 = 2)
    · rw [if_pos k]
      refine ite_eq' ?_ _ _
      split <;> split <;> omega
    · rw [if_neg k, if_neg]
      split <;> split <;> omega
  have e3 : ¬ (b0 / 16 = 14 ∧ (i + 1 < n ∧ b1 / 64 = 2) ∧ (i + 2 < n ∧ b2 / 64 = 2)) := by omega
  rw [if_neg c3, if_neg e3]
  by_cases k : b0 / 8 = 30 ∧ (i + 1 < n ∧ b1 / 64 = 2) ∧ (i + 2 < n ∧ b2 / 64 = 2) ∧ (i + 3 < n ∧ b3 / 64 = 2)
  · rw [if_pos k]
    by_cases c4 : 240 ≤ b0 ∧ b0 ≤ 244
    · rw [if_pos c4]
      refine ite_eq' ?_ _ _
      split <;> split <;> omega
    · rw [if_neg c4, if_neg]
      omega
  · rw [if_neg k]
    by_cases c4 : 240 ≤ b0 ∧ b0 ≤ 244
    · rw [if_pos c4, if_neg]
      split <;> split <;> omega
    · rw [if_neg c4]

theorem uwn_wd (s : ByteArray) (i : Nat) : uwn s.size i (bat s i) (bat s (i+1)) (bat s (i+2)) (bat s (i+3)) = wd s i := by
  rw [wd_dw, uwn_dw _ _ _ _ _ _ (bat_lt s i) (bat_lt s _) (bat_lt s _) (bat_lt s _)]

theorem wd_pos (s : ByteArray) (i : Nat) : 1 ≤ wd s i := by
  rw [← uwn_wd]; unfold uwn; repeat' split
  all_goals omega

theorem wd_le (s : ByteArray) (i : Nat) (h : i < s.size) : i + wd s i ≤ s.size := by
  rw [← uwn_wd]; unfold uwn; repeat' split
  all_goals omega

/-- the place behind the first k runes (the size, where there are no more) -/
def posAt (s : ByteArray) : Nat → Nat
  | 0 => 0
  | k + 1 => if posAt s k < s.size then posAt s k + wd s (posAt s k) else posAt s k

theorem posAt_le (s : ByteArray) (k : Nat) : posAt s k ≤ s.size := by
  induction k with
  | zero => exact Nat.zero_le _
  | succ k ih =>
    unfold posAt
    split
    · exact wd_le s _ (by assumption)
    · exact ih

theorem posAt_succ (s : ByteArray) (k : Nat) (h : posAt s k < s.size) : posAt s (k + 1) = posAt s k + wd s (posAt s k) := by
  show (if posAt s k < s.size then _ else _) = _
  rw [if_pos h]

theorem posAt_stop (s : ByteArray) (k : Nat) (h : ¬ posAt s k < s.size) : posAt s (k + 1) = posAt s k := by
  show (if posAt s k < s.size then _ else _) = _
  rw [if_neg h]

theorem posAt_mono1 (s : ByteArray) (k : Nat) : posAt s k ≤ posAt s (k + 1) := by
  by_cases h : posAt s k < s.size
  · rw [posAt_succ s k h]; omega
  · rw [posAt_stop s k h]; exact Nat.le_refl _

theorem posAt_mono (s : ByteArray) (k j : Nat) (h : k ≤ j) : posAt s k ≤ posAt s j := by
  induction j with
  | zero => obtain rfl : k = 0 := by omega
            exact Nat.le_refl _
  | succ j ih =>
    by_cases e : k = j + 1
    · rw [e]; exact Nat.le_refl _
    · exact Nat.le_trans (ih (by omega)) (posAt_mono1 s j)

theorem posAt_sat (s : ByteArray) (k j : Nat) (h : k ≤ j) (hk : ¬ posAt s k < s.size) : posAt s j = s.size := by
  have h1 := posAt_mono s k j h
  have h2 := posAt_le s j
  omega

/-- each of the runes behind us took a byte at least -/
theorem le_posAt (s : ByteArray) (k : Nat) (h : posAt s k < s.size) : k ≤ posAt s k := by
  induction k with
  | zero => exact Nat.zero_le _
  | succ k ih =>
    have h1 : posAt s k < s.size := Nat.lt_of_le_of_lt (posAt_mono1 s k) h
    have h2 := ih h1
    rw [posAt_succ s k h1]
    have := wd_pos s (posAt s k)
    omega

/-- the law's own gathering: what lies in it behind i runes -/
def gath (s : ByteArray) (F T i : Nat) : List UInt8 := (s.data.toList.take (posAt s (min i T))).drop (posAt s (min i F))

theorem gath_zero (s : ByteArray) (F T : Nat) : gath s F T 0 = [] := by
  unfold gath
  simp [posAt]

theorem take_drop_snoc {α : Type} (l : List α) (a b c : Nat) (h1 : a ≤ b) (h2 : b ≤ c) : (l.take c).drop a = (l.take b).drop a ++ (l.take c).drop b := by
  have e1 : (l.take c).drop a = ((l.take b) ++ (l.take c).drop b).drop a := by
    congr 1
    have : (l.take c).take b = l.take b := by rw [List.take_take, Nat.min_eq_left h2]
    rw [← this]
    exact (List.take_append_drop b (l.take c)).symm
  by_cases hb : b ≤ l.length
  · rw [e1, List.drop_append_of_le_length]
    rw [List.length_take]; omega
  · rw [List.take_of_length_le (by omega : l.length ≤ c), List.take_of_length_le (by omega : l.length ≤ b), List.drop_of_length_le (by omega : l.length ≤ b)]
    simp

theorem gath_in (s : ByteArray) (F T i : Nat) (h1 : F ≤ i) (h2 : i < T) (h : posAt s i < s.size) :
    gath s F T (i + 1) = gath s F T i ++ (s.data.toList.take (posAt s i + wd s (posAt s i))).drop (posAt s i) := by
  unfold gath
  rw [show min (i + 1) T = i + 1 by omega, show min i T = i by omega, show min (i + 1) F = F by omega, show min i F = F by omega, posAt_succ s i h]
  exact take_drop_snoc _ _ _ _ (posAt_mono s F i h1) (by omega)

theorem gath_out (s : ByteArray) (F T i : Nat) (hFT : F ≤ T) (h : i < F ∨ T ≤ i) : gath s F T (i + 1) = gath s F T i := by
  unfold gath
  rcases h with h | h
  · rw [show min (i + 1) T = i + 1 by omega, show min i T = i by omega, show min (i + 1) F = i + 1 by omega, show min i F = i by omega]
    rw [List.drop_of_length_le (by rw [List.length_take]; omega), List.drop_of_length_le (by rw [List.length_take]; omega)]
  · rw [show min (i + 1) T = T by omega, show min i T = T by omega, show min (i + 1) F = F by omega, show min i F = F by omega]

/-- at the string's end the gathering is the slice -/
theorem gath_end (s : ByteArray) (F T i : Nat) (h : ¬ posAt s i < s.size) : gath s F T i = (s.data.toList.take (posAt s T)).drop (posAt s F) := by
  unfold gath
  have key : ∀ X, posAt s (min i X) = posAt s X := by
    intro X
    by_cases hX : X ≤ i
    · rw [Nat.min_eq_right hX]
    · rw [Nat.min_eq_left (by omega), posAt_sat s i X (by omega) h, posAt_sat s i i (Nat.le_refl _) h]
  rw [key, key]

theorem gath_length (s : ByteArray) (F T i : Nat) : (gath s F T i).length ≤ s.size := by
  unfold gath
  have h1 := posAt_le s (min i T)
  have h2 : s.data.toList.length = s.size := by rw [Array.length_toList]; rfl
  rw [List.length_drop, List.length_take]
  omega

/-- runeSlice's 'start' behind k runes -/
def stOf (s : ByteArray) (F k : Nat) : Nat := if k ≤ F then s.size else posAt s F

theorem stOf_zero (s : ByteArray) (F : Nat) : stOf s F 0 = s.size := by simp [stOf]
theorem stOf_hit (s : ByteArray) (F : Nat) : stOf s F (F + 1) = posAt s F := by
  unfold stOf; rw [if_neg (by omega)]
theorem stOf_past (s : ByteArray) (F k : Nat) (h : F < k) : stOf s F k = posAt s F := by
  unfold stOf; rw [if_neg (by omega)]
theorem stOf_miss (s : ByteArray) (F k : Nat) (h : k ≠ F) : stOf s F (k + 1) = stOf s F k := by
  unfold stOf
  by_cases a : k ≤ F
  · rw [if_pos a, if_pos (by omega)]
  · rw [if_neg a, if_neg (by omega)]
theorem stOf_le (s : ByteArray) (F k : Nat) : stOf s F k ≤ s.size := by
  unfold stOf
  split
  · exact Nat.le_refl _
  · exact posAt_le s F
theorem stOf_end (s : ByteArray) (F k : Nat) (h : ¬ posAt s k < s.size) : stOf s F k = posAt s F := by
  unfold stOf
  by_cases a : k ≤ F
  · rw [if_pos a, posAt_sat s k F a h]
  · rw [if_neg a]

end Go.Proofs.Qxb6602072a.RP
