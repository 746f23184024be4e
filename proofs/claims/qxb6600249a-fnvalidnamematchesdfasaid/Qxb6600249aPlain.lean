/- Plain mathematics of the name's automaton. No Go program in sight. -/
import Derived.Laws.RangeAny
namespace Go.Proofs.Qxb6600249a.DP

/-- the byte at i, 0 beyond the end -/
def bat (s : ByteArray) (i : Nat) : Nat := (s.get! i).toNat

theorem bat_eq (s : ByteArray) (i : Nat) (h : i < s.size) : bat s i = (s[i]'h).toNat := by
  have := get_at s i h
  simp only [Nat.add_zero] at this
  simp only [bat, this]

/-- the law's sort of a byte -/
def cls (b : Nat) : Nat := if b = 95 then 0 else if 97 ≤ b ∧ b ≤ 122 then 0 else if 65 ≤ b ∧ b ≤ 90 then 0 else if 48 ≤ b ∧ b ≤ 57 then 1 else 2

/-- may the byte b stand at place i of a name? -/
def okAt (b i : Nat) : Bool := decide (cls b = 0) || (decide (i ≠ 0) && decide (cls b = 1))

/-- may each of the first k bytes? -/
def allOk (s : ByteArray) : Nat → Bool
  | 0 => true
  | k + 1 => allOk s k && okAt (bat s k) k

/-- the automaton's state behind k bytes -/
def st (s : ByteArray) : Nat → Nat
  | 0 => 0
  | k + 1 => if st s k = 0 then (if cls (bat s k) = 0 then 1 else 2) else if st s k = 1 then (if cls (bat s k) = 2 then 2 else 1) else st s k

theorem cls_le (b : Nat) : cls b ≤ 2 := by unfold cls; repeat' split
                                           all_goals omega

theorem st_zero (s : ByteArray) : st s 0 = 0 := rfl
theorem st_succ (s : ByteArray) (k : Nat) : st s (k + 1) = if st s k = 0 then (if cls (bat s k) = 0 then 1 else 2) else if st s k = 1 then (if cls (bat s k) = 2 then 2 else 1) else st s k := rfl

theorem st_is (s : ByteArray) (k : Nat) : st s (k + 1) = if allOk s (k + 1) then 1 else 2 := by
  induction k with
  | zero =>
    rw [st_succ, st_zero]
    simp [allOk, okAt]
  | succ k ih =>
    rw [st_succ, ih]
    have hl := cls_le (bat s (k + 1))
    show _ = if (allOk s (k + 1) && okAt (bat s (k + 1)) (k + 1)) then 1 else 2
    cases allOk s (k + 1)
    · simp
    · simp only [if_true, Bool.true_and, okAt]
      by_cases h0 : cls (bat s (k + 1)) = 0
      · simp [h0]
      · by_cases h1 : cls (bat s (k + 1)) = 1
        · simp [h1]
        · have h2 : cls (bat s (k + 1)) = 2 := by omega
          simp [h2]

theorem allOk_false (s : ByteArray) (k j : Nat) (h : k ≤ j) (hk : allOk s k = false) : allOk s j = false := by
  induction j with
  | zero => obtain rfl : k = 0 := by omega
            exact hk
  | succ j ih =>
    by_cases e : k = j + 1
    · rw [← e]; exact hk
    · show (allOk s j && _) = false
      rw [ih (by omega)]; rfl

/-- what both sides answer -/
def vB (s : ByteArray) : Bool := decide (0 < s.size) && allOk s s.size

theorem vB_st (s : ByteArray) : vB s = decide (st s s.size = 1) := by
  unfold vB
  cases h : s.size with
  | zero => simp [st_zero]
  | succ k =>
    rw [st_is]
    cases allOk s (k + 1) <;> simp

theorem st_le (s : ByteArray) (k : Nat) : st s k ≤ 2 := by
  cases k with
  | zero => exact Nat.zero_le _
  | succ k => rw [st_is]; split <;> omega

end Go.Proofs.Qxb6600249a.DP
