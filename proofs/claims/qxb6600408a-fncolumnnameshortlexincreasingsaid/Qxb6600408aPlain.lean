/- Plain mathematics of bijective base 26. No Go program in sight. -/
import Derived.Below
namespace Go.Proofs.Qxb6600408a.CP

/-- the name of the number n (1 is A), by at most f letters -/
def cnf : Nat → Nat → List UInt8
  | 0, _ => []
  | f + 1, n => if n = 0 then [] else cnf f ((n - 1) / 26) ++ [UInt8.ofNat (65 + (n - 1) % 26)]

def cn (n : Nat) : List UInt8 := cnf n n

theorem cnf_zero (f : Nat) : cnf f 0 = [] := by cases f <;> rfl

theorem cnf_succ (f n : Nat) (h : 0 < n) : cnf (f + 1) n = cnf f ((n - 1) / 26) ++ [UInt8.ofNat (65 + (n - 1) % 26)] := by
  show (if n = 0 then _ else _) = _
  rw [if_neg (by omega)]

/-- enough letters are enough -/
theorem cnf_fuel : ∀ (f g n : Nat), n ≤ f → n ≤ g → cnf f n = cnf g n
  | 0, g, n, hf, _ => by
    obtain rfl : n = 0 := by omega
    rw [cnf_zero, cnf_zero]
  | f + 1, 0, n, _, hg => by
    obtain rfl : n = 0 := by omega
    rw [cnf_zero, cnf_zero]
  | f + 1, g + 1, n, hf, hg => by
    by_cases h : n = 0
    · subst h; rw [cnf_zero, cnf_zero]
    · rw [cnf_succ f n (by omega), cnf_succ g n (by omega), cnf_fuel f g ((n - 1) / 26) (by omega) (by omega)]

theorem cn_step (n : Nat) (h : 0 < n) : cn n = cn ((n - 1) / 26) ++ [UInt8.ofNat (65 + (n - 1) % 26)] := by
  obtain ⟨f, rfl⟩ : ∃ f, n = f + 1 := ⟨n - 1, by omega⟩
  unfold cn
  rw [cnf_succ f (f + 1) h, cnf_fuel f ((f + 1 - 1) / 26) _ (by omega) (Nat.le_refl _)]

theorem letter_nat (n : Nat) : (UInt8.ofNat (65 + n % 26)).toNat = 65 + n % 26 := by
  have h : 65 + n % 26 < UInt8.size := by show _ < 256; omega
  rw [UInt8.toNat_ofNat_of_lt' h]

/-- the law's reading of a name -/
def val (l : List UInt8) : Nat := l.foldl (fun a c => a * 26 + (c.toNat - 65) + 1) 0

theorem val_snoc (l : List UInt8) (c : UInt8) : val (l ++ [c]) = val l * 26 + (c.toNat - 65) + 1 := by
  simp [val, List.foldl_append]

theorem strong {p : Nat → Prop} (h : ∀ n, (∀ m, m < n → p m) → p n) (n : Nat) : p n := by
  have : ∀ k, ∀ m, m < k → p m := by
    intro k
    induction k with
    | zero => intro m hm; omega
    | succ k ih =>
      intro m hm
      exact h m (fun j hj => ih j (by omega))
  exact this (n + 1) n (by omega)

theorem val_cn (n : Nat) : val (cn n) = n := by
  induction n using strong with
  | _ n ih =>
    by_cases h : n = 0
    · subst h; rfl
    · rw [cn_step n (by omega), val_snoc, ih ((n - 1) / 26) (by omega), letter_nat]
      omega

theorem cn_letters (n : Nat) : ∀ c ∈ cn n, 65 ≤ c.toNat ∧ c.toNat ≤ 90 := by
  induction n using strong with
  | _ n ih =>
    by_cases h : n = 0
    · subst h; intro c hc; cases hc
    · rw [cn_step n (by omega)]
      intro c hc
      rw [List.mem_append] at hc
      rcases hc with hc | hc
      · exact ih ((n - 1) / 26) (by omega) c hc
      · simp only [List.mem_singleton] at hc
        rw [hc, letter_nat]; omega

theorem cn_pow (n : Nat) : 26 ^ (cn n).length ≤ 25 * n + 1 := by
  induction n using strong with
  | _ n ih =>
    by_cases h : n = 0
    · subst h; exact Nat.le_refl _
    · rw [cn_step n (by omega), List.length_append, List.length_singleton, Nat.pow_succ]
      have := ih ((n - 1) / 26) (by omega)
      omega

theorem cn_len (n : Nat) (h : n ≤ 1073741825) : (cn n).length ≤ 7 := by
  have hp := cn_pow n
  by_cases hl : (cn n).length ≤ 7
  · exact hl
  · have h8 : 26 ^ 8 ≤ 26 ^ (cn n).length := Nat.pow_le_pow_right (by omega) (by omega)
    have e : (26 : Nat) ^ 8 = 208827064576 := by decide
    omega

theorem cn_ne (n : Nat) (h : 0 < n) : 0 < (cn n).length := by
  rw [cn_step n h, List.length_append, List.length_singleton]; omega

theorem take_snoc (l : List UInt8) (k : Nat) (h : k < l.length) : l.take (k + 1) = l.take k ++ [l[k]] := by
  rw [List.take_succ_eq_append_getElem h]

/-- the worth of the first k letters is small -/
theorem val_take (l : List UInt8) (hl : ∀ c ∈ l, 65 ≤ c.toNat ∧ c.toNat ≤ 90) (k : Nat) : val (l.take k) + 1 ≤ 27 ^ k := by
  induction k with
  | zero => simp [val]
  | succ k ih =>
    rw [Nat.pow_succ]
    by_cases h : k < l.length
    · rw [take_snoc l k h, val_snoc]
      have := hl l[k] (List.getElem_mem h)
      omega
    · rw [List.take_of_length_le (by omega)]
      rw [List.take_of_length_le (by omega)] at ih
      omega

theorem val_small (l : List UInt8) (hl : ∀ c ∈ l, 65 ≤ c.toNat ∧ c.toNat ≤ 90) (k : Nat) (hk : k ≤ 7) : val (l.take k) ≤ 10460353203 := by
  have h := val_take l hl k
  have h7 : 27 ^ k ≤ 27 ^ 7 := Nat.pow_le_pow_right (by omega) hk
  have e : (27 : Nat) ^ 7 = 10460353203 := by decide
  omega

/-- shortlex: a shorter name first; among names of one length by the first letter that parts them -/
def slex (a b : List UInt8) : Prop :=
  a.length < b.length ∨ (a.length = b.length ∧ ∃ k, k < a.length ∧ (∀ i, i < k → a.getD i 0 = b.getD i 0) ∧ (a.getD k 0).toNat < (b.getD k 0).toNat)

theorem getD_snoc_lt (l : List UInt8) (c : UInt8) (i : Nat) (h : i < l.length) : (l ++ [c]).getD i 0 = l.getD i 0 := by
  simp [List.getD, List.getElem?_append_left h]

theorem getD_snoc_eq (l : List UInt8) (c : UInt8) (i : Nat) (h : i = l.length) : (l ++ [c]).getD i 0 = c := by
  subst h; simp [List.getD]

theorem slex_cn (m n : Nat) (h : m < n) : slex (cn m) (cn n) := by
  induction n using strong generalizing m with
  | _ n ih =>
    by_cases hm : m = 0
    · subst hm
      left
      have := cn_ne n (by omega)
      show 0 < _
      exact this
    · rw [cn_step m (by omega), cn_step n (by omega)]
      by_cases hq : (m - 1) / 26 = (n - 1) / 26
      · rw [hq]
        right
        refine ⟨by simp, (cn ((n - 1) / 26)).length, by simp, ?_, ?_⟩
        · intro i hi
          rw [getD_snoc_lt _ _ _ hi, getD_snoc_lt _ _ _ hi]
        · rw [getD_snoc_eq _ _ _ rfl, getD_snoc_eq _ _ _ rfl, letter_nat, letter_nat]
          omega
      · rcases ih ((n - 1) / 26) (by omega) ((m - 1) / 26) (by omega) with hl | ⟨hl, k, hk, hp, hlt⟩
        · left
          rw [List.length_append, List.length_append, List.length_singleton, List.length_singleton]; omega
        · right
          refine ⟨by rw [List.length_append, List.length_append, List.length_singleton, List.length_singleton]; omega, k, by rw [List.length_append]; omega, ?_, ?_⟩
          · intro i hi
            rw [getD_snoc_lt _ _ _ (by omega), getD_snoc_lt _ _ _ (by omega)]
            exact hp i hi
          · rw [getD_snoc_lt _ _ _ (by omega), getD_snoc_lt _ _ _ (by omega)]
            exact hlt

end Go.Proofs.Qxb6600408a.CP
