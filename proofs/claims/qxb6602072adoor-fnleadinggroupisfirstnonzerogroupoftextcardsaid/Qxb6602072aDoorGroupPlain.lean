/- Plain mathematics of the leading group of four digits. No Go program in sight. -/
import Derived.Test.Qxb6602072aDoorNumPlain
import Derived.Lib.Atoi
import Derived.Lib.Repeat
namespace Go.Proofs.Qxb6602072aDoor.GP

theorem td_pos (a : Int) (h : 0 ≤ a) : a.tdiv 4 = a / 4 ∧ a.tmod 4 = a % 4 :=
  ⟨Int.tdiv_eq_ediv_of_nonneg h, Int.tmod_eq_emod_of_nonneg h⟩

theorem td_neg (a : Int) (h : a < 0) : a.tdiv 4 = -((-a) / 4) ∧ a.tmod 4 = -((-a) % 4) := by
  obtain ⟨b, rfl⟩ : ∃ b, a = -b := ⟨-a, by omega⟩
  rw [Int.neg_tdiv, Int.neg_tmod, Int.neg_neg, (td_pos b (by omega)).1, (td_pos b (by omega)).2]
  exact ⟨rfl, rfl⟩

/-- Go's quotient and remainder by four -/
theorem td (a : Int) : a = 4 * a.tdiv 4 + a.tmod 4 ∧ -4 < a.tmod 4 ∧ a.tmod 4 < 4 ∧ (0 ≤ a → 0 ≤ a.tmod 4) ∧ (a < 0 → a.tmod 4 ≤ 0) := by
  by_cases h : 0 ≤ a
  · obtain ⟨h1, h2⟩ := td_pos a h
    rw [h1, h2]; omega
  · obtain ⟨h1, h2⟩ := td_neg a (by omega)
    rw [h1, h2]; omega

/-- is every byte a decimal digit? -/
def dec (c : UInt8) : Bool := decide (48 ≤ c.toNat) && decide (c.toNat ≤ 57)
def allDec (l : List UInt8) : Bool := l.all dec

theorem dec_iff (c : UInt8) : dec c = true ↔ 48 ≤ c.toNat ∧ c.toNat ≤ 57 := by
  unfold dec; simp

theorem allDec_at {l : List UInt8} (h : allDec l = true) (i : Nat) (hi : i < l.length) : 48 ≤ l[i].toNat ∧ l[i].toNat ≤ 57 :=
  (dec_iff _).1 (List.all_eq_true.1 h _ (List.getElem_mem hi))

/-- the i-th digit, '0' beyond the end -/
def dg (d : List UInt8) (i : Nat) : UInt8 := (d[i]?).getD 48

theorem dg_dec {d : List UInt8} (h : allDec d = true) (i : Nat) : 48 ≤ (dg d i).toNat ∧ (dg d i).toNat ≤ 57 := by
  unfold dg
  by_cases hi : i < d.length
  · rw [List.getElem?_eq_getElem hi]; exact allDec_at h i hi
  · rw [List.getElem?_eq_none (by omega)]; exact ⟨by decide, by decide⟩

/-- the group's digits: as many of d's as there is room for, then zeros -/
theorem grp_eq (d : List UInt8) (m : Nat) : d.take m ++ NP.zeros (m - d.length) = (List.range m).map (dg d) := by
  apply List.ext_getElem?
  intro i
  rw [List.getElem?_map]
  by_cases hi : i < m
  · rw [List.getElem?_range hi]
    simp only [Option.map_some, dg]
    by_cases h3 : i < d.length
    · rw [List.getElem?_append_left (by rw [List.length_take]; omega), List.getElem?_take, if_pos hi, List.getElem?_eq_getElem h3]; rfl
    · rw [List.getElem?_append_right (by rw [List.length_take]; omega), List.getElem?_eq_none (by omega : d.length ≤ i)]
      unfold NP.zeros
      rw [List.getElem?_replicate, if_pos (by rw [List.length_take]; omega)]; rfl
  · rw [List.getElem?_eq_none (by rw [List.length_range]; omega : (List.range m).length ≤ i), Option.map_none, List.getElem?_eq_none]
    rw [List.length_append, List.length_take, NP.zeros_length]; omega

/-- the number that the first r + 1 of them spell -/
def gval (d : List UInt8) : Nat → Nat
  | 0 => (dg d 0).toNat - 48
  | r + 1 => gval d r * 10 + ((dg d (r + 1)).toNat - 48)

theorem digitVal_dec {c : UInt8} (h : 48 ≤ c.toNat ∧ c.toNat ≤ 57) : Lib.digitVal c = some (c.toNat - 48) := by
  unfold Lib.digitVal; rw [if_pos h]

theorem decFrom_snoc (b : UInt8) (k : Nat) (hb : Lib.digitVal b = some k) : ∀ (l : List UInt8) (acc n : Nat), Lib.decFrom acc l = some n → Lib.decFrom acc (l ++ [b]) = some (n * 10 + k)
  | [], acc, n, h => by
    simp only [Lib.decFrom, Option.some.injEq] at h
    subst h
    simp [Lib.decFrom, hb]
  | a :: l, acc, n, h => by
    simp only [Lib.decFrom, List.cons_append] at h ⊢
    cases hd : Lib.digitVal a with
    | none => rw [hd] at h; cases h
    | some v =>
      rw [hd] at h
      exact decFrom_snoc b k hb l _ n h

theorem decFrom_grp {d : List UInt8} (h : allDec d = true) (r : Nat) : Lib.decFrom 0 ((List.range (r + 1)).map (dg d)) = some (gval d r) := by
  induction r with
  | zero =>
    show Lib.decFrom 0 [dg d 0] = _
    simp [Lib.decFrom, digitVal_dec (dg_dec h 0), gval]
  | succ r ih =>
    rw [List.range_succ, List.map_append]
    exact decFrom_snoc _ _ (digitVal_dec (dg_dec h (r + 1))) _ _ _ ih

theorem atoi_grp {d : List UInt8} (h : allDec d = true) (r : Nat) : Lib.atoi ((List.range (r + 1)).map (dg d)) = some (gval d r : Int) := by
  have hd := decFrom_grp h r
  rw [List.range_succ_eq_map, List.map_cons] at hd ⊢
  have h0 := dg_dec h 0
  have e1 : (dg d 0 == 45) = false := by
    rw [beq_eq_false_iff_ne]; intro e; rw [e] at h0; exact absurd h0.1 (by decide)
  have e2 : (dg d 0 == 43) = false := by
    rw [beq_eq_false_iff_ne]; intro e; rw [e] at h0; exact absurd h0.1 (by decide)
  unfold Lib.atoi
  simp only [e1, e2, Bool.false_eq_true, if_false]
  unfold Lib.decNat
  rw [if_neg (by simp), hd]
  rfl

theorem repeat_zeros (k : Nat) : Lib.repeatL [48] k = NP.zeros k := by
  induction k with
  | zero => rfl
  | succ k ih => show [48] ++ Lib.repeatL [48] k = _
                 rw [ih]; rfl

/-- the law's own sum behind k of its four rounds -/
def ls (d : List UInt8) (n p : Int) : Nat → Nat
  | 0 => 0
  | k + 1 => ls d n p k * 10 + ((NP.dAt d n (4 * p + (3 - (k : Int)))).toNat - 48)

theorem dAt_dg (d : List UInt8) (n p : Int) (R j : Nat) (h : n - 1 = 4 * p + R) : NP.dAt d n (4 * p + j) = if j ≤ R then dg d (R - j) else 48 := by
  unfold NP.dAt dg
  by_cases hj : j ≤ R
  · rw [if_pos hj, if_pos (by omega), show (n - 1 - (4 * p + (j : Int))).toNat = R - j by omega]
  · rw [if_neg hj, if_neg (by omega)]

theorem dAt_dec {d : List UInt8} (h : allDec d = true) (n p : Int) : 48 ≤ (NP.dAt d n p).toNat ∧ (NP.dAt d n p).toNat ≤ 57 := by
  unfold NP.dAt
  split
  · exact dg_dec h _
  · exact ⟨by decide, by decide⟩

theorem ls_le {d : List UInt8} (h : allDec d = true) (n p : Int) (k : Nat) (hk : k ≤ 4) : ls d n p k ≤ 9999 := by
  have b1 := dAt_dec h n (4 * p + (3 - ((0 : Nat) : Int)))
  have b2 := dAt_dec h n (4 * p + (3 - ((1 : Nat) : Int)))
  have b3 := dAt_dec h n (4 * p + (3 - ((2 : Nat) : Int)))
  have b4 := dAt_dec h n (4 * p + (3 - ((3 : Nat) : Int)))
  have hk' : k = 0 ∨ k = 1 ∨ k = 2 ∨ k = 3 ∨ k = 4 := by omega
  rcases hk' with rfl | rfl | rfl | rfl | rfl <;> simp only [ls] <;> omega

theorem ls_gval (d : List UInt8) (n p : Int) (R : Nat) (hR : R ≤ 3) (h : n - 1 = 4 * p + R) : ls d n p 4 = gval d R := by
  have e0 := dAt_dg d n p R 0 h
  have e1 := dAt_dg d n p R 1 h
  have e2 := dAt_dg d n p R 2 h
  have e3 := dAt_dg d n p R 3 h
  have z : ((48 : UInt8).toNat) = 48 := rfl
  have f0 : (3 - ((0 : Nat) : Int)) = ((3 : Nat) : Int) := rfl
  have f1 : (3 - ((1 : Nat) : Int)) = ((2 : Nat) : Int) := rfl
  have f2 : (3 - ((2 : Nat) : Int)) = ((1 : Nat) : Int) := rfl
  have f3 : (3 - ((3 : Nat) : Int)) = ((0 : Nat) : Int) := rfl
  simp only [ls, f0, f1, f2, f3, e0, e1, e2, e3]
  have hR' : R = 0 ∨ R = 1 ∨ R = 2 ∨ R = 3 := by omega
  rcases hR' with rfl | rfl | rfl | rfl <;> simp [gval, z]

theorem gval_pos {d : List UInt8} (h : allDec d = true) (h0 : dg d 0 ≠ 48) (r : Nat) : 1 ≤ gval d r := by
  induction r with
  | zero =>
    have b := dg_dec h 0
    have : (dg d 0).toNat ≠ 48 := fun e => h0 (UInt8.toNat_inj.1 e)
    show 1 ≤ (dg d 0).toNat - 48
    omega
  | succ r ih => show 1 ≤ gval d r * 10 + _
                 omega

theorem gval_le {d : List UInt8} (h : allDec d = true) (r : Nat) (hr : r ≤ 3) : gval d r ≤ 9999 := by
  have b0 := dg_dec h 0
  have b1 := dg_dec h 1
  have b2 := dg_dec h 2
  have b3 := dg_dec h 3
  have hr' : r = 0 ∨ r = 1 ∨ r = 2 ∨ r = 3 := by omega
  rcases hr' with rfl | rfl | rfl | rfl <;> simp only [gval, Nat.zero_add, Nat.reduceAdd] <;> omega

end Go.Proofs.Qxb6602072aDoor.GP
