/- Plain mathematics of the printed text against the digits. No Go program in sight. -/
import Derived.Test.Qxb6602072aDoorGroupPlain
namespace Go.Proofs.Qxb6602072aDoor.TP

/-- the text behind the sign -/
def body (sc n : Int) (d : List UInt8) : List UInt8 := NP.ipart n d ++ (if sc = 0 then [] else [46] ++ NP.fpart sc n d)

theorem ntext_body (neg : Bool) (sc n : Int) (d : List UInt8) : NP.ntext neg sc n d = NP.sgn neg ++ body sc n d := by
  unfold NP.ntext body
  rw [List.append_assoc]

theorem body_model (sc n : Int) (d : List UInt8) (h0 : 0 ≤ sc) (h : (d.length : Int) - n ≤ sc) : body sc n d = NP.imod n d (NP.top n) ++ (if sc = 0 then [] else [46] ++ NP.fmod n d sc.toNat) := by
  unfold body
  rw [NP.ipart_imod, NP.fpart_fmod sc n d h0 h]

theorem imod_at (n : Int) (d : List UInt8) (k i : Nat) (h : i < k) : (NP.imod n d k)[i]? = some (NP.dAt d n ((NP.top n : Int) - 1 - (i : Int))) := by
  unfold NP.imod
  rw [List.getElem?_map, List.getElem?_range h]; rfl

theorem fmod_at (n : Int) (d : List UInt8) (k i : Nat) (h : i < k) : (NP.fmod n d k)[i]? = some (NP.dAt d n (-((i : Int) + 1))) := by
  unfold NP.fmod
  rw [List.getElem?_map, List.getElem?_range h]; rfl

theorem body_length (sc n : Int) (d : List UInt8) (h0 : 0 ≤ sc) (h : (d.length : Int) - n ≤ sc) : (body sc n d).length = NP.top n + (if sc = 0 then 0 else 1 + sc.toNat) := by
  rw [body_model sc n d h0 h, List.length_append, NP.imod_length]
  by_cases hs : sc = 0
  · rw [if_pos hs, if_pos hs]; rfl
  · rw [if_neg hs, if_neg hs, List.length_append, NP.fmod_length]; rfl

/-- a digit ahead of the point -/
theorem body_int (sc n : Int) (d : List UInt8) (h0 : 0 ≤ sc) (h : (d.length : Int) - n ≤ sc) (i : Nat) (hi : i < NP.top n) : (body sc n d)[i]? = some (NP.dAt d n ((NP.top n : Int) - 1 - (i : Int))) := by
  rw [body_model sc n d h0 h, List.getElem?_append_left (by rw [NP.imod_length]; exact hi), imod_at n d _ i hi]

/-- the point -/
theorem body_dot (sc n : Int) (d : List UInt8) (h0 : 0 ≤ sc) (h : (d.length : Int) - n ≤ sc) (hs : sc ≠ 0) : (body sc n d)[NP.top n]? = some 46 := by
  rw [body_model sc n d h0 h, List.getElem?_append_right (by rw [NP.imod_length]; exact Nat.le_refl _), NP.imod_length, Nat.sub_self, if_neg hs]
  rfl

/-- a digit behind the point -/
theorem body_frac (sc n : Int) (d : List UInt8) (h0 : 0 ≤ sc) (h : (d.length : Int) - n ≤ sc) (i : Nat) (hi : NP.top n < i) (hl : i < (body sc n d).length) : (body sc n d)[i]? = some (NP.dAt d n ((NP.top n : Int) - (i : Int))) := by
  rw [body_length sc n d h0 h] at hl
  have hs : sc ≠ 0 := by
    intro hs
    rw [if_pos hs] at hl
    omega
  rw [if_neg hs] at hl
  rw [body_model sc n d h0 h, List.getElem?_append_right (by rw [NP.imod_length]; omega), NP.imod_length, if_neg hs, List.getElem?_append_right (by simp only [List.length_singleton]; omega)]
  simp only [List.length_singleton]
  rw [fmod_at n d _ _ (by omega)]
  congr 2
  omega

/-- the power that the byte i of the text stands for -/
def pw (p i : Nat) : Int := if i < p then (p : Int) - 1 - (i : Int) else (p : Int) - (i : Int)

theorem body_at (sc n : Int) (d : List UInt8) (h0 : 0 ≤ sc) (h : (d.length : Int) - n ≤ sc) (i : Nat) (hi : i ≠ NP.top n) (hl : i < (body sc n d).length) : (body sc n d)[i]? = some (NP.dAt d n (pw (NP.top n) i)) := by
  unfold pw
  by_cases hlt : i < NP.top n
  · rw [if_pos hlt, body_int sc n d h0 h i hlt]
  · rw [if_neg hlt, body_frac sc n d h0 h i (by omega) hl]

theorem dAt_high (d : List UInt8) (n p : Int) (h : n - 1 < p) : NP.dAt d n p = 48 := by
  unfold NP.dAt; rw [if_neg (by omega)]

theorem dAt_low (d : List UInt8) (n p : Int) (h : (d.length : Int) ≤ n - 1 - p) : NP.dAt d n p = 48 := by
  unfold NP.dAt
  split
  · rw [List.getElem?_eq_none (by omega)]; rfl
  · rfl

/-- beyond the text's ends there are zeros -/
theorem beyond_high (d : List UInt8) (n p : Int) (h : (NP.top n : Int) - 1 - p < 0) : NP.dAt d n p = 48 := by
  refine dAt_high d n p ?_
  unfold NP.top at h
  split at h <;> omega

theorem beyond_low (sc n p : Int) (d : List UInt8) (h0 : 0 ≤ sc) (h : (d.length : Int) - n ≤ sc) (hp : p < 0) (hl : ¬ (NP.top n : Int) - p < (body sc n d).length) : NP.dAt d n p = 48 := by
  rw [body_length sc n d h0 h] at hl
  refine dAt_low d n p ?_
  by_cases hs : sc = 0
  · omega
  · rw [if_neg hs] at hl
    omega

theorem dig_head (l : List UInt8) (h : NP.neg l = false) : NP.dig l = l := by
  unfold NP.neg at h
  unfold NP.dig
  rw [if_neg (by rw [h]; exact Bool.false_ne_true)]

end Go.Proofs.Qxb6602072aDoor.TP
