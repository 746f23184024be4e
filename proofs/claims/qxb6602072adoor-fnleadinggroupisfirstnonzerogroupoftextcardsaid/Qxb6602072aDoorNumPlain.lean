/- Plain mathematics of a numeric's text: the digits and the exponent, the law's own place-by-place model, padding by zeros. No Go program in sight. -/
import Derived.Below
namespace Go.Proofs.Qxb6602072aDoor.NP

/-- the byte '0', k times -/
def zeros (k : Nat) : List UInt8 := List.replicate k 48

theorem zeros_length (k : Nat) : (zeros k).length = k := by simp [zeros]
theorem zeros_succ (k : Nat) : zeros (k + 1) = zeros k ++ [48] := by simp [zeros, List.replicate_succ']
theorem zeros_add (a b : Nat) : zeros (a + b) = zeros a ++ zeros b := by simp [zeros, List.replicate_append_replicate]

/-- the digits before the point -/
def ipart (n : Int) (d : List UInt8) : List UInt8 :=
  if n ≤ 0 then [48] else if (d.length : Int) ≤ n then d ++ zeros (n.toNat - d.length) else d.take n.toNat

/-- the digits behind the point -/
def fpart (scale n : Int) (d : List UInt8) : List UInt8 :=
  zeros (-n).toNat ++ d.drop n.toNat ++ zeros (scale - ((-n).toNat : Int) - ((d.drop n.toNat).length : Int)).toNat

def sgn (neg : Bool) : List UInt8 := if neg then [45] else []

/-- numericText's answer for a finite numeric -/
def ntext (neg : Bool) (scale n : Int) (d : List UInt8) : List UInt8 :=
  sgn neg ++ ipart n d ++ (if scale = 0 then [] else [46] ++ fpart scale n d)

/-- the law's digitAt -/
def dAt (d : List UInt8) (e p : Int) : UInt8 := if 0 ≤ e - 1 - p then (d[(e - 1 - p).toNat]?).getD 48 else 48

def top (n : Int) : Nat := if n < 1 then 1 else n.toNat

/-- the law's model: the first k digits before the point, the first k behind it -/
def imod (n : Int) (d : List UInt8) (k : Nat) : List UInt8 := (List.range k).map fun j : Nat => dAt d n ((top n : Int) - 1 - (j : Int))
def fmod (n : Int) (d : List UInt8) (k : Nat) : List UInt8 := (List.range k).map fun q : Nat => dAt d n (-((q : Int) + 1))

theorem imod_succ (n : Int) (d : List UInt8) (k : Nat) : imod n d (k + 1) = imod n d k ++ [dAt d n ((top n : Int) - 1 - (k : Int))] := by
  simp [imod, List.range_succ]
theorem fmod_succ (n : Int) (d : List UInt8) (k : Nat) : fmod n d (k + 1) = fmod n d k ++ [dAt d n (-((k : Int) + 1))] := by
  simp [fmod, List.range_succ]
theorem imod_length (n : Int) (d : List UInt8) (k : Nat) : (imod n d k).length = k := by simp [imod]
theorem fmod_length (n : Int) (d : List UInt8) (k : Nat) : (fmod n d k).length = k := by simp [fmod]

def mtext (neg : Bool) (scale n : Int) (d : List UInt8) : List UInt8 :=
  sgn neg ++ imod n d (top n) ++ (if scale = 0 then [] else [46] ++ fmod n d scale.toNat)

theorem ipart_imod (n : Int) (d : List UInt8) : ipart n d = imod n d (top n) := by
  by_cases h : n ≤ 0
  · have ht : top n = 1 := by unfold top; rw [if_pos (by omega)]
    rw [ht]
    unfold ipart imod
    rw [if_pos h]
    simp [dAt, ht]
    omega
  have ht : top n = n.toNat := by unfold top; rw [if_neg (by omega)]
  rw [ht]
  unfold ipart imod
  rw [if_neg h, ht]
  apply List.ext_getElem?
  intro i
  rw [List.getElem?_map]
  by_cases hi : i < n.toNat
  · rw [List.getElem?_range hi]
    simp only [Option.map_some, dAt]
    have e0 : 0 ≤ n - 1 - ((n.toNat : Int) - 1 - (i : Int)) := by omega
    rw [if_pos e0, show (n - 1 - ((n.toNat : Int) - 1 - (i : Int))).toNat = i by omega]
    by_cases h2 : (d.length : Int) ≤ n
    · rw [if_pos h2]
      by_cases h3 : i < d.length
      · rw [List.getElem?_append_left h3, List.getElem?_eq_getElem h3]; rfl
      · rw [List.getElem?_append_right (by omega), List.getElem?_eq_none (by omega : d.length ≤ i)]
        unfold zeros
        rw [List.getElem?_replicate, if_pos (by omega)]; rfl
    · rw [if_neg h2, List.getElem?_take, if_pos hi, List.getElem?_eq_getElem (by omega : i < d.length)]; rfl
  · rw [List.getElem?_eq_none (by rw [List.length_range]; omega : (List.range n.toNat).length ≤ i)]
    rw [Option.map_none]
    by_cases h2 : (d.length : Int) ≤ n
    · rw [if_pos h2, List.getElem?_eq_none]
      rw [List.length_append, zeros_length]; omega
    · rw [if_neg h2, List.getElem?_eq_none]
      rw [List.length_take]; omega

theorem fpart_length (scale n : Int) (d : List UInt8) (h0 : 0 ≤ scale) (h : (d.length : Int) - n ≤ scale) : (fpart scale n d).length = scale.toNat := by
  unfold fpart
  simp only [List.length_append, zeros_length, List.length_drop]
  omega

theorem fpart_fmod (scale n : Int) (d : List UInt8) (h0 : 0 ≤ scale) (h : (d.length : Int) - n ≤ scale) : fpart scale n d = fmod n d scale.toNat := by
  apply List.ext_getElem?
  intro i
  by_cases hi : i < scale.toNat
  · unfold fmod
    rw [List.getElem?_map, List.getElem?_range hi]
    simp only [Option.map_some, dAt]
    unfold fpart
    by_cases h1 : i < (-n).toNat
    · rw [if_neg (by omega), List.append_assoc, List.getElem?_append_left (by rw [zeros_length]; exact h1)]
      unfold zeros
      rw [List.getElem?_replicate, if_pos h1]
    · rw [if_pos (by omega), List.append_assoc, List.getElem?_append_right (by rw [zeros_length]; omega), zeros_length]
      by_cases h2 : i - (-n).toNat < (d.drop n.toNat).length
      · rw [List.getElem?_append_left h2, List.getElem?_drop]
        rw [List.length_drop] at h2
        rw [show (n - 1 - -((i : Int) + 1)).toNat = n.toNat + (i - (-n).toNat) by omega]
        rw [List.getElem?_eq_getElem (by omega : n.toNat + (i - (-n).toNat) < d.length)]; rfl
      · rw [List.getElem?_append_right (by omega)]
        rw [List.length_drop] at h2
        rw [List.getElem?_eq_none (by omega : d.length ≤ (n - 1 - -((i : Int) + 1)).toNat)]
        unfold zeros
        rw [List.getElem?_replicate, if_pos (by rw [List.length_drop]; omega)]; rfl
  · rw [List.getElem?_eq_none (by rw [fpart_length scale n d h0 h]; omega), List.getElem?_eq_none (by rw [fmod_length]; omega)]

/-- the text of a finite numeric whose scale shows all its digits is the model's -/
theorem ntext_mtext (neg : Bool) (scale n : Int) (d : List UInt8) (h0 : 0 ≤ scale) (h : (d.length : Int) - n ≤ scale) : ntext neg scale n d = mtext neg scale n d := by
  unfold ntext mtext
  rw [ipart_imod, fpart_fmod scale n d h0 h]

/-- what a wider scale adds -/
def pads (scale : Int) (more : Nat) : List UInt8 := (if scale = 0 ∧ 0 < more then [46] else []) ++ zeros more

theorem fpart_more (scale n : Int) (more : Nat) (d : List UInt8) (h0 : 0 ≤ scale) (h : (d.length : Int) - n ≤ scale) : fpart (scale + more) n d = fpart scale n d ++ zeros more := by
  unfold fpart
  have e : (scale + (more : Int) - ((-n).toNat : Int) - ((d.drop n.toNat).length : Int)).toNat = (scale - ((-n).toNat : Int) - ((d.drop n.toNat).length : Int)).toNat + more := by
    rw [List.length_drop]; omega
  rw [e, zeros_add]
  simp only [List.append_assoc]

theorem fpart_none (n : Int) (d : List UInt8) (h : (d.length : Int) - n ≤ 0) : fpart 0 n d = [] := by
  apply List.eq_nil_of_length_eq_zero
  rw [fpart_length 0 n d (by omega) h]; rfl

theorem ntext_more (neg : Bool) (scale n : Int) (more : Nat) (d : List UInt8) (h0 : 0 ≤ scale) (h : (d.length : Int) - n ≤ scale) :
    ntext neg (scale + more) n d = ntext neg scale n d ++ pads scale more := by
  unfold ntext pads
  by_cases hs : scale = 0
  · subst hs
    by_cases hm : 0 < more
    · rw [if_neg (by omega), if_pos rfl, if_pos ⟨rfl, hm⟩, fpart_more 0 n more d h0 h, fpart_none n d h]
      simp only [List.append_assoc, List.nil_append]
    · obtain rfl : more = 0 := by omega
      simp [zeros]
  · rw [if_neg (by omega), if_neg hs, if_neg (by omega), fpart_more scale n more d h0 h]
    simp only [List.append_assoc, List.nil_append]

theorem ipart_length (n : Int) (d : List UInt8) : (ipart n d).length = top n := by
  rw [ipart_imod, imod_length]

theorem ntext_length (neg : Bool) (scale n : Int) (d : List UInt8) (h0 : 0 ≤ scale) (h : (d.length : Int) - n ≤ scale) : (ntext neg scale n d).length ≤ 2 + top n + scale.toNat := by
  unfold ntext sgn
  have h1 := ipart_length n d
  have h2 := fpart_length scale n d h0 h
  split <;> split <;> simp only [List.length_append, List.length_cons, List.length_nil, h1, h2] <;> omega

/-- the sign and the digits of the text s of a numeric -/
def neg (l : List UInt8) : Bool := l.head? == some 45
def dig (l : List UInt8) : List UInt8 := if l.head? == some 45 then l.tail else l

theorem dig_length (l : List UInt8) : (dig l).length ≤ l.length := by
  unfold dig
  split
  · rw [List.length_tail]; omega
  · exact Nat.le_refl _

end Go.Proofs.Qxb6602072aDoor.NP
