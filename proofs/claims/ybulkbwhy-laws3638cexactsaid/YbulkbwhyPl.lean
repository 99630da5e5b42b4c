/-
  The plain side: words and the numbers that they stand for.
-/
import Derived.Test.YbulkbwhyLw
namespace Go.Proofs.Ybulkbwhy
set_option linter.unusedVariables false

theorem dSign : Ieee.double.signWeight = 9223372036854775808 := by decide
theorem dBin : Ieee.double.binade = 4503599627370496 := by decide
theorem dInf : Ieee.double.infRung = 9218868437227405312 := by decide
theorem dLeast : Ieee.double.leastPlace = -1074 := by decide
/-- What a word stands for, by its fields. -/
theorem read_fld {x ng ex fr : Nat} (h : Fld x ng ex fr) : Ieee.double.read x =
    if ex = 2047 then (if fr = 0 then .infinity (ng == 1) else .nan (ng == 1) fr) else if ex = 0 then .number (ng == 1) fr (-1074) else .number (ng == 1) (fr + 4503599627370496) ((ex : Int) - 1075) := by
  obtain ⟨h1, h2, h3, h4⟩ := h
  unfold Ieee.Format.read
  simp only [dSign, dBin, dInf, dLeast]
  have e1 : x / 9223372036854775808 % 2 = ng := by omega
  have e2 : x % 9223372036854775808 = ex * 4503599627370496 + fr := by omega
  rw [e1, e2]
  by_cases hi : ex = 2047
  · rw [if_pos hi, if_neg (by omega), if_neg (by omega)]
    by_cases hf : fr = 0
    · rw [if_pos hf, if_pos (by omega)]
    · rw [if_neg hf, if_neg (by omega), show ex * 4503599627370496 + fr - 9218868437227405312 = fr by omega]
  · rw [if_neg hi]
    by_cases h0 : ex = 0
    · subst h0
      rw [if_pos rfl, if_pos (by omega)]
      simp
    · rw [if_neg h0, if_neg (by omega), if_pos (by omega)]
      have e3 : (ex * 4503599627370496 + fr) % 4503599627370496 = fr := by omega
      have e4 : (ex * 4503599627370496 + fr) / 4503599627370496 = ex := by omega
      rw [e3, e4, Nat.add_comm 4503599627370496 fr, show (-1074 : Int) + ((ex - 1 : Nat) : Int) = (ex : Int) - 1075 by omega]
/-- The number m * 2 ^ e, as so many 2 ^ -1074. -/
def sgd (s : Bool) (m : Nat) : Int := if s = true then -(m : Int) else (m : Int)
def N (T : Int) (e : Int) : Int := T * 2 ^ (e + 1074).toNat
theorem signed_eq (s : Bool) (m up : Nat) : Ieee.signed s m up = sgd s m * 2 ^ up := by
  unfold Ieee.signed sgd
  rw [Nat.shiftLeft_eq]
  cases s
  · simp
  · simp [Int.neg_mul]
theorem pow_pos' (k : Nat) : (0 : Int) < 2 ^ k := Int.pow_pos (by decide)
theorem sgn_scale (a b : Int) (k : Nat) : sgn (a * 2 ^ k) (b * 2 ^ k) = sgn a b := by
  have hp := pow_pos' k
  have h1 : a * 2 ^ k < b * 2 ^ k ↔ a < b := Int.mul_lt_mul_right hp
  have h2 : b * 2 ^ k < a * 2 ^ k ↔ b < a := Int.mul_lt_mul_right hp
  unfold sgn
  simp only [h1, h2]
theorem N_split (T e : Int) (b : Int) (hb : -1074 ≤ b) (he : b ≤ e) : N T e = T * 2 ^ (e - b).toNat * 2 ^ (b + 1074).toNat := by
  unfold N
  rw [Int.mul_assoc, ← Int.pow_add]
  congr 2
  omega
theorem sgn_N (T1 T2 e1 e2 : Int) (h1 : -1074 ≤ e1) (h2 : -1074 ≤ e2) : sgn (T1 * 2 ^ (e1 - min e1 e2).toNat) (T2 * 2 ^ (e2 - min e1 e2).toNat) = sgn (N T1 e1) (N T2 e2) := by
  rw [N_split T1 e1 (min e1 e2) (by omega) (by omega), N_split T2 e2 (min e1 e2) (by omega) (by omega), sgn_scale]
theorem sgO_compare (a b : Int) : sgO (some (compare a b)) = sgn a b := by
  unfold sgn
  rcases Int.lt_trichotomy a b with h | h | h
  · rw [if_pos h, show compare a b = .lt from Int.compare_eq_lt.2 h]
    rfl
  · subst h
    simp [sgO]
  · rw [if_neg (by omega), if_pos h, show compare a b = .gt from Int.compare_eq_gt.2 h]
    rfl

/-- A word that stands for a number: T * 2 ^ e. -/
structure Num (x : Nat) (T e : Int) : Prop where
  read : ∃ s m, Ieee.double.read x = .number s m e ∧ T = sgd s m
  lo : -1074 ≤ e
theorem fo_num {x y : Nat} {T e U f : Int} (hx : Num x T e) (hy : Num y U f) : fo x y = some (compare (T * 2 ^ (e - min e f).toNat) (U * 2 ^ (f - min e f).toNat)) := by
  obtain ⟨s, m, r1, rfl⟩ := hx.read
  obtain ⟨t, n, r2, rfl⟩ := hy.read
  unfold fo Ieee.Format.order
  rw [r1, r2]
  unfold Ieee.Datum.order
  simp only [signed_eq]
theorem sg_num {x y : Nat} {T e U f : Int} (hx : Num x T e) (hy : Num y U f) : sgO (fo x y) = sgn (N T e) (N U f) := by
  rw [fo_num hx hy, sgO_compare, sgn_N _ _ _ _ hx.lo hy.lo]
theorem sgO_lt {o : Option Ordering} : (o == some .lt) = decide (sgO o = -1) := by
  cases o with
  | none => simp [sgO]
  | some o => cases o <;> simp [sgO]
theorem sgn_neg1 (a b : Int) : sgn a b = -1 ↔ a < b := by
  unfold sgn
  split
  · simp [*]
  · split <;> omega
theorem sgn_pos1 (a b : Int) : sgn a b = 1 ↔ b < a := by
  unfold sgn
  split
  · omega
  · split <;> omega
theorem sgn_zero (a b : Int) : sgn a b = 0 ↔ a = b := by
  unfold sgn
  split
  · omega
  · split <;> omega
theorem num_notN {x : Nat} {T e : Int} (hx : Num x T e) : isN x = false ∧ (Ieee.double.read x).isNaN = false := by
  constructor
  · unfold isN
    rw [fo_num hx hx]
    simp
  · obtain ⟨s, m, r1, _⟩ := hx.read
    rw [r1]
    rfl
theorem ge_num {x y : Nat} {T e U f : Int} (hx : Num x T e) (hy : Num y U f) : (fo x y == some .gt || fo x y == some .eq) = decide (N U f ≤ N T e) := by
  have h := sg_num hx hy
  have h0 := fo_num hx hy
  generalize fo x y = o at *
  subst h0
  generalize compare (T * 2 ^ (e - min e f).toNat) (U * 2 ^ (f - min e f).toNat) = c at *
  cases c
  · have := (sgn_neg1 _ _).1 (h.symm.trans rfl)
    simp
    omega
  · have := (sgn_zero _ _).1 (h.symm.trans rfl)
    simp
    omega
  · have := (sgn_pos1 _ _).1 (h.symm.trans rfl)
    simp
    omega
theorem le_num {x y : Nat} {T e U f : Int} (hx : Num x T e) (hy : Num y U f) : (fo x y == some .lt || fo x y == some .eq) = decide (N T e ≤ N U f) := by
  have h := sg_num hx hy
  have h0 := fo_num hx hy
  generalize fo x y = o at *
  subst h0
  generalize compare (T * 2 ^ (e - min e f).toNat) (U * 2 ^ (f - min e f).toNat) = c at *
  cases c
  · have := (sgn_neg1 _ _).1 (h.symm.trans rfl)
    simp
    omega
  · have := (sgn_zero _ _).1 (h.symm.trans rfl)
    simp
    omega
  · have := (sgn_pos1 _ _).1 (h.symm.trans rfl)
    simp
    omega
end Go.Proofs.Ybulkbwhy
