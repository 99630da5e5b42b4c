/-
  orderNumbers' answers are those of the exact values.
-/
import Derived.Test.YbulkbwhyTr
namespace Go.Proofs.Ybulkbwhy
set_option linter.unusedVariables false
set_option exponentiation.threshold 2000

theorem sgn_cases (a b : Int) : (a < b ∧ sgn a b = -1) ∨ (a = b ∧ sgn a b = 0) ∨ (b < a ∧ sgn a b = 1) := by
  rcases Int.lt_trichotomy a b with h | h | h
  · exact .inl ⟨h, (sgn_neg1 _ _).2 h⟩
  · exact .inr (.inl ⟨h, (sgn_zero _ _).2 h⟩)
  · exact .inr (.inr ⟨h, (sgn_pos1 _ _).2 h⟩)
theorem oi_sgn (a b : Int) : oi (decide (a < 0)) a.natAbs (decide (b < 0)) b.natAbs = sgn a b := by
  have h1 := sgn_cases a b
  have h2 := sgn_cases (a.natAbs : Int) (b.natAbs : Int)
  unfold oi
  by_cases ha : a < 0 <;> by_cases hb : b < 0
  · rw [decide_eq_true ha, decide_eq_true hb, if_pos rfl, if_pos rfl]
    omega
  · rw [decide_eq_true ha, decide_eq_false hb, if_neg (by decide), if_pos rfl]
    omega
  · rw [decide_eq_false ha, decide_eq_true hb, if_neg (by decide), if_neg (by decide)]
    omega
  · rw [decide_eq_false ha, decide_eq_false hb, if_pos rfl, if_neg (by decide)]
    omega
theorem sg2_sgn (a b : Nat) : sg2 a b = sgn (a : Int) (b : Int) := by
  have h := sgn_cases (a : Int) (b : Int)
  unfold sg2
  split
  · omega
  · split <;> omega
theorem cmpI_oi (n1 : Bool) (m1 : Nat) (n2 : Bool) (m2 : Nat) : cmpI n1 m1 n2 m2 = oi n1 m1 n2 m2 := by
  unfold cmpI oi
  rw [sg2_sgn]
theorem mul_sign (T : Int) (k : Nat) : decide (T < 0) = decide (T * 2 ^ k < 0) ∧ T.natAbs * 2 ^ k = (T * 2 ^ k).natAbs := by
  have hp := pow_pos' k
  refine ⟨?_, ?_⟩
  · have : T * 2 ^ k < 0 ↔ T < 0 := by
      constructor
      · intro h
        rcases Int.lt_or_le T 0 with h1 | h1
        · exact h1
        · have := Int.mul_nonneg h1 (Int.le_of_lt hp)
          omega
      · intro h
        exact Int.mul_neg_of_neg_of_pos h hp
    simp [this]
  · rw [Int.natAbs_mul, Int.natAbs_pow]
    rfl
theorem cmpI_N (T1 T2 : Int) (k1 k2 : Nat) : cmpI (decide (T1 < 0)) (T1.natAbs * 2 ^ k1) (decide (T2 < 0)) (T2.natAbs * 2 ^ k2) = sgn (T1 * 2 ^ k1) (T2 * 2 ^ k2) := by
  rw [cmpI_oi, (mul_sign T1 k1).1, (mul_sign T1 k1).2, (mul_sign T2 k2).1, (mul_sign T2 k2).2, oi_sgn]
/-- The whole part decides, or the rest does. -/
theorem tr_order (I : Int) (s : Bool) (m' C : Nat) (S : Nat) (hS : 0 < S) (hC : C = m' / S) : (if sgn I (sgd s C) = 0 then sgn (sgd s C * S) (sgd s m') else sgn I (sgd s C)) = sgn (I * S) (sgd s m') := by
  have h1 := Nat.div_add_mod m' S
  have h2 := Nat.mod_lt m' hS
  rw [← hC] at h1
  have e1 : (m' : Int) = (C : Int) * S + ((m' % S : Nat) : Int) := by
    rw [← h1, Nat.mul_comm]
    simp [hC]
  have hlo : ∀ a b : Int, a < b → a * S + S ≤ b * S := fun a b h => by
    have := Int.mul_le_mul_of_nonneg_right (show a + 1 ≤ b by omega) (show (0 : Int) ≤ (S : Int) by omega)
    rw [Int.add_mul, Int.one_mul] at this
    exact this
  have k1 := sgn_cases I (sgd s C)
  have k2 := sgn_cases (sgd s C * S) (sgd s m')
  have k3 := sgn_cases (I * S) (sgd s m')
  rcases k1 with ⟨a, b⟩ | ⟨a, b⟩ | ⟨a, b⟩
  · rw [if_neg (by omega), b]
    have := hlo _ _ a
    cases s <;> simp only [sgd, if_true, Bool.false_eq_true, if_false, Int.neg_mul] at * <;> omega
  · rw [if_pos b, a]
  · rw [if_neg (by omega), b]
    have := hlo _ _ a
    cases s <;> simp only [sgd, if_true, Bool.false_eq_true, if_false, Int.neg_mul] at * <;> omega

def SS : Nat := 2 ^ 1074
theorem SS_pos : 0 < SS := Nat.two_pow_pos 1074
theorem N_at (T e : Int) (k : Nat) (h : (e + 1074).toNat = k + 1074) : N T e = T * 2 ^ k * (SS : Int) := by
  unfold N SS
  rw [h, Int.pow_add, ← Int.mul_assoc]
  rfl
theorem N_int (I : Int) : N I 0 = I * (SS : Int) := by rw [N_at I 0 0 rfl, Int.pow_zero, Int.mul_one]
theorem N_up : N 4503599627370496 12 = 18446744073709551616 * (SS : Int) := by rw [N_at _ 12 12 rfl]; rfl
theorem N_dn : N (-4503599627370496) 12 = -18446744073709551616 * (SS : Int) := by rw [N_at _ 12 12 rfl]; rfl
theorem N_zero (e : Int) : N 0 e = 0 := by unfold N; exact Int.zero_mul _
theorem num_up : Num cUp 4503599627370496 12 := ⟨⟨false, 4503599627370496, read_fld (x := cUp) (ng := 0) (ex := 1087) (fr := 0) ⟨by decide, by decide, by decide, by decide⟩, rfl⟩, by decide⟩
theorem num_dn : Num cDn (-4503599627370496) 12 := ⟨⟨true, 4503599627370496, read_fld (x := cDn) (ng := 1) (ex := 1087) (fr := 0) ⟨by decide, by decide, by decide, by decide⟩, rfl⟩, by decide⟩
theorem num_0 : Num 0 0 (-1074) := ⟨⟨false, 0, read_fld (x := 0) (ng := 0) (ex := 0) (fr := 0) ⟨by decide, by decide, by decide, by decide⟩, rfl⟩, by decide⟩
theorem sgd_mul (s : Bool) (a b : Nat) : sgd s (a * b) = sgd s a * (b : Int) := by
  cases s <;> simp [sgd, Int.neg_mul]
theorem sgd_pow (s : Bool) (a k : Nat) : sgd s a * 2 ^ k = sgd s (a * 2 ^ k) := by
  rw [sgd_mul, Int.natCast_pow]
  rfl
theorem sgd_neg (s : Bool) (C : Nat) (k : Nat) (hk : 0 < k) : decide (sgd s C * (k : Int) < 0) = decide (sgd s C < 0) := by
  have : sgd s C * (k : Int) < 0 ↔ sgd s C < 0 := by
    constructor
    · intro h
      rcases Int.lt_or_le (sgd s C) 0 with h1 | h1
      · exact h1
      · have := Int.mul_nonneg h1 (show (0 : Int) ≤ (k : Int) by omega)
        omega
    · intro h
      exact Int.mul_neg_of_neg_of_pos h (by omega)
  simp [this]
theorem sgd_abs (s : Bool) (C : Nat) : (sgd s C).natAbs = C := by cases s <;> simp [sgd]
/-- orderIntegerAndFloat, at a number. -/
theorem oif_num (I : Int) (hI : I.natAbs < 18446744073709551616) {x : Nat} {s : Bool} {m : Nat} {e : Int} (h : Ieee.double.read x = .number s m e) (hm : m < 9007199254740992) (he : -1074 ≤ e) :
    oif (decide (I < 0)) I.natAbs x = (sgn (N I 0) (N (sgd s m) e), true) ∧ (geB x = false → leB x = false → Whole x) := by
  have hx : Num x (sgd s m) e := ⟨⟨s, m, h, rfl⟩, he⟩
  have hSp := SS_pos
  have hge : geB x = decide (N 4503599627370496 12 ≤ N (sgd s m) e) := ge_num hx num_up
  have hle : leB x = decide (N (sgd s m) e ≤ N (-4503599627370496) 12) := le_num hx num_dn
  have hVm : N (sgd s m) e = sgd s (m * 2 ^ (e + 1074).toNat) := by
    unfold N
    exact sgd_pow _ _ _
  have hC : cutC m e = m * 2 ^ (e + 1074).toNat / SS := cutC_eq m e he
  rw [N_up] at hge
  rw [N_dn] at hle
  rw [hVm] at hge hle
  rw [N_int, hVm]
  have hI1 : I * (SS : Int) < 18446744073709551616 * (SS : Int) := Int.mul_lt_mul_of_pos_right (by omega) (by omega)
  have hI2 : -18446744073709551616 * (SS : Int) < I * (SS : Int) := Int.mul_lt_mul_of_pos_right (by omega) (by omega)
  generalize m * 2 ^ (e + 1074).toNat = m' at *
  have hlt : geB x = false → leB x = false → cutC m e < 18446744073709551616 := by
    intro g1 g2
    rw [hge] at g1
    rw [hle] at g2
    simp at g1 g2
    rw [hC, Nat.div_lt_iff_lt_mul hSp]
    have : (m' : Int) < 18446744073709551616 * (SS : Int) := by
      cases s
      · simpa [sgd] using g1
      · simp [sgd] at g2
        omega
    omega
  refine ⟨?_, fun g1 g2 => (whole_of h hm (hlt g1 g2)).1⟩
  unfold oif
  rw [if_neg (by rw [(num_notN hx).1]; decide)]
  by_cases g1 : geB x = true
  · rw [if_pos g1]
    rw [hge] at g1
    simp at g1
    rw [(sgn_neg1 _ _).2 (by omega)]
  · rw [if_neg g1]
    by_cases g2 : leB x = true
    · rw [if_pos g2]
      rw [hle] at g2
      simp at g2
      rw [(sgn_pos1 _ _).2 (by omega)]
    · rw [if_neg g2]
      obtain ⟨W, hw, K, L, hN, hK⟩ := whole_of h hm (hlt (by simpa using g1) (by simpa using g2))
      have hNW : N (sgd s K) L = sgd s (cutC m e) * (SS : Int) := by
        unfold N
        rw [sgd_pow, hK]
        exact sgd_mul _ _ _
      have hfl : (fo (truncB x) 0 == some .lt) = decide (sgd s (cutC m e) < 0) := by
        rw [sgO_lt, sg_num hN num_0, hNW, N_zero]
        have : sgn (sgd s (cutC m e) * (SS : Int)) 0 = -1 ↔ sgd s (cutC m e) * (SS : Int) < 0 := sgn_neg1 _ _
        simp only [this]
        exact sgd_neg s _ SS hSp
      have hfx : sgO (fo (truncB x) x) = sgn (sgd s (cutC m e) * (SS : Int)) (sgd s m') := by
        rw [sg_num hN hx, hNW, hVm]
      rw [hfl, hfx, hw, Int.toNat_natCast]
      have ho : oi (decide (I < 0)) I.natAbs (decide (sgd s (cutC m e) < 0)) (cutC m e) = sgn I (sgd s (cutC m e)) := by
        have := oi_sgn I (sgd s (cutC m e))
        rwa [sgd_abs] at this
      rw [ho, ← tr_order I s m' (cutC m e) SS hSp hC]
      split <;> rfl
end Go.Proofs.Ybulkbwhy
