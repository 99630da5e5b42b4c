/-
  The whole part of a word is exact.
-/
import Derived.Test.YbulkbwhyPl
namespace Go.Proofs.Ybulkbwhy
set_option linter.unusedVariables false

theorem log2_lt (n : Nat) : n < 2 ^ (n.log2 + 1) := Nat.lt_log2_self
theorem div_big (n d : Nat) : n / 2 ^ min d (n.log2 + 2) = n / 2 ^ d := by
  rcases Nat.le_total d (n.log2 + 2) with h | h
  · rw [Nat.min_eq_left h]
  · rw [Nat.min_eq_right h]
    have h1 := log2_lt n
    have h2 : 2 ^ (n.log2 + 1) ≤ 2 ^ (n.log2 + 2) := Nat.pow_le_pow_right (by decide) (by omega)
    have h3 : 2 ^ (n.log2 + 2) ≤ 2 ^ d := Nat.pow_le_pow_right (by decide) h
    rw [Nat.div_eq_of_lt (by omega), Nat.div_eq_of_lt (by omega)]
theorem cut_zero (s : Bool) (n d : Nat) : Ieee.Toward.zero.cut s n d = n / 2 ^ d := by
  unfold Ieee.Toward.cut
  simp only [Nat.one_shiftLeft, Bool.toNat_false, Nat.add_zero]
  exact div_big n d
theorem cut_even0 (s : Bool) (n : Nat) : Ieee.Toward.even.cut s n 0 = n := by
  unfold Ieee.Toward.cut
  simp [Nat.mod_one]
theorem cut_even (s : Bool) (n d : Nat) (hd : d ≤ n.log2 + 2) (h : 2 ^ d ∣ n) : Ieee.Toward.even.cut s n d = n / 2 ^ d := by
  unfold Ieee.Toward.cut
  have h0 : n % 2 ^ d = 0 := Nat.mod_eq_zero_of_dvd h
  have hp := Nat.two_pow_pos d
  simp only [Nat.one_shiftLeft, Nat.min_eq_left hd, h0, Nat.mul_zero]
  have e1 : (2 ^ d == 0) = false := by simp
  have e2 : decide (2 ^ d < 0) = false := by simp
  simp [e1]
/-- The kept digits of a number below 2 ^ 64. -/
def kept (C : Nat) : Nat := if C.log2 ≤ 52 then C * 2 ^ (52 - C.log2) else C / 2 ^ (C.log2 - 52)
theorem kept_range (C : Nat) (h0 : 0 < C) : 4503599627370496 ≤ kept C ∧ kept C < 9007199254740992 := by
  have h1 : 2 ^ C.log2 ≤ C := Nat.log2_self_le (by omega)
  have h2 := log2_lt C
  unfold kept
  split
  · rename_i h
    have e1 : 2 ^ C.log2 * 2 ^ (52 - C.log2) = 4503599627370496 := by rw [← Nat.pow_add, show C.log2 + (52 - C.log2) = 52 by omega]
    have e2 : 2 ^ (C.log2 + 1) * 2 ^ (52 - C.log2) = 9007199254740992 := by rw [← Nat.pow_add, show C.log2 + 1 + (52 - C.log2) = 53 by omega]
    have hp := Nat.two_pow_pos (52 - C.log2)
    have a := Nat.mul_le_mul_right (2 ^ (52 - C.log2)) h1
    have b := Nat.mul_lt_mul_of_pos_right h2 hp
    omega
  · rename_i h
    have e1 : 4503599627370496 * 2 ^ (C.log2 - 52) = 2 ^ C.log2 := by rw [show (4503599627370496 : Nat) = 2 ^ 52 by decide, ← Nat.pow_add, show 52 + (C.log2 - 52) = C.log2 by omega]
    have e2 : 9007199254740992 * 2 ^ (C.log2 - 52) = 2 ^ (C.log2 + 1) := by rw [show (9007199254740992 : Nat) = 2 ^ 53 by decide, ← Nat.pow_add, show 53 + (C.log2 - 52) = C.log2 + 1 by omega]
    have hp := Nat.two_pow_pos (C.log2 - 52)
    exact ⟨(Nat.le_div_iff_mul_le hp).2 (by omega), (Nat.div_lt_iff_lt_mul hp).2 (by omega)⟩
theorem kept_val (C : Nat) (hd : 2 ^ (C.log2 - 52) ∣ C) : kept C * 2 ^ (C.log2 + 1022) = C * 2 ^ 1074 := by
  unfold kept
  split
  · rename_i h
    rw [Nat.mul_assoc, ← Nat.pow_add, show 52 - C.log2 + (C.log2 + 1022) = 1074 by omega]
  · rename_i h
    rw [show C.log2 + 1022 = (C.log2 - 52) + 1074 by omega, Nat.pow_add, ← Nat.mul_assoc, Nat.div_mul_cancel hd]
theorem kept_back (C : Nat) (hd : 2 ^ (C.log2 - 52) ∣ C) : kept C * 2 ^ (C.log2 - 52) / 2 ^ (52 - C.log2) = C := by
  unfold kept
  split
  · rename_i h
    rw [show C.log2 - 52 = 0 by omega, Nat.pow_zero, Nat.mul_one, Nat.mul_div_cancel _ (Nat.two_pow_pos _)]
  · rename_i h
    rw [show 52 - C.log2 = 0 by omega, Nat.pow_zero, Nat.div_one, Nat.div_mul_cancel hd]
theorem near_eq (s : Bool) (C : Nat) (h0 : 0 < C) (h64 : C < 18446744073709551616) (hd : 2 ^ (C.log2 - 52) ∣ C) : Ieee.double.nearest s C 0 = (if s = true then 9223372036854775808 else 0) + (C.log2 + 1022) * 4503599627370496 + kept C := by
  have hk := kept_range C h0
  have ht : C.log2 < 64 := (Nat.log2_lt (by omega)).2 h64
  unfold Ieee.Format.nearest
  rw [if_neg (by omega)]
  have hfr : Ieee.double.fractionBits = 52 := rfl
  simp only [dLeast, dBin, dInf, hfr]
  have hl : max ((0 : Int) + (C.log2 : Int) - ((52 : Nat) : Int)) (-1074) = (C.log2 : Int) - 52 := by omega
  rw [hl]
  have hc : Ieee.Toward.even.cut s (C <<< ((0 : Int) - ((C.log2 : Int) - 52)).toNat) ((C.log2 : Int) - 52 - 0).toNat = kept C := by
    unfold kept
    rw [Nat.shiftLeft_eq]
    split
    · rename_i h
      rw [show ((C.log2 : Int) - 52 - 0).toNat = 0 by omega, cut_even0, show ((0 : Int) - ((C.log2 : Int) - 52)).toNat = 52 - C.log2 by omega]
    · rename_i h
      rw [show ((C.log2 : Int) - 52 - 0).toNat = C.log2 - 52 by omega, show ((0 : Int) - ((C.log2 : Int) - 52)).toNat = 0 by omega, Nat.pow_zero, Nat.mul_one, cut_even _ _ _ (by omega) hd]
  rw [hc, show ((C.log2 : Int) - 52 - -1074).toNat = C.log2 + 1022 by omega, Nat.min_eq_left (by omega)]
  unfold Ieee.Format.word
  rw [dSign]
  cases s
  · simp
  · simp
    omega

theorem zz (a b : Nat) : 0 * a = 0 * b := by rw [Nat.zero_mul, Nat.zero_mul]
structure WordOf (s : Bool) (C t : Nat) (K : Nat) (L : Int) : Prop where
  lt : t < 18446744073709551616
  read : Ieee.double.read t = .number s K L
  abs : Ieee.double.read (t % 9223372036854775808) = .number false K L
  lo : -1074 ≤ L
  val : K * 2 ^ (L + 1074).toNat = C * 2 ^ 1074
  back : K * 2 ^ L.toNat / 2 ^ (-L).toNat = C
set_option exponentiation.threshold 2000 in
theorem word_of (s : Bool) (C : Nat) (h64 : C < 18446744073709551616) (hd : 0 < C → 2 ^ (C.log2 - 52) ∣ C) : ∃ K L, WordOf s C (Ieee.double.nearest s C 0) K L := by
  rcases Nat.eq_zero_or_pos C with rfl | h0
  · have e : Ieee.double.nearest s 0 0 = if s = true then 9223372036854775808 else 0 := by
      unfold Ieee.Format.nearest Ieee.Format.word
      rw [if_pos rfl, dSign]
    rw [e]
    have F : Fld (if s = true then 9223372036854775808 else 0) s.toNat 0 0 := by cases s <;> exact ⟨rfl, by decide, by decide, by decide⟩
    have F0 : Fld 0 0 0 0 := ⟨rfl, by decide, by decide, by decide⟩
    refine ⟨0, -1074, by cases s <;> decide, ?_, ?_, Int.le_refl _, zz _ _, by rw [Nat.zero_mul, Nat.zero_div]⟩
    · rw [read_fld F]
      cases s <;> rfl
    · rw [show (if s = true then 9223372036854775808 else 0) % 9223372036854775808 = 0 by cases s <;> rfl, read_fld F0]
      rfl
  · have hd' := hd h0
    have hk := kept_range C h0
    have ht : C.log2 < 64 := (Nat.log2_lt (by omega)).2 h64
    rw [near_eq s C h0 h64 hd']
    have F : Fld ((if s = true then 9223372036854775808 else 0) + (C.log2 + 1022) * 4503599627370496 + kept C) s.toNat (C.log2 + 1023) (kept C - 4503599627370496) := by
      refine ⟨?_, by cases s <;> decide, by omega, by omega⟩
      cases s <;> simp <;> omega
    have F0 : Fld ((C.log2 + 1022) * 4503599627370496 + kept C) 0 (C.log2 + 1023) (kept C - 4503599627370496) := ⟨by omega, by decide, by omega, by omega⟩
    have r0 : ∀ (b : Bool) (ng x : Nat), Fld x ng (C.log2 + 1023) (kept C - 4503599627370496) → (ng == 1) = b → Ieee.double.read x = .number b (kept C) ((C.log2 : Int) - 52) := by
      intro b ng x hF hb
      rw [read_fld hF, if_neg (by omega), if_neg (by omega), hb, show kept C - 4503599627370496 + 4503599627370496 = kept C by omega, show ((C.log2 + 1023 : Nat) : Int) - 1075 = (C.log2 : Int) - 52 by omega]
    refine ⟨kept C, (C.log2 : Int) - 52, ?_, r0 s s.toNat _ F (by cases s <;> rfl), ?_, by omega, ?_, ?_⟩
    · cases s <;> simp <;> omega
    · refine r0 false 0 _ ?_ rfl
      rw [show ((if s = true then 9223372036854775808 else 0) + (C.log2 + 1022) * 4503599627370496 + kept C) % 9223372036854775808 = (C.log2 + 1022) * 4503599627370496 + kept C by cases s <;> simp <;> omega]
      exact F0
    · rw [show ((C.log2 : Int) - 52 + 1074).toNat = C.log2 + 1022 by omega]
      exact kept_val C hd'
    · rw [show ((C.log2 : Int) - 52).toNat = C.log2 - 52 by omega, show (-((C.log2 : Int) - 52)).toNat = 52 - C.log2 by omega]
      exact kept_back C hd'
/-- The digits that are cut off. -/
def cutC (m : Nat) (e : Int) : Nat := m * 2 ^ e.toNat / 2 ^ (-e).toNat
theorem cutC_at (m : Nat) (e : Int) (k : Nat) (he : -(k : Int) ≤ e) : cutC m e = m * 2 ^ (e + k).toNat / 2 ^ k := by
  unfold cutC
  rcases Int.le_total 0 e with h | h
  · rw [show (-e).toNat = 0 by omega, Nat.pow_zero, Nat.div_one, show (e + k).toNat = e.toNat + k by omega, Nat.pow_add, ← Nat.mul_assoc, Nat.mul_div_cancel _ (Nat.two_pow_pos k)]
  · rw [show e.toNat = 0 by omega, Nat.pow_zero, Nat.mul_one]
    have e1 : (2 : Nat) ^ k = 2 ^ (-e).toNat * 2 ^ (e + k).toNat := by rw [← Nat.pow_add]; congr 1; omega
    rw [e1, Nat.mul_div_mul_right _ _ (Nat.two_pow_pos _)]
theorem cutC_eq (m : Nat) (e : Int) (he : -1074 ≤ e) : cutC m e = m * 2 ^ (e + 1074).toNat / 2 ^ 1074 := cutC_at m e 1074 he
theorem cutC_dvd (m : Nat) (e : Int) (hm : m < 9007199254740992) : 0 < cutC m e → 2 ^ ((cutC m e).log2 - 52) ∣ cutC m e := by
  intro h0
  rcases Int.le_total 0 e with h | h
  · have hc : cutC m e = m * 2 ^ e.toNat := by
      unfold cutC
      rw [show (-e).toNat = 0 by omega, Nat.pow_zero, Nat.div_one]
    have hlt : m * 2 ^ e.toNat < 2 ^ (53 + e.toNat) := by
      rw [Nat.pow_add]
      exact Nat.mul_lt_mul_of_pos_right (by simpa using hm) (Nat.two_pow_pos _)
    rw [hc] at h0 ⊢
    have hl := (Nat.log2_lt (by omega)).2 hlt
    exact Nat.dvd_trans (Nat.pow_dvd_pow 2 (by omega)) (Nat.dvd_mul_left _ _)
  · have hc : cutC m e ≤ m := by
      unfold cutC
      rw [show e.toNat = 0 by omega, Nat.pow_zero, Nat.mul_one]
      exact Nat.div_le_self _ _
    have hlt : cutC m e < 2 ^ 53 := by
      have : (2 : Nat) ^ 53 = 9007199254740992 := by decide
      omega
    have hl := (Nat.log2_lt (by omega)).2 hlt
    rw [show (cutC m e).log2 - 52 = 0 by omega]
    simp
theorem truncB_eq {x : Nat} {s : Bool} {m : Nat} {e : Int} (h : Ieee.double.read x = .number s m e) : truncB x = Ieee.double.nearest s (cutC m e) 0 := by
  unfold truncB
  rw [h]
  unfold Ieee.Datum.integral Ieee.Format.write
  simp only [cut_zero, Nat.shiftLeft_eq]
  rfl

theorem toInt_of {t K : Nat} {L : Int} {C : Nat} (h : Ieee.double.read t = .number false K L) (hb : K * 2 ^ L.toNat / 2 ^ (-L).toNat = C) (h64 : C < 18446744073709551616) : floatToIntVal .f64 t .u64 = some (C : Int) := by
  unfold floatToIntVal
  have e : (FloatKind.f64.decode t).toInt .zero = some (C : Int) := by
    show (Ieee.double.read t).toInt .zero = _
    rw [h]
    unfold Ieee.Datum.toInt Ieee.Datum.integral
    simp only [cut_zero, Nat.shiftLeft_eq, hb, signed_eq]
    simp [sgd]
  rw [e]
  have e1 : IntKind.u64.min = 0 := by decide
  have e2 : IntKind.u64.max = 18446744073709551615 := by decide
  simp only [e1, e2]
  rw [if_pos (by omega)]
theorem whole_of {x : Nat} {s : Bool} {m : Nat} {e : Int} (h : Ieee.double.read x = .number s m e) (hm : m < 9007199254740992) (h64 : cutC m e < 18446744073709551616) :
    Whole x ∧ wholeT x = (cutC m e : Int) ∧ ∃ K L, Num (truncB x) (sgd s K) L ∧ K * 2 ^ (L + 1074).toNat = cutC m e * 2 ^ 1074 := by
  obtain ⟨K, L, W⟩ := word_of s (cutC m e) h64 (cutC_dvd m e hm)
  rw [← truncB_eq h] at W
  have hN : Num (truncB x) (sgd s K) L := ⟨⟨s, K, W.read, rfl⟩, W.lo⟩
  have hv := toInt_of W.abs W.back h64
  have hw : wholeT x = (cutC m e : Int) := by unfold wholeT; rw [hv]; rfl
  refine ⟨⟨by rw [h]; rfl, by rw [hw]; exact hv, by rw [hw]; omega, (num_notN hN).1, W.lt⟩, hw, K, L, hN, W.val⟩
end Go.Proofs.Ybulkbwhy
