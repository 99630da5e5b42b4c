/-
  nat as numbers: sub, cmp.
-/
import Derived.Test.YbulkbwcoNat6
namespace Go.Proofs.Ybulkbwco
open Go.RowKit
set_option linter.unusedVariables false

theorem empty_form {w : World} {v : Value} (A : NatAt w v 0) : ∃ ao c, v = .slice ao 0 c ∧ ((ao = none ∧ c = 0) ∨ ∃ g cur, ao = some ⟨g, 0, none⟩ ∧ Holds1 w g c 0 cur) := by
  rcases A.2 with ⟨_, rfl⟩ | ⟨g, c, cur, rfl, HA⟩
  · exact ⟨none, 0, rfl, .inl ⟨rfl, rfl⟩⟩
  · exact ⟨_, c, rfl, .inr ⟨g, cur, rfl, HA⟩⟩
theorem full_form {w : World} {v : Value} {a : Int} (A : NatAt w v a) (h : a ≠ 0) : ∃ g c cur, v = .slice (some ⟨g, 0, none⟩) (dig a).length c ∧ Holds1 w g c a cur := by
  rcases A.2 with ⟨e, _⟩ | h'
  · exact absurd e h
  · exact h'

/-- a - b into a's own place, 0 < a, b ≤ a. -/
theorem nat_sub_x {w : World} {v1 v2 : Value} {a b : Int} (A : NatAt w v1 a) (B : NatAt w v2 b) (ha0 : 0 < a) (ha : a < 170141183460469231731687303715884105728) (hb : b < 18446744073709551616) (hba : b ≤ a) (hne : v1.ownBlock = none ∨ v1.ownBlock ≠ v2.ownBlock) :
    Calls Yba.prog 23 #[v1, v1, v2] w fun e w' => ∃ v', e = .returned v' ∧ Left1 w w' v1 v' (a - b) := by
  have b0 := B.1
  obtain ⟨g, c, cur, rfl, HA⟩ := full_form A (by omega)
  have hl := dig_pos (a := a) (by omega) (by omega)
  by_cases hbz : b = 0
  · subst hbz
    obtain ⟨bo, d, rfl, _⟩ := empty_form B
    rw [Int.sub_zero]
    refine (sub_set (some ⟨g, 0, none⟩) _ c bo d g c _ g c w (fun w' => w' = w) hl (by have := HA.cap; have := HA.room; omega) (set_self HA hl)).mono ?_
    rintro e w' ⟨rfl, rfl⟩
    exact ⟨_, rfl, ⟨⟨by omega, .inr ⟨g, c, cur, rfl, HA⟩⟩, Turned.refl _ _, .inl rfl⟩⟩
  obtain ⟨h, d, curb, rfl, HB⟩ := full_form B hbz
  have eb := dig1 (n := b) (by omega) hb
  have hbc : w.cell? ⟨h, 0, none⟩ = some (.int .u64 b) := (HB.row.cell 0).trans (HB.w0 eb)
  have hd1 : 1 ≤ d := by have := HB.cap; omega
  have hgh : g ≠ h := fun e => by subst e; rcases hne with h' | h' <;> first | exact h' rfl | cases h'
  have hsz := HA.size
  have hcap := HA.cap
  rw [eb]
  by_cases h1 : a < 18446744073709551616
  · have ea := dig1 (n := a) (by omega) h1
    rw [ea]
    have lo : subLo a b 0 = a - b := by unfold subLo; omega
    have hm : ∃ m, ((subLo a b 0 = 0 ∧ m = 0) ∨ ((subLo a b 0 == 0) = false ∧ m = 1)) ∧ m = (dig (a - b)).length := by
      by_cases hs : a = b
      · exact ⟨0, .inl ⟨by omega, rfl⟩, by rw [show a - b = 0 by omega]; rfl⟩
      · exact ⟨1, .inr ⟨by rw [lo]; simp; omega, rfl⟩, by rw [dig1 (by omega) (by omega)]; rfl⟩
    obtain ⟨m, hm, hml⟩ := hm
    refine (sub_11_x g c h d a b w cur HA.row hsz (by omega) (by omega) hd1 (by omega) b0 hb (HA.w0 ea) hbc (by unfold subHi; rw [if_neg (by omega)]) m hm).mono ?_
    rintro e w' ⟨rfl, hr, ht⟩
    refine ⟨_, rfl, ⟨⟨by omega, .inr ⟨g, c, _, by rw [hml], ⟨hr, by simp; omega, hcap, by rw [← hml]; rcases hm with h | h <;> omega, ints_set HA.ints hsz, fun j x hx => ?_⟩⟩⟩, ht.mono (fun k _ e => by rw [e]; rfl), .inl rfl⟩⟩
    by_cases hs : a = b
    · rw [show a - b = 0 by omega] at hx; simp [dig0] at hx
    · rw [dig1 (by omega) (by omega)] at hx
      match j, hx with
      | 0, hx => simp at hx; subst hx; rw [at_set _ _ _ (by omega), lo]
  · have ea := dig2 (n := a) (by omega)
    have h6 := six HA (by omega)
    subst h6
    rw [ea]
    have q0 : subHi (a % 18446744073709551616) b 0 = if a % 18446744073709551616 < b then 1 else 0 := by unfold subHi; rw [Int.add_zero]
    have q1 : 0 ≤ subHi (a % 18446744073709551616) b 0 ∧ subHi (a % 18446744073709551616) b 0 ≤ 1 := by rw [q0]; split <;> omega
    have q2 : subLo (a % 18446744073709551616) b 0 = (a - b) % 18446744073709551616 := by unfold subLo; omega
    have q3 : subLo (a / 18446744073709551616) (subHi (a % 18446744073709551616) b 0) 0 = (a - b) / 18446744073709551616 := by rw [q0]; unfold subLo; split <;> omega
    have hm : ∃ m, ((subLo (a / 18446744073709551616) (subHi (a % 18446744073709551616) b 0) 0 = 0 ∧ (subLo (a % 18446744073709551616) b 0 == 0) = false ∧ m = 1) ∨ ((subLo (a / 18446744073709551616) (subHi (a % 18446744073709551616) b 0) 0 == 0) = false ∧ m = 2)) ∧ m = (dig (a - b)).length := by
      by_cases hs : a - b < 18446744073709551616
      · exact ⟨1, .inl ⟨by omega, by rw [q2]; simp; omega, rfl⟩, by rw [dig1 (by omega) hs]; rfl⟩
      · exact ⟨2, .inr ⟨by rw [q3]; simp; omega, rfl⟩, by rw [dig2 (by omega)]; rfl⟩
    obtain ⟨m, hm, hml⟩ := hm
    refine (sub_21 g h d _ _ b w cur HA.row hsz hd1 (by omega) (by omega) b0 hb (HA.w0 ea) (HA.w1 ea) hbc q1.1 q1.2 (by rw [q0]; unfold subHi; split <;> rw [if_neg (by omega)]) m hm).mono ?_
    rintro e w' ⟨rfl, hr, ht⟩
    rw [q2, q3] at hr
    refine ⟨_, rfl, ⟨⟨by omega, .inr ⟨g, 6, _, by rw [hml], ⟨hr, by simp; omega, .inr rfl, by rw [← hml]; rcases hm with h | h <;> omega, ints_set (ints_set HA.ints hsz) (by simp; omega), fun j x hx => ?_⟩⟩⟩, ht.mono (fun k _ e => by rw [e]; rfl), .inl rfl⟩⟩
    by_cases hs : a - b < 18446744073709551616
    · rw [dig1 (by omega) hs] at hx
      match j, hx with
      | 0, hx => simp at hx; subst hx; rw [at_other _ _ _ _ (by omega), at_set _ _ _ (by omega)]; congr 2; omega
    · rw [dig2 (by omega)] at hx
      match j, hx with
      | 0, hx => simp at hx; subst hx; rw [at_other _ _ _ _ (by omega), at_set _ _ _ (by omega)]
      | 1, hx => simp at hx; subst hx; rw [at_set _ _ _ (by simp; omega)]

/-- b - a into a's own place, a < b. -/
theorem nat_sub_y {w : World} {v1 v2 : Value} {a b : Int} (A : NatAt w v1 a) (B : NatAt w v2 b) (hb : b < 18446744073709551616) (hba : a < b) (hne : v1.ownBlock = none ∨ v1.ownBlock ≠ v2.ownBlock) :
    Calls Yba.prog 23 #[v1, v2, v1] w fun e w' => ∃ v', e = .returned v' ∧ Left1 w w' v1 v' (b - a) := by
  have a0 := A.1
  obtain ⟨h, d, curb, rfl, HB⟩ := full_form B (by omega)
  have eb := dig1 (n := b) (by omega) hb
  have hbc : w.cell? ⟨h, 0, none⟩ = some (.int .u64 b) := (HB.row.cell 0).trans (HB.w0 eb)
  have hd1 : 1 ≤ d := by have := HB.cap; omega
  rw [eb]
  by_cases haz : a = 0
  · subst haz
    obtain ⟨ao, c, rfl, A'⟩ := empty_form A
    obtain ⟨g', c', hS⟩ := set_into A' (by omega) hb HB 0
    refine (sub_set ao 0 c ao c h d 1 g' c' w _ (by omega) (by omega) hS).mono ?_
    rintro e w' ⟨rfl, hL⟩
    rw [Int.sub_zero]
    exact ⟨_, rfl, hL⟩
  · obtain ⟨g, c, cur, rfl, HA⟩ := full_form A haz
    have hsz := HA.size
    have hcap := HA.cap
    have ea := dig1 (n := a) (by omega) (by omega)
    rw [ea]
    have lo : subLo b a 0 = b - a := by unfold subLo; omega
    have ed := dig1 (n := b - a) (by omega) (by omega)
    refine (sub_11_y g c h d a b w cur HA.row hsz (by omega) (by omega) hd1 a0 (by omega) (by omega) (HA.w0 ea) hbc (by unfold subHi; rw [if_neg (by omega)]) 1 (.inr ⟨by rw [lo]; simp; omega, rfl⟩)).mono ?_
    rintro e w' ⟨rfl, hr, ht⟩
    refine ⟨_, rfl, ⟨⟨by omega, .inr ⟨g, c, _, by rw [ed]; rfl, ⟨hr, by simp; omega, hcap, by rw [ed]; simp; omega, ints_set HA.ints hsz, fun j x hx => ?_⟩⟩⟩, ht.mono (fun k _ e => by rw [e]; rfl), .inl rfl⟩⟩
    rw [ed] at hx
    match j, hx with
    | 0, hx => simp at hx; subst hx; rw [at_set _ _ _ (by omega), lo]

/-- nat.cmp, b of at most one word. -/
theorem nat_cmp {w : World} {v1 v2 : Value} {a b : Int} (A : NatAt w v1 a) (B : NatAt w v2 b) (hb : b < 18446744073709551616) :
    Calls Yba.prog 21 #[v1, v2] w fun e w' => e = .returned (.int .i64 (sgn a b)) ∧ ∃ q, w' = w.drewN q := by
  have a0 := A.1
  have b0 := B.1
  by_cases haz : a = 0
  · subst haz
    obtain ⟨ao, c, rfl, _⟩ := empty_form A
    by_cases hbz : b = 0
    · subst hbz
      obtain ⟨bo, d, rfl, _⟩ := empty_form B
      exact (cmp_00 ao bo c d w).mono fun e w' ⟨h1, h2⟩ => ⟨h1, 0, h2⟩
    · obtain ⟨h, d, curb, rfl, HB⟩ := full_form B hbz
      rw [dig1 (by omega) hb, show sgn 0 b = -1 by unfold sgn; rw [if_pos (by omega)]]
      exact (cmp_len ao _ 0 1 c d w (by omega) (by omega) (by omega)).mono fun e w' ⟨h1, h2⟩ => ⟨h1, 0, h2⟩
  · obtain ⟨g, c, cur, rfl, HA⟩ := full_form A haz
    by_cases hbz : b = 0
    · subst hbz
      obtain ⟨bo, d, rfl, _⟩ := empty_form B
      have hl := dig_pos a0 haz
      have := HA.room
      have := HA.cap
      rw [show sgn a 0 = 1 by unfold sgn; rw [if_neg (by omega), if_neg haz]]
      refine (cmp_len (some ⟨g, 0, none⟩) bo (dig a).length 0 c d w (by omega) (by omega) (by omega)).mono ?_
      rintro e w' ⟨rfl, rfl⟩
      exact ⟨by rw [if_neg (by omega)], 0, rfl⟩
    · obtain ⟨h, d, curb, rfl, HB⟩ := full_form B hbz
      have eb := dig1 (n := b) (by omega) hb
      rw [eb]
      by_cases h1 : a < 18446744073709551616
      · have ea := dig1 (n := a) (by omega) h1
        rw [ea]
        exact cmp_11 g h c d a b w ((HA.row.cell 0).trans (HA.w0 ea)) ((HB.row.cell 0).trans (HB.w0 eb))
      · have ea := dig2 (n := a) (by omega)
        rw [ea, show sgn a b = 1 by unfold sgn; rw [if_neg (by omega), if_neg (by omega)]]
        exact (cmp_len (some ⟨g, 0, none⟩) (some ⟨h, 0, none⟩) 2 1 c d w (by omega) (by omega) (by omega)).mono fun e w' ⟨h1, h2⟩ => ⟨h1, 0, h2⟩
/-- nat.cmp at one number. -/
theorem nat_cmp_eq {w : World} {v1 v2 : Value} {a : Int} (A : NatAt w v1 a) (B : NatAt w v2 a) :
    Calls Yba.prog 21 #[v1, v2] w fun e w' => e = .returned (.int .i64 0) ∧ ∃ q, w' = w.drewN q := by
  by_cases h : a < 18446744073709551616
  · have := nat_cmp A B h
    rwa [show sgn a a = 0 by unfold sgn; rw [if_neg (by omega), if_pos rfl]] at this
  · obtain ⟨g, c, cur, rfl, HA⟩ := full_form A (by omega)
    obtain ⟨g', c', cur', rfl, HB⟩ := full_form B (by omega)
    have ea := dig2 (n := a) (by omega)
    rw [ea]
    exact cmp_22 g g' c c' _ _ w ((HA.row.cell 0).trans (HA.w0 ea)) ((HB.row.cell 0).trans (HB.w0 ea)) ((HA.row.cell 1).trans (HA.w1 ea)) ((HB.row.cell 1).trans (HB.w1 ea))
end Go.Proofs.Ybulkbwco
