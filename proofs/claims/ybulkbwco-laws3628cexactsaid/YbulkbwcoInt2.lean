/-
  math/big's Int: Add where the signs differ; Cmp.
-/
import Derived.Test.YbulkbwcoInt
namespace Go.Proofs.Ybulkbwco
open Go.RowKit
set_option linter.unusedVariables false

theorem diff_pos {T Y : Int} (hs : decide (Y < 0) = !decide (T < 0)) (hc : mag Y ≤ mag T) : 0 < mag T := by
  unfold mag at *
  by_cases h : T < 0
  · rw [if_pos h]; omega
  · have h2 : Y < 0 := by rw [decide_eq_false h] at hs; exact of_decide_eq_true hs
    rw [if_pos h2, if_neg h] at hc
    rw [if_neg h]; omega
theorem sum_diff_x {T Y : Int} {sg : Bool} (h1 : decide (T < 0) = sg) (h2 : decide (Y < 0) = !sg) (hc : mag Y ≤ mag T) : mag (T + Y) = mag T - mag Y ∧ (mag T - mag Y ≠ 0 → decide (T + Y < 0) = sg) ∧ (¬ mag T - mag Y ≠ 0 → decide (T + Y < 0) = false) := by
  cases sg
  · have a := of_decide_eq_false h1
    have b := of_decide_eq_true h2
    unfold mag at *
    rw [if_neg a] at *; rw [if_pos b] at *; rw [if_neg (by omega)]
    exact ⟨by omega, fun _ => decide_eq_false (by omega), fun _ => decide_eq_false (by omega)⟩
  · have a := of_decide_eq_true h1
    have b := of_decide_eq_false h2
    unfold mag at *
    rw [if_pos a] at *; rw [if_neg b] at *
    by_cases e : T + Y < 0
    · rw [if_pos e]; exact ⟨by omega, fun _ => decide_eq_true e, fun h => absurd (by omega) h⟩
    · rw [if_neg e]; exact ⟨by omega, fun h => absurd (by omega) h, fun _ => decide_eq_false e⟩
theorem sum_diff_y {T Y : Int} {sg : Bool} (h1 : decide (T < 0) = sg) (h2 : decide (Y < 0) = !sg) (hc : mag T < mag Y) : mag (T + Y) = mag Y - mag T ∧ (mag Y - mag T ≠ 0 → decide (T + Y < 0) = !sg) ∧ (¬ mag Y - mag T ≠ 0 → decide (T + Y < 0) = false) := by
  cases sg
  · have a := of_decide_eq_false h1
    have b := of_decide_eq_true h2
    unfold mag at *
    rw [if_neg a] at *; rw [if_pos b] at *; rw [if_pos (by omega)]
    exact ⟨by omega, fun _ => decide_eq_true (by omega), fun h => absurd (by omega) h⟩
  · have a := of_decide_eq_true h1
    have b := of_decide_eq_false h2
    unfold mag at *
    rw [if_pos a] at *; rw [if_neg b] at *; rw [if_neg (by omega)]
    exact ⟨by omega, fun _ => decide_eq_false (by omega), fun h => absurd (by omega) h⟩

set_option maxRecDepth 100000 in
set_option maxHeartbeats 2000000 in
theorem add_diff_x (p1 p2 : Nat) (v1 v2 : Value) (T Y : Int) (w : World) (A : IntIs w p1 v1 T) (B : IntIs w p2 v2 Y) (hs : decide (Y < 0) = !decide (T < 0)) (hc : mag Y ≤ mag T) (hp : p1 ≠ p2) (hT : mag T < 170141183460469231731687303715884105728) (hY : mag Y < 18446744073709551616) (hne : v1.ownBlock = none ∨ v1.ownBlock ≠ v2.ownBlock) :
    Calls Yba.prog 11 #[.pointer (some ⟨p1, 0, none⟩), .pointer (some ⟨p1, 0, none⟩), .pointer (some ⟨p2, 0, none⟩)] w fun e w' => e = .returned (.pointer (some ⟨p1, 0, none⟩)) ∧ ∃ v', Sum1 w w' p1 v1 v' (T + Y) := by
  have cA : ∀ W, Turned w W (fun _ => False) → Calls Yba.prog 23 #[v1, v1, v2] W fun e w' => ∃ v', e = .returned v' ∧ Left1 W w' v1 v' (mag T - mag Y) := fun W ht => nat_sub_x (A.turned ht (fun h => h) (fun _ _ h => h)).nat (B.turned ht (fun h => h) (fun _ _ h => h)).nat (diff_pos hs hc) hT hY hc hne
  have cC : ∀ W, Turned w W (fun _ => False) → Calls Yba.prog 21 #[v1, v2] W fun e w' => e = .returned (.int .i64 (sgn (mag T) (mag Y))) ∧ ∃ q, w' = W.drewN q := fun W ht => nat_cmp (A.turned ht (fun h => h) (fun _ _ h => h)).nat (B.turned ht (fun h => h) (fun _ _ h => h)).nat hY
  have hsg0 : 0 ≤ sgn (mag T) (mag Y) := by unfold sgn; rw [if_neg (by omega)]; split <;> omega
  generalize sgn (mag T) (mag Y) = cm at cC hsg0
  obtain ⟨ao, l, c, rfl⟩ := slice_form A.nat
  obtain ⟨bo, m, d, rfl⟩ := slice_form B.nat
  have x1 := A.apart A.nat
  have x2 := B.apart A.nat
  have a0 := A.c0
  have b0 := B.c0
  rw [hs] at b0
  have HC : Hid (mag Y ≤ mag T) := hc
  clear hT hY hc
  obtain ⟨sg, hsg⟩ : ∃ sg, decide (T < 0) = sg := ⟨_, rfl⟩
  rw [hsg] at a0 b0 hs
  have HS : Hid (decide (T < 0) = sg ∧ decide (Y < 0) = !sg) := ⟨hsg, hs⟩
  have hq : (sg == !sg) = false := by cases sg <;> rfl
  clear hs hsg
  obtain ⟨r, hr⟩ : ∃ r, mag T - mag Y = r := ⟨_, rfl⟩
  rw [hr] at cA
  have HR : Hid (mag T - mag Y = r) := hr
  clear hr
  go_enter Yba.func11, Yba.ntmps11
  go_wp2
  go_quiet (fail)
  have tq := Turned.drawn w nq (fun _ => False)
  have A1 := A.turned tq (fun h => h) (fun _ _ h => h)
  have B1 := B.turned tq (fun h => h) (fun _ _ h => h)
  generalize w.drewN nq = wq at tq A1 B1 ⊢
  have a1 := A1.c1
  have b1 := B1.c1
  clear a0 b0
  go_wp2
  go_quiet ((go_at_call 21; refine (cC _ (tq.drewN _)).mono ?_; rintro e w2 ⟨rfl, q2, rfl⟩; exact ⟨rfl, _, by rw [World.drewN_drewN]⟩))
  have tq2 := tq.drewN nq
  have A2 := A.turned tq2 (fun h => h) (fun _ _ h => h)
  have B2 := B.turned tq2 (fun h => h) (fun _ _ h => h)
  clear a1 b1 tq A1 B1 cC
  generalize wq.drewN nq = wp at tq2 A2 B2 ⊢
  have a1 := A2.c1
  have b1 := B2.c1
  go_wp2
  go_region_with ((go_at_call 23; refine (cA _ ?_).mono ?_; exact tq2.drewN 1; rintro e w3 ⟨v3, rfl, L3⟩; obtain ⟨ao3, l3, c3, rfl⟩ := slice_form L3.nat; obtain ⟨K3, K4, F3, K5, F5⟩ := keep3 A2 HS.out.1 B2 x1 x2 L3))
  all_goals
    have HL : Hid (0 < l3 ↔ r ≠ 0) := len_pos L3.nat
    have FN : ∀ s, decide (T + Y < 0) = s → Sum1 w ((w3.setCell ⟨p1, 1, none⟩ (.slice ao3 l3 c3)).setCell ⟨p1, 0, none⟩ (.bool s)) p1 (.slice ao l c) (.slice ao3 l3 c3) (T + Y) := fun s hs => fin3 tq2 A2 x1 L3 ((sum_diff_x HS.out.1 HS.out.2 HC.out).1.trans HR.out) hs
    clear cA A2 B2 L3 A B x1 x2
    by_cases hl3 : 0 < l3
    · have hd : decide (T + Y < 0) = sg := (sum_diff_x HS.out.1 HS.out.2 HC.out).2.1 (by rw [HR.out]; exact HL.out.1 hl3)
      have F1 := FN sg hd
      clear FN hd
      go_wp2
      go_ret
      exact ⟨rfl, _, F1⟩
    · have hd : decide (T + Y < 0) = false := (sum_diff_x HS.out.1 HS.out.2 HC.out).2.2 (by rw [HR.out]; exact fun h => hl3 (HL.out.2 h))
      have F1 := FN false hd
      clear FN hd
      go_wp2
      go_ret
      exact ⟨rfl, _, F1⟩
end Go.Proofs.Ybulkbwco
