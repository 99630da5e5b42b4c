/-
  nat.cmp and Int.Cmp, walked.
-/
import Derived.Test.YbulkbwhyBc
namespace Go.Proofs.Ybulkbwhy
open Go.RowKit
set_option linter.unusedVariables false

def sg2 (a b : Nat) : Int := if a < b then -1 else if b < a then 1 else 0
theorem val_lt : ∀ (ds : List Nat), (∀ d ∈ ds, d < 18446744073709551616) → val ds < 18446744073709551616 ^ ds.length
  | [], _ => by simp [val]
  | d :: l, h => by
    have h1 := h d (by simp)
    have h2 := val_lt l (fun x hx => h x (by simp [hx]))
    simp only [val, List.length_cons]
    rw [Nat.pow_succ, Nat.mul_comm]
    have : 18446744073709551616 * (val l + 1) ≤ 18446744073709551616 * 18446744073709551616 ^ l.length := Nat.mul_le_mul_left _ h2
    rw [Nat.mul_comm _ (18446744073709551616 ^ l.length)] at this
    rw [Nat.mul_comm (18446744073709551616 ^ l.length)] at this ⊢
    omega
theorem val_ge : ∀ (ds : List Nat), ds ≠ [] → ds.getD (ds.length - 1) 0 ≠ 0 → 18446744073709551616 ^ (ds.length - 1) ≤ val ds
  | [], h, _ => absurd rfl h
  | [d], _, h => by
    simp [List.getD] at h
    simp [val]
    omega
  | d :: e :: l, _, h => by
    have := val_ge (e :: l) (by simp) (by simpa [List.getD] using h)
    simp only [List.length_cons, Nat.add_sub_cancel] at this ⊢
    rw [val, Nat.pow_succ, Nat.mul_comm]
    have h2 := Nat.mul_le_mul_left 18446744073709551616 this
    omega
theorem val_len {a b : List Nat} (ha : ∀ d ∈ a, d < 18446744073709551616) (hb : b ≠ []) (ht : b.getD (b.length - 1) 0 ≠ 0) (h : a.length < b.length) : val a < val b := by
  have h1 := val_lt a ha
  have h2 := val_ge b hb ht
  have h3 : 18446744073709551616 ^ a.length ≤ 18446744073709551616 ^ (b.length - 1) := Nat.pow_le_pow_right (by decide) (by omega)
  omega
theorem val_dig : ∀ (a b : List Nat) (k : Nat), a.length = b.length → (∀ d ∈ a, d < 18446744073709551616) → k < a.length → (∀ j, k < j → j < a.length → a.getD j 0 = b.getD j 0) → a.getD k 0 < b.getD k 0 → val a < val b
  | [], _, k, _, _, hk, _, _ => by simp at hk
  | x :: a, [], k, hl, _, _, _, _ => by simp at hl
  | x :: a, y :: b, 0, hl, hd, hk, hj, h => by
    have e : a = b := by
      apply List.ext_getElem (by simpa using hl)
      intro i h1 h2
      have := hj (i + 1) (by omega) (by simpa using h1)
      simpa [List.getD, h1, h2] using this
    subst e
    simp [List.getD] at h
    simp only [val]
    omega
  | x :: a, y :: b, k + 1, hl, hd, hk, hj, h => by
    have := val_dig a b k (by simpa using hl) (fun d hx => hd d (by simp [hx])) (by simpa using hk) (fun j h1 h2 => by simpa [List.getD] using hj (j + 1) (by omega) (by simpa using h2)) (by simpa [List.getD] using h)
    have hx := hd x (by simp)
    simp only [val]
    have h2 := Nat.mul_le_mul_left 18446744073709551616 this
    omega
theorem list_eq {a b : List Nat} (hl : a.length = b.length) (h : ∀ j, j < a.length → a.getD j 0 = b.getD j 0) : a = b := by
  apply List.ext_getElem hl
  intro i h1 h2
  have := h i h1
  simpa [List.getD, h1, h2] using this
/-- The place at which the loop ends tells the order. -/
theorem sg_dig {a b : List Nat} {k : Nat} (hl : a.length = b.length) (ha : ∀ d ∈ a, d < 18446744073709551616) (hb : ∀ d ∈ b, d < 18446744073709551616) (hk : k < a.length) (hj : ∀ j, k < j → j < a.length → a.getD j 0 = b.getD j 0) (h0 : k = 0 ∨ a.getD k 0 ≠ b.getD k 0) : sg2 (val a) (val b) = sg2 (a.getD k 0) (b.getD k 0) := by
  rcases Nat.lt_trichotomy (a.getD k 0) (b.getD k 0) with h | h | h
  · have := val_dig a b k hl ha hk hj h
    unfold sg2
    rw [if_pos this, if_pos h]
  · rcases h0 with rfl | h0
    · have e := list_eq hl (fun j hj' => by
        rcases Nat.eq_zero_or_pos j with rfl | hp
        · exact h
        · exact hj j hp hj')
      subst e
      simp [sg2]
    · exact absurd h h0
  · have := val_dig b a k hl.symm hb (by omega) (fun j h1 h2 => (hj j h1 (by omega)).symm) h
    unfold sg2
    rw [if_neg (by omega), if_pos this, if_neg (by omega), if_pos h]

set_option maxRecDepth 100000 in
set_option maxHeartbeats 2000000 in
theorem cmp36 (a b : List Nat) (v u : Value) (w : World) (A : NatD w v a) (B : NatD w u b) :
    Calls Yba.prog 36 #[v, u] w fun e w' => e = .returned (.int .i64 (sg2 (val a) (val b))) ∧ ∃ q, w' = w.drewN q := by
  obtain ⟨⟨x, c, rfl, hA⟩, la, da, ta⟩ := A
  obtain ⟨⟨y, d, rfl, hB⟩, lb, db, tb⟩ := B
  rcases Nat.lt_trichotomy a.length b.length with h | h | h
  · have hs : sg2 (val a) (val b) = -1 := by unfold sg2; rw [if_pos (val_len da (fun e => by rw [e] at h; simp at h) (tb (fun e => by rw [e] at h; simp at h)) h)]
    rw [hs]
    clear hA hB da db ta tb hs
    generalize a.length = m at *
    generalize b.length = n at *
    have hne : ((m : Int) != (n : Int)) = true := by simp; omega
    go_enter Yba.func36, Yba.ntmps36
    go_wp2
    go_ret
    exact ⟨rfl, 0, rfl⟩
  · rcases Nat.eq_zero_or_pos a.length with h0 | hp
    · obtain rfl : a = [] := List.eq_nil_of_length_eq_zero h0
      obtain rfl : b = [] := List.eq_nil_of_length_eq_zero (by rw [← h]; rfl)
      have hs : sg2 (val []) (val []) = 0 := rfl
      rw [hs]
      clear hA hB
      go_enter Yba.func36, Yba.ntmps36
      go_wp2
      go_ret
      exact ⟨rfl, 0, rfl⟩
    · obtain ⟨g1, rfl, l1, c1⟩ := hA (fun e => by rw [e] at hp; simp at hp)
      obtain ⟨g2, rfl, l2, c2⟩ := hB (fun e => by rw [e] at h; rw [h] at hp; simp at hp)
      have HS : ∀ k, k < a.length → (∀ j, k < j → j < a.length → a.getD j 0 = b.getD j 0) → (k = 0 ∨ a.getD k 0 ≠ b.getD k 0) → sg2 (val a) (val b) = sg2 (a.getD k 0) (b.getD k 0) := fun k h1 h2 h3 => sg_dig h da db h1 h2 h3
      have HS' : Hid' (∀ k, k < a.length → (∀ j, k < j → j < a.length → a.getD j 0 = b.getD j 0) → (k = 0 ∨ a.getD k 0 ≠ b.getD k 0) → sg2 (val a) (val b) = sg2 (a.getD k 0) (b.getD k 0)) := HS
      have HC : Hid' ((∀ j, j < a.length → w.cell? ⟨g1, j, Option.none⟩ = some (.int .u64 ((a.getD j 0 : Nat) : Int))) ∧ (∀ j, j < a.length → w.cell? ⟨g2, j, Option.none⟩ = some (.int .u64 ((b.getD j 0 : Nat) : Int)))) := ⟨c1, fun j hj => c2 j (by omega)⟩
      obtain ⟨S, HSS⟩ : ∃ S, Hid' (S = sg2 (val a) (val b)) := ⟨_, rfl⟩
      have e1 : S = sg2 (val a) (val b) := HSS
      rw [← h, ← e1]
      obtain ⟨m, Hm⟩ : ∃ m, Hid' (a.length = m + 1) := ⟨a.length - 1, show a.length = _ by omega⟩
      have e2 : a.length = m + 1 := Hm
      have hm : m < 100 := by omega
      rw [e2]
      clear HS c1 c2 da db ta tb hA hB e1 h hp la lb e2
      go_enter Yba.func36, Yba.ntmps36
      go_wp2
      go_loopw [7] (fun i wr => ∃ k q : Nat, k ≤ m ∧ i = .int .i64 k ∧ Hid' (∀ j, k < j → j < a.length → a.getD j 0 = b.getD j 0) ∧ w.drewN q = wr) (fun i _ => (intOf i).toNat)
      case atStart => exact ⟨m, 0, Nat.le_refl _, by go_num, (fun j h1 h2 => by have e2 : a.length = m + 1 := Hm; omega), rfl⟩
      case round =>
        obtain ⟨k, q, hk, rfl, HJ, rfl⟩ := hrel
        have p1 := HC.1 k (by have e2 : a.length = m + 1 := Hm; omega)
        have p2 := HC.2 k (by have e2 : a.length = m + 1 := Hm; omega)
        obtain ⟨A, HA⟩ : ∃ A, Hid' (a.getD k 0 = A) := ⟨_, rfl⟩
        obtain ⟨B, HB⟩ : ∃ B, Hid' (b.getD k 0 = B) := ⟨_, rfl⟩
        rw [show a.getD k 0 = A from HA] at p1
        rw [show b.getD k 0 = B from HB] at p2
        by_cases hcont : 0 < k ∧ A = B
        · obtain ⟨hk0, rfl⟩ := hcont
          obtain ⟨k', rfl⟩ : ∃ k', k = k' + 1 := ⟨k - 1, by omega⟩
          have HJ2 : Hid' (∀ j, k' < j → j < a.length → a.getD j 0 = b.getD j 0) := fun j h1 h2 => by
            by_cases e : j = k' + 1
            · subst e
              have ea : a.getD (k' + 1) 0 = A := HA
              have eb : b.getD (k' + 1) 0 = A := HB
              rw [ea, eb]
            · exact HJ j (by omega) h2
          clear HA HB hk0
          go_wp2
          go_region
          go_wp2
          go_roundw
          case rel => exact ⟨k', q + 1, by omega, by go_num, HJ2, by trivial⟩
          case measure => simp [intOf]
        · have hex : k = 0 ∨ a.getD k 0 ≠ b.getD k 0 := by
            have ea : a.getD k 0 = A := HA
            have eb : b.getD k 0 = B := HB
            rw [ea, eb]
            omega
          have HF : S = sg2 A B := by
            have e1 : S = sg2 (val a) (val b) := HSS
            have ea : a.getD k 0 = A := HA
            have eb : b.getD k 0 = B := HB
            rw [e1, ← ea, ← eb]
            exact HS' k (by have e2 : a.length = m + 1 := Hm; omega) HJ hex
          clear hex HA HB HJ HSS HC HS'
          rcases Nat.eq_zero_or_pos k with rfl | hk0
          · clear hcont
            rcases Nat.lt_trichotomy A B with hAB | hAB | hAB
            · have hS : S = -1 := by rw [HF]; unfold sg2; rw [if_pos hAB]
              subst hS
              clear HF
              go_wp2
              go_region
              go_wp2
              go_region
              go_wp2
              go_ret
              exact ⟨rfl, _, rfl⟩
            · have hS : S = 0 := by rw [HF]; unfold sg2; rw [if_neg (by omega), if_neg (by omega)]
              subst hS
              subst hAB
              clear HF
              go_wp2
              go_region
              go_wp2
              go_region
              go_wp2
              go_region
              go_wp2
              go_ret
              exact ⟨rfl, _, rfl⟩
            · have hS : S = 1 := by rw [HF]; unfold sg2; rw [if_neg (by omega), if_pos hAB]
              subst hS
              clear HF
              go_wp2
              go_region
              go_wp2
              go_region
              go_wp2
              go_region
              go_wp2
              go_ret
              exact ⟨rfl, _, rfl⟩
          · obtain ⟨k', rfl⟩ : ∃ k', k = k' + 1 := ⟨k - 1, by omega⟩
            have hAB' : ((A : Int) == (B : Int)) = false := by simp; omega
            rcases Nat.lt_trichotomy A B with hAB | hAB | hAB
            · have hS : S = -1 := by rw [HF]; unfold sg2; rw [if_pos hAB]
              subst hS
              clear HF hcont hk0
              go_wp2
              go_region
              go_wp2
              go_region
              go_wp2
              go_ret
              exact ⟨rfl, _, rfl⟩
            · exact absurd ⟨hk0, hAB⟩ hcont
            · have hS : S = 1 := by rw [HF]; unfold sg2; rw [if_neg (by omega), if_pos hAB]
              subst hS
              clear HF hcont hk0
              go_wp2
              go_region
              go_wp2
              go_region
              go_wp2
              go_region
              go_wp2
              go_ret
              exact ⟨rfl, _, rfl⟩
  · have hs : sg2 (val a) (val b) = 1 := by
      have := val_len db (fun e => by rw [e] at h; simp at h) (ta (fun e => by rw [e] at h; simp at h)) h
      unfold sg2
      rw [if_neg (by omega), if_pos this]
    rw [hs]
    clear hA hB da db ta tb hs
    generalize a.length = m at *
    generalize b.length = n at *
    have hne : ((m : Int) != (n : Int)) = true := by simp; omega
    go_enter Yba.func36, Yba.ntmps36
    go_wp2
    go_ret
    exact ⟨rfl, 0, rfl⟩
end Go.Proofs.Ybulkbwhy
