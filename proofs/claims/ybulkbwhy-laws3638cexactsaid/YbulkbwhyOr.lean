/-
  orderNumbers answers as the exact values do.
-/
import Derived.Test.YbulkbwhySd
namespace Go.Proofs.Ybulkbwhy
open Go.RowKit
set_option linter.unusedVariables false
set_option exponentiation.threshold 2000

theorem sgn_swap (a b : Int) : -(sgn a b) = sgn b a := by
  have h1 := sgn_cases a b
  have h2 := sgn_cases b a
  omega
theorem inf_notN {x : Nat} {s : Bool} (h : Ieee.double.read x = .infinity s) : isN x = false := by
  unfold isN fo Ieee.Format.order
  rw [h]
  cases s <;> rfl
theorem inf_ge {x : Nat} {s : Bool} (h : Ieee.double.read x = .infinity s) : geB x = !s ∧ leB x = s := by
  obtain ⟨t, m, r, _⟩ := num_up.read
  obtain ⟨t', m', r', _⟩ := num_dn.read
  unfold geB leB fo Ieee.Format.order
  rw [h, r, r']
  cases s <;> exact ⟨rfl, rfl⟩
/-- orderIntegerAndFloat against the exact values. -/
theorem oif_ans (I : Int) (hI : I.natAbs < 18446744073709551616) {x : Nat} {c T e : Int} (h : FKind x c T e) : oif (decide (I < 0)) I.natAbs x = ans 0 I 0 c T e ∧ (isN x = false → geB x = false → leB x = false → Whole x) := by
  unfold ans
  rcases h with ⟨rfl, hn⟩ | ⟨s, rfl, hr⟩ | ⟨s, m, rfl, hr, rfl, hm, h1, h2⟩
  · refine ⟨?_, fun h => by rw [hn] at h; cases h⟩
    unfold oif
    rw [if_pos hn, if_neg (by omega)]
    rfl
  · obtain ⟨g1, g2⟩ := inf_ge hr
    have hn := inf_notN hr
    cases s
    · refine ⟨?_, fun _ h => by rw [g1] at h; cases h⟩
      unfold oif
      rw [if_neg (by rw [hn]; decide), if_pos (by rw [g1]; rfl), if_neg (by simp)]
      rfl
    · refine ⟨?_, fun _ _ h => by rw [g2] at h; cases h⟩
      unfold oif
      rw [if_neg (by rw [hn]; decide), if_neg (by rw [g1]; decide), if_pos (by rw [g2]), if_neg (by simp)]
      rfl
  · obtain ⟨h3, h4⟩ := oif_num I hI hr hm h1
    rw [if_pos ⟨rfl, rfl⟩]
    exact ⟨h3, fun _ => h4⟩
theorem ans_swap (c1 T1 e1 c2 T2 e2 : Int) (h1 : -1 ≤ c1 ∧ c1 ≤ 2) (h2 : -1 ≤ c2 ∧ c2 ≤ 2) : (-(ans c1 T1 e1 c2 T2 e2).1, (ans c1 T1 e1 c2 T2 e2).2) = ans c2 T2 e2 c1 T1 e1 := by
  unfold ans
  by_cases h : c1 = 0 ∧ c2 = 0
  · rw [if_pos h, if_pos ⟨h.2, h.1⟩]
    simp only [sgn_swap]
  · rw [if_neg h, if_neg (fun h' => h ⟨h'.2, h'.1⟩)]
    unfold ccls
    by_cases h3 : c1 = 2 ∨ c2 = 2
    · rw [if_pos h3, if_pos (show c2 = 2 ∨ c1 = 2 from h3.symm)]
      rfl
    · rw [if_neg h3, if_neg (show ¬ (c2 = 2 ∨ c1 = 2) from fun h' => h3 h'.symm)]
      by_cases h4 : c1 = c2
      · rw [if_pos h4, if_pos (show c2 = c1 from h4.symm)]
        rfl
      · rw [if_neg h4, if_neg (show ¬ c2 = c1 from fun h' => h4 h'.symm)]
        by_cases h5 : c1 < c2
        · rw [if_pos h5, if_neg (by omega)]
          rfl
        · rw [if_neg h5, if_pos (by omega)]
theorem off_ans {x y : Nat} {c1 T1 e1 c2 T2 e2 : Int} (hx : FKind x c1 T1 e1) (hy : FKind y c2 T2 e2) : off x y = ans c1 T1 e1 c2 T2 e2 := by
  unfold off ans
  rcases hx with ⟨rfl, hn⟩ | ⟨s, rfl, hr⟩ | ⟨s, m, rfl, hr, rfl, hm, h1, h2⟩
  · rw [if_pos (.inl hn), if_neg (by omega)]
    rfl
  · rcases hy with ⟨rfl, hn'⟩ | ⟨s', rfl, hr'⟩ | ⟨s', m', rfl, hr', rfl, hm', h1', h2'⟩
    · rw [if_pos (.inr hn'), if_neg (by cases s <;> simp)]
      cases s <;> rfl
    · rw [if_neg (by rw [inf_notN hr, inf_notN hr']; decide), if_neg (by cases s <;> simp)]
      unfold fo Ieee.Format.order
      rw [hr, hr']
      cases s <;> cases s' <;> rfl
    · have hN : Num y (sgd s' m') e2 := ⟨⟨s', m', hr', rfl⟩, h1'⟩
      rw [if_neg (by rw [inf_notN hr, (num_notN hN).1]; decide), if_neg (by cases s <;> simp)]
      unfold fo Ieee.Format.order
      rw [hr, hr']
      cases s <;> rfl
  · have hM : Num x (sgd s m) e1 := ⟨⟨s, m, hr, rfl⟩, h1⟩
    rcases hy with ⟨rfl, hn'⟩ | ⟨s', rfl, hr'⟩ | ⟨s', m', rfl, hr', rfl, hm', h1', h2'⟩
    · rw [if_pos (.inr hn'), if_neg (by omega)]
      rfl
    · rw [if_neg (by rw [inf_notN hr', (num_notN hM).1]; decide), if_neg (by cases s' <;> simp)]
      unfold fo Ieee.Format.order
      rw [hr, hr']
      cases s' <;> rfl
    · have hN : Num y (sgd s' m') e2 := ⟨⟨s', m', hr', rfl⟩, h1'⟩
      rw [if_neg (by rw [(num_notN hM).1, (num_notN hN).1]; decide), if_pos ⟨rfl, rfl⟩, sg_num hM hN]
theorem oi_ans (I J : Int) : oi (decide (I < 0)) I.natAbs (decide (J < 0)) J.natAbs = sgn (N I 0) (N J 0) := by
  rw [oi_sgn]
  unfold N
  rw [sgn_scale]
theorem order_ans {a0 a1 b0 b1 : Bool} {a2 a3 b2 b3 : Nat} {c1 T1 e1 c2 T2 e2 : Int} (h1 : Kind a0 a1 a2 a3 c1 T1 e1) (h2 : Kind b0 b1 b2 b3 c2 T2 e2) (W : World) :
    Calls Yba.prog 8 #[.agg #[.bool a0, .bool a1, .int .u64 (a2 : Int), .float .f64 a3], .agg #[.bool b0, .bool b1, .int .u64 (b2 : Int), .float .f64 b3]] W fun e w' => e = .returned (.tuple #[.int .i64 (ans c1 T1 e1 c2 T2 e2).1, .bool (ans c1 T1 e1 c2 T2 e2).2]) ∧ Below W.heap.size W w' := by
  have k1 := (kind_cls h1).1
  have k2 := (kind_cls h2).1
  rcases h1 with ⟨I, hI, rfl, rfl, rfl, rfl, rfl, rfl, rfl⟩ | ⟨rfl, rfl, rfl, hx⟩
  · rcases h2 with ⟨J, hJ, rfl, rfl, rfl, rfl, rfl, rfl, rfl⟩ | ⟨rfl, rfl, rfl, hy⟩
    · have := on_ee (decide (T1 < 0)) T1.natAbs (decide (T2 < 0)) T2.natAbs W
      rw [oi_ans] at this
      unfold ans
      rw [if_pos ⟨rfl, rfl⟩]
      exact this
    · obtain ⟨h3, h4⟩ := oif_ans T1 hI hy
      have := on_ef (decide (T1 < 0)) T1.natAbs b3 W h4
      rw [h3] at this
      exact this
  · rcases h2 with ⟨J, hJ, rfl, rfl, rfl, rfl, rfl, rfl, rfl⟩ | ⟨rfl, rfl, rfl, hy⟩
    · obtain ⟨h3, h4⟩ := oif_ans T2 hJ hx
      have := on_fe (decide (T2 < 0)) T2.natAbs a3 W h4
      rw [h3] at this
      rw [← ans_swap 0 T2 0 c1 T1 e1 (by omega) k1]
      exact this
    · have := on_ff a3 b3 W
      rw [off_ans hx hy] at this
      exact this
end Go.Proofs.Ybulkbwhy
