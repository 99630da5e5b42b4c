/-
  The two sides of the law.
-/
import Derived.Test.YbulkbwhyEx
namespace Go.Proofs.Ybulkbwhy
open Go.RowKit
set_option linter.unusedVariables false
set_option exponentiation.threshold 2000

/-- A word and its exact value. -/
def FKind (x : Nat) (c T e : Int) : Prop :=
  (c = 2 ∧ isN x = true) ∨ (∃ s : Bool, c = (if s = true then -1 else 1) ∧ Ieee.double.read x = .infinity s) ∨ (∃ s m, c = 0 ∧ Ieee.double.read x = .number s m e ∧ T = sgd s m ∧ m < 9007199254740992 ∧ -1074 ≤ e ∧ e ≤ 971)
def Kind (a0 a1 : Bool) (a2 a3 : Nat) (c T e : Int) : Prop :=
  (∃ I : Int, I.natAbs < 18446744073709551616 ∧ a0 = true ∧ a1 = decide (I < 0) ∧ a2 = I.natAbs ∧ a3 = 0 ∧ c = 0 ∧ T = I ∧ e = 0) ∨ (a0 = false ∧ a1 = false ∧ a2 = 0 ∧ FKind a3 c T e)
structure Side (k u x : Nat) (i : Int) (a0 a1 : Bool) (a2 a3 : Nat) (c T e : Int) : Prop where
  make : ∀ W, Calls Yba.prog 7 #[.int .u8 (k : Int), .int .i64 i, .int .u64 (u : Int), .float .f64 x] W fun e' w' => ∃ v, e' = .returned (.tuple #[.agg #[.bool a0, .bool a1, .int .u64 (a2 : Int), .float .f64 a3], v]) ∧ ValAt w' v c T e ∧ Below W.heap.size W w'
  kind : Kind a0 a1 a2 a3 c T e
theorem sgd_f (m : Nat) : (m : Int) = sgd false m := rfl
theorem sgd_t (m : Nat) : -(m : Int) = sgd true m := rfl
theorem side_ex (k u x : Nat) (i : Int) (hk : k < 256) (hu : u < 18446744073709551616) (hx : x < 18446744073709551616) (h0 : -9223372036854775808 ≤ i) (h1 : i ≤ 9223372036854775807) : ∃ a0 a1 a2 a3 c T e, Side k u x i a0 a1 a2 a3 c T e := by
  rcases (show k % 3 = 0 ∨ k % 3 = 1 ∨ k % 3 = 2 by omega) with h3 | h3 | h3
  · exact ⟨true, decide (i < 0), i.natAbs, 0, 0, i, 0, fun W => make0 k hk h3 i h0 h1 u x W, .inl ⟨i, by omega, rfl, rfl, rfl, rfl, rfl, rfl, rfl⟩⟩
  · exact ⟨true, false, u, 0, 0, (u : Int), 0, fun W => make1 k hk h3 i u x hu W, .inl ⟨(u : Int), by simpa using hu, rfl, (decide_eq_false (by omega)).symm, by simp, rfl, rfl, rfl, rfl⟩⟩
  · obtain ⟨ng, ex, fr, F⟩ := fld_ex x hx
    have hr := read_fld F
    have hn := F.n
    have hf := F.f
    by_cases he : ex = 2047
    · subst he
      rw [if_pos rfl] at hr
      refine ⟨false, false, 0, x, _, 0, 0, fun W => make2c k hk h3 i u x ng fr F W, .inr ⟨rfl, rfl, rfl, ?_⟩⟩
      by_cases h4 : fr = 0
      · rw [if_pos h4] at hr ⊢
        refine .inr (.inl ⟨(ng == 1), ?_, hr⟩)
        by_cases h5 : ng = 1
        · simp [h5]
        · simp [h5]
      · rw [if_neg h4] at hr ⊢
        refine .inl ⟨rfl, ?_⟩
        unfold isN fo Ieee.Format.order
        rw [hr]
        rfl
    · rw [if_neg he] at hr
      rcases (show ng = 0 ∨ ng = 1 by omega) with rfl | rfl
      · by_cases h4 : ex = 0
        · subst h4
          rw [if_pos rfl] at hr
          exact ⟨false, false, 0, x, _, _, _, fun W => make2sp k hk h3 i u x fr F W, .inr ⟨rfl, rfl, rfl, .inr (.inr ⟨false, fr, rfl, hr, sgd_f fr, by omega, by omega, by omega⟩)⟩⟩
        · rw [if_neg h4] at hr
          have := F.e
          exact ⟨false, false, 0, x, _, _, _, fun W => make2np k hk h3 i u x fr ex (by omega) (by omega) F W, .inr ⟨rfl, rfl, rfl, .inr (.inr ⟨false, fr + 4503599627370496, rfl, hr, sgd_f _, by omega, by omega, by omega⟩)⟩⟩
      · by_cases h4 : ex = 0
        · subst h4
          rw [if_pos rfl] at hr
          exact ⟨false, false, 0, x, _, _, _, fun W => make2sm k hk h3 i u x fr F W, .inr ⟨rfl, rfl, rfl, .inr (.inr ⟨true, fr, rfl, hr, sgd_t fr, by omega, by omega, by omega⟩)⟩⟩
        · rw [if_neg h4] at hr
          have := F.e
          exact ⟨false, false, 0, x, _, _, _, fun W => make2nm k hk h3 i u x fr ex (by omega) (by omega) F W, .inr ⟨rfl, rfl, rfl, .inr (.inr ⟨true, fr + 4503599627370496, rfl, hr, sgd_t _, by omega, by omega, by omega⟩)⟩⟩
/-- What both must answer. -/
def ans (c1 T1 e1 c2 T2 e2 : Int) : Int × Bool := if c1 = 0 ∧ c2 = 0 then (sgn (N T1 e1) (N T2 e2), true) else ccls c1 c2
theorem kind_cls {a0 a1 : Bool} {a2 a3 : Nat} {c T e : Int} (h : Kind a0 a1 a2 a3 c T e) : (-1 ≤ c ∧ c ≤ 2) ∧ (c = 0 → -1074 ≤ e ∧ e ≤ 971) := by
  rcases h with ⟨I, _, _, _, _, _, rfl, _, rfl⟩ | ⟨_, _, _, h⟩
  · omega
  · rcases h with ⟨rfl, _⟩ | ⟨s, rfl, _⟩ | ⟨s, m, rfl, _, _, _, h1, h2⟩
    · omega
    · cases s <;> simp
    · omega
theorem ccmp_ans {a0 a1 b0 b1 : Bool} {a2 a3 b2 b3 : Nat} {c1 T1 e1 c2 T2 e2 : Int} (h1 : Kind a0 a1 a2 a3 c1 T1 e1) (h2 : Kind b0 b1 b2 b3 c2 T2 e2) (W : World) (v u : Value) (hv : ValAt W v c1 T1 e1) (hu : ValAt W u c2 T2 e2) :
    Calls Yba.prog 9 #[v, u] W fun e w' => e = .returned (.tuple #[.int .i64 (ans c1 T1 e1 c2 T2 e2).1, .bool (ans c1 T1 e1 c2 T2 e2).2]) ∧ Below W.heap.size W w' := by
  obtain ⟨k1, k1'⟩ := kind_cls h1
  obtain ⟨k2, k2'⟩ := kind_cls h2
  obtain ⟨p, rfl, hp⟩ := hv.shape
  obtain ⟨q, rfl, hq⟩ := hu.shape
  unfold ans
  by_cases hc : c1 = 0 ∧ c2 = 0
  · obtain ⟨rfl, rfl⟩ := hc
    rw [if_pos ⟨rfl, rfl⟩]
    obtain ⟨q1, rfl, I1⟩ := hp rfl
    obtain ⟨q2, rfl, I2⟩ := hq rfl
    have r1 := k1' rfl
    have r2 := k2' rfl
    have := ccmp_num e1 e2 T1 T2 q1 q2 (e1 - min e1 e2).toNat (e2 - min e1 e2).toNat (by omega) (by omega) (by omega) (by omega) W I1 I2
    rw [cmpI_N, sgn_N _ _ _ _ r1.1 r2.1] at this
    exact this
  · rw [if_neg hc]
    exact ccmp_cls c1 c2 e1 e2 p q k1 k2 hc W
end Go.Proofs.Ybulkbwhy
