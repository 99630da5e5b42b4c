/-
  parallelOps at an owned slice.
-/
import Derived.Test.YbulkbwdqPar0
import Derived.Test.YbulkbwdqNumMem
namespace Go.Proofs.Ybulkbwdq
open Go.RowKit
set_option linter.unusedVariables false

theorem row_shape {w : World} {base e s n : Nat} {v : Value} {xs : List Value} (h : w.ownsRow base e s v n xs) : ∃ a c, v = .slice a n c := by
  rcases h.2 with ⟨rfl, h0⟩ | ⟨g, cap, cur, rfl, _⟩
  · exact ⟨none, 0, by rw [h0]⟩
  · exact ⟨_, _, rfl⟩
theorem par_all (base : Nat) (aS : Option Addr) (cS temp nr : Nat) (src : List Int) (w : World) (hrow : w.ownsRow base 21 1 (.slice aS src.length cS) src.length (src.map (Value.int .i32))) (le : src.length ≤ temp) (hnt : nr ≤ temp) (lt : temp ≤ 2000) (hv : ∀ x ∈ src, Valid nr x) :
    Calls Yba.prog 9 #[.slice aS src.length cS, .int .i32 (temp : Int)] w fun e w' => ∃ (aO : Option Addr) (cO : Nat) (ops : List (Int × Int)), e = .returned (.slice aO ops.length cO) ∧ Fina src.length temp src.length src ops ∧ w'.ownsRow w.heap.size 42 2 (.slice aO ops.length cO) ops.length (flat ops) ∧ Below w.heap.size w w' := by
  rcases Nat.eq_zero_or_pos src.length with h0 | hp
  · have hs : src = [] := List.eq_nil_of_length_eq_zero h0
    subst hs
    refine (par_nil aS cS temp w lt).mono ?_
    rintro e w' ⟨rfl, hb⟩
    refine ⟨none, 0, [], rfl, ⟨fun f0 r h1 h2 => by simp at h2; omega, fun f0 r h1 h2 => by simp at h2; omega, fun op hop => by simp at hop, by simp⟩, World.ownsRow_nil _ _ _ _, hb⟩
  · obtain ⟨g, rfl, hg⟩ := row_form hrow hp
    refine (par_any g 0 cS src.length temp src w rfl hp le lt (hrow.lt g rfl).2 (fun j hj => by
      rw [Nat.zero_add, hrow.cellAt j (by omega)]
      simp [List.getD, hj]) (fun r h1 h2 => ?_)).mono ?_
    · have hm : at_ src r ∈ src := by
        unfold at_
        simp [List.getD, show r.toNat < src.length by omega]
      rcases hv _ hm with h | h <;> omega
    · rintro e w' ⟨vO, ops, rfl, hF, hO, hb⟩
      obtain ⟨a, c, rfl⟩ := row_shape hO
      exact ⟨a, c, ops, rfl, hF, hO, hb⟩
end Go.Proofs.Ybulkbwdq
