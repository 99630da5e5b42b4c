/-
  parallelOps of nothing.
-/
import Derived.Test.YbulkbwdqPar
import Derived.Deep.Upon
namespace Go.Proofs.Ybulkbwdq
open Go.RowKit
set_option linter.unusedVariables false

set_option maxRecDepth 100000 in
set_option maxHeartbeats 4000000 in
theorem par_nil (ao : Option Addr) (cS temp : Nat) (w : World) (lt : temp ≤ 2000) :
    Calls Yba.prog 9 #[.slice ao 0 cS, .int .i32 (temp : Int)] w fun e w' => e = .returned (.slice none 0 0) ∧ Below w.heap.size w w' := by
  obtain ⟨i21, hi21, z210, z211, z212⟩ := info_parts Yba.info21
  obtain ⟨i3, hi3, z30, z31, z32⟩ := info_parts Yba.info3
  cases ao with
  | none =>
    go_enter Yba.func9, Yba.ntmps9
    go_wp2_with (first
      | (at_make; refine wpList_make_full _ rfl _ _ 27 rfl w.heap.size 3 i3 (.int .i64 0) 1 Yba.underlying27 hi3 z30 z31 _ _ _ _ (temp + 1) rfl rfl (by go_num) (by go_num) (by rw [z32]; omega) (by unfold maxLen; omega) (Nat.le_refl _) ?_; intro w2 ho2 hg2))
    have b2 : Below w.heap.size w w2 := (Below.refl _ w).grown hg2 (Nat.le_refl _) (fun j hj => by cases hj)
    clear ho2 hg2
    refine wp_loop_rounds 1 ?_
    rw [rounds_succ]
    go_wp2
    refine wp_loop_rounds 1 ?_
    rw [rounds_succ]
    go_wp2
    refine wp_loop_rounds 1 ?_
    rw [rounds_succ]
    go_wp2
    go_ret
    exact ⟨rfl, b2⟩
  | some ad =>
    go_enter Yba.func9, Yba.ntmps9
    go_wp2_with (first
      | (at_make; refine wpList_make_full _ rfl _ _ 27 rfl w.heap.size 3 i3 (.int .i64 0) 1 Yba.underlying27 hi3 z30 z31 _ _ _ _ (temp + 1) rfl rfl (by go_num) (by go_num) (by rw [z32]; omega) (by unfold maxLen; omega) (Nat.le_refl _) ?_; intro w2 ho2 hg2))
    have b2 : Below w.heap.size w w2 := (Below.refl _ w).grown hg2 (Nat.le_refl _) (fun j hj => by cases hj)
    clear ho2 hg2
    refine wp_loop_rounds 1 ?_
    rw [rounds_succ]
    go_wp2
    refine wp_loop_rounds 1 ?_
    rw [rounds_succ]
    go_wp2
    refine wp_loop_rounds 1 ?_
    rw [rounds_succ]
    go_wp2
    go_ret
    exact ⟨rfl, b2⟩
end Go.Proofs.Ybulkbwdq
