/-
  nat.set, nat.cmp, nat.add, nat.sub, walked at the sizes that a sum of int64s meets.
-/
import Derived.Test.YbulkbwcoNat
import Derived.Laws.CopyOwn
namespace Go.Proofs.Ybulkbwco
open Go.RowKit
set_option linter.unusedVariables false

/-! ### nat.cmp -/
theorem cmp_len (a b : Option Addr) (m n c d : Nat) (w : World) (h : m ≠ n) (hm : m ≤ 1000) (hn : n ≤ 1000) :
    Calls Yba.prog 21 #[.slice a m c, .slice b n d] w fun e w' => e = .returned (.int .i64 (if m < n then -1 else 1)) ∧ w' = w := by
  have hne : ((m : Int) != (n : Int)) = true := by simp; omega
  by_cases hl : m < n
  · rw [if_pos hl]
    go_enter Yba.func21, Yba.ntmps21
    go_wp2
    go_ret
    exact ⟨rfl, rfl⟩
  · rw [if_neg hl]
    have hg : n < m := by omega
    go_enter Yba.func21, Yba.ntmps21
    go_wp2
    go_ret
    exact ⟨rfl, rfl⟩
theorem cmp_00 (a b : Option Addr) (c d : Nat) (w : World) :
    Calls Yba.prog 21 #[.slice a 0 c, .slice b 0 d] w fun e w' => e = .returned (.int .i64 0) ∧ w' = w := by
  go_enter Yba.func21, Yba.ntmps21
  go_wp2
  go_ret
  exact ⟨rfl, rfl⟩
def sgn (a b : Int) : Int := if a < b then -1 else if a = b then 0 else 1
set_option maxRecDepth 100000 in
set_option maxHeartbeats 400000 in
theorem cmp_11 (g h c d : Nat) (a b : Int) (w : World) (ha : w.cell? ⟨g, 0, none⟩ = some (.int .u64 a)) (hb : w.cell? ⟨h, 0, none⟩ = some (.int .u64 b)) :
    Calls Yba.prog 21 #[.slice (some ⟨g, 0, none⟩) 1 c, .slice (some ⟨h, 0, none⟩) 1 d] w fun e w' => e = .returned (.int .i64 (sgn a b)) ∧ ∃ q, w' = w.drewN q := by
  unfold sgn
  by_cases h1 : a < b
  · rw [if_pos h1]
    go_enter Yba.func21, Yba.ntmps21
    go_wp2
    refine wp_loop_rounds 1 ?_
    rw [rounds_succ]
    go_wp2
    go_quiet (fail)
    go_wp2
    go_quiet (fail)
    go_wp2
    go_ret
    exact ⟨rfl, _, by rw [World.drewN_drewN]⟩
  rw [if_neg h1]
  by_cases h2 : a = b
  · rw [if_pos h2]
    subst h2
    go_enter Yba.func21, Yba.ntmps21
    go_wp2
    refine wp_loop_rounds 1 ?_
    rw [rounds_succ]
    go_wp2
    go_quiet (fail)
    go_wp2
    go_quiet (fail)
    go_wp2
    go_quiet (fail)
    go_wp2
    go_ret
    exact ⟨rfl, _, by rw [World.drewN_drewN, World.drewN_drewN]⟩
  · rw [if_neg h2]
    have h3 : b < a := by omega
    go_enter Yba.func21, Yba.ntmps21
    go_wp2
    refine wp_loop_rounds 1 ?_
    rw [rounds_succ]
    go_wp2
    go_quiet (fail)
    go_wp2
    go_quiet (fail)
    go_wp2
    go_quiet (fail)
    go_wp2
    go_ret
    exact ⟨rfl, _, by rw [World.drewN_drewN, World.drewN_drewN]⟩
set_option maxRecDepth 100000 in
set_option maxHeartbeats 400000 in
theorem cmp_22 (g h c d : Nat) (a0 a1 : Int) (w : World) (ha : w.cell? ⟨g, 0, none⟩ = some (.int .u64 a0)) (hb : w.cell? ⟨h, 0, none⟩ = some (.int .u64 a0)) (ha' : w.cell? ⟨g, 1, none⟩ = some (.int .u64 a1)) (hb' : w.cell? ⟨h, 1, none⟩ = some (.int .u64 a1)) :
    Calls Yba.prog 21 #[.slice (some ⟨g, 0, none⟩) 2 c, .slice (some ⟨h, 0, none⟩) 2 d] w fun e w' => e = .returned (.int .i64 0) ∧ ∃ q, w' = w.drewN q := by
  go_enter Yba.func21, Yba.ntmps21
  go_wp2
  refine wp_loop_rounds 2 ?_
  rw [rounds_succ]
  go_wp2
  go_quiet (fail)
  go_wp2
  rw [rounds_succ]
  go_wp2
  go_quiet (fail)
  go_wp2
  go_quiet (fail)
  go_wp2
  go_quiet (fail)
  go_wp2
  go_ret
  exact ⟨rfl, _, by rw [World.drewN_drewN, World.drewN_drewN, World.drewN_drewN]⟩
end Go.Proofs.Ybulkbwco
