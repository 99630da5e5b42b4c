/-
  math/big's nat at one word, walked.
-/
import Derived.Test.YbulkbwcoBits
import Derived.RegionTactic
import Derived.ChangeAlike
import Derived.Deep.QuietTactic
import Derived.BigQuiet
import Derived.Deep.RegionHeld3
namespace Go.Proofs.Ybulkbwco
open Go.RowKit
set_option linter.unusedVariables false

set_option maxRecDepth 100000 in
set_option maxHeartbeats 400000 in
/-- addVV at one word. -/
theorem addVV1 (gz oz cz gx ox cx gy oy cy : Nat) (a b : Int) (v0 : Int) (w : World) (ha : 0 ≤ a) (hb : 0 ≤ b)
    (hx : w.cell? ⟨gx, ox, none⟩ = some (.int .u64 a)) (hy : w.cell? ⟨gy, oy, none⟩ = some (.int .u64 b)) (hz : w.cell? ⟨gz, oz, none⟩ = some (.int .u64 v0)) (fz : w.frozen? ⟨gz, oz, none⟩ = false) :
    Calls Yba.prog 15 #[.slice (some ⟨gz, oz, none⟩) 1 cz, .slice (some ⟨gx, ox, none⟩) 1 cx, .slice (some ⟨gy, oy, none⟩) 1 cy] w fun e w' => e = .returned (.int .u64 (addHi a b 0)) ∧ ∃ q, w' = (w.setCell ⟨gz, oz, none⟩ (.int .u64 (addLo a b 0))).drewN q := by
  have hA := fun W => add41 a b 0 ha hb (Int.le_refl 0) (by decide) W
  generalize addLo a b 0 = lo at hA ⊢
  generalize addHi a b 0 = hi at hA ⊢
  go_enter Yba.func15, Yba.ntmps15
  go_wp2
  refine wp_loop_rounds 2 ?_
  rw [rounds_succ]
  go_wp2
  go_quiet ((go_at_call 41; exact Calls.quiet_of_same (hA _)))
  go_wp2
  rw [rounds_succ]
  go_wp2
  go_ret
  exact ⟨rfl, _, rfl⟩

set_option maxRecDepth 100000 in
set_option maxHeartbeats 400000 in
/-- subVV at one word. -/
theorem subVV1 (gz oz cz gx ox cx gy oy cy : Nat) (a b : Int) (v0 : Int) (w : World) (ha : 0 ≤ a) (hb : 0 ≤ b) (hb' : b < 18446744073709551616)
    (hx : w.cell? ⟨gx, ox, none⟩ = some (.int .u64 a)) (hy : w.cell? ⟨gy, oy, none⟩ = some (.int .u64 b)) (hz : w.cell? ⟨gz, oz, none⟩ = some (.int .u64 v0)) (fz : w.frozen? ⟨gz, oz, none⟩ = false) :
    Calls Yba.prog 16 #[.slice (some ⟨gz, oz, none⟩) 1 cz, .slice (some ⟨gx, ox, none⟩) 1 cx, .slice (some ⟨gy, oy, none⟩) 1 cy] w fun e w' => e = .returned (.int .u64 (subHi a b 0)) ∧ ∃ q, w' = (w.setCell ⟨gz, oz, none⟩ (.int .u64 (subLo a b 0))).drewN q := by
  have hA := fun W => sub44 a b 0 ha hb hb' (Int.le_refl 0) (by decide) W
  clear hb'
  generalize subLo a b 0 = lo at hA ⊢
  generalize subHi a b 0 = hi at hA ⊢
  go_enter Yba.func16, Yba.ntmps16
  go_wp2
  refine wp_loop_rounds 2 ?_
  rw [rounds_succ]
  go_wp2
  go_quiet ((go_at_call 44; exact Calls.quiet_of_same (hA _)))
  go_wp2
  rw [rounds_succ]
  go_wp2
  go_ret
  exact ⟨rfl, _, rfl⟩

/-! ### nat.make -/
theorem make_fit (ao : Option Addr) (len cap n : Nat) (w : World) (h : n ≤ cap) (hc : cap ≤ 1000) :
    Calls Yba.prog 37 #[.slice ao len cap, .int .i64 n] w fun e w' => e = .returned (.slice ao n cap) ∧ w' = w := by
  go_enter Yba.func37, Yba.ntmps37
  go_wp2
  go_ret
  exact ⟨rfl, rfl⟩
theorem made1 (w : World) : Sem.run Yba.prog (Instr.makeSlice 36 (.int .i64 1) (.int .i64 1)) w = .ok (.slice (some ⟨w.heap.size, 0, none⟩) 1 1) (w.alloc (.cells #[.int .u64 0] 67)) := by kernel_rfl
theorem made2 (w : World) : Sem.run Yba.prog (Instr.makeSlice 36 (.int .i64 2) (.int .i64 6)) w = .ok (.slice (some ⟨w.heap.size, 0, none⟩) 2 6) (w.alloc (.cells #[.int .u64 0, .int .u64 0, .int .u64 0, .int .u64 0, .int .u64 0, .int .u64 0] 67)) := by kernel_rfl
theorem made3 (w : World) : Sem.run Yba.prog (Instr.makeSlice 36 (.int .i64 3) (.int .i64 7)) w = .ok (.slice (some ⟨w.heap.size, 0, none⟩) 3 7) (w.alloc (.cells #[.int .u64 0, .int .u64 0, .int .u64 0, .int .u64 0, .int .u64 0, .int .u64 0, .int .u64 0] 67)) := by kernel_rfl
theorem make_one (ao : Option Addr) (len : Nat) (w : World) :
    Calls Yba.prog 37 #[.slice ao len 0, .int .i64 1] w fun e w' => e = .returned (.slice (some ⟨w.heap.size, 0, none⟩) 1 1) ∧ w' = w.alloc (.cells #[.int .u64 0] 67) := by
  have h := made1
  go_enter Yba.func37, Yba.ntmps37
  go_wp2
  go_ret
  exact ⟨rfl, rfl⟩
theorem make_two (ao : Option Addr) (len cap : Nat) (w : World) (h : cap < 2) :
    Calls Yba.prog 37 #[.slice ao len cap, .int .i64 2] w fun e w' => e = .returned (.slice (some ⟨w.heap.size, 0, none⟩) 2 6) ∧ w' = w.alloc (.cells #[.int .u64 0, .int .u64 0, .int .u64 0, .int .u64 0, .int .u64 0, .int .u64 0] 67) := by
  have h2 := made2
  go_enter Yba.func37, Yba.ntmps37
  go_wp2
  go_ret
  exact ⟨rfl, rfl⟩
theorem make_three (ao : Option Addr) (len cap : Nat) (w : World) (h : cap < 3) :
    Calls Yba.prog 37 #[.slice ao len cap, .int .i64 3] w fun e w' => e = .returned (.slice (some ⟨w.heap.size, 0, none⟩) 3 7) ∧ w' = w.alloc (.cells #[.int .u64 0, .int .u64 0, .int .u64 0, .int .u64 0, .int .u64 0, .int .u64 0, .int .u64 0] 67) := by
  have h2 := made3
  go_enter Yba.func37, Yba.ntmps37
  go_wp2
  go_ret
  exact ⟨rfl, rfl⟩

/-! ### nat.norm -/
set_option maxRecDepth 100000 in
set_option maxHeartbeats 400000 in
theorem norm_any (g n m cap : Nat) (w : World) (hm : m ≤ n) (hn : n ≤ cap) (hc : cap ≤ 1000) (hz : ∀ j, m ≤ j → j < n → w.cell? ⟨g, j, none⟩ = some (.int .u64 0))
    (ht : 0 < m → ∃ t : Int, w.cell? ⟨g, m - 1, none⟩ = some (.int .u64 t) ∧ (t == 0) = false) :
    Calls Yba.prog 40 #[.slice (some ⟨g, 0, none⟩) n cap] w fun e w' => e = .returned (.slice (some ⟨g, 0, none⟩) m cap) ∧ w' = w := by
  go_enter Yba.func40, Yba.ntmps40
  go_wp2
  go_loop [3] (fun i => ∃ k : Nat, m ≤ k ∧ k ≤ n ∧ i = .int .i64 k) (fun i => (intOf i).toNat)
  case atStart => exact ⟨n, hm, Nat.le_refl _, rfl⟩
  case round =>
    obtain ⟨k, h1, h2, rfl⟩ := hrel
    by_cases hk : k = m
    · subst hk
      by_cases h0 : k = 0
      · subst h0
        clear ht hz
        go_wp2
        go_ret
        exact ⟨rfl, rfl⟩
      · obtain ⟨t, ht1, ht2⟩ := ht (by omega)
        obtain ⟨j, rfl⟩ : ∃ j, k = j + 1 := ⟨k - 1, by omega⟩
        rw [Nat.add_sub_cancel] at ht1
        clear ht hz
        go_wp2
        go_ret
        exact ⟨rfl, rfl⟩
    · obtain ⟨j, rfl⟩ : ∃ j, k = j + 1 := ⟨k - 1, by omega⟩
      have hj := hz j (by omega) (by omega)
      clear ht hz
      go_wp2
      go_round
      case rel => exact ⟨j, by omega, by omega, by go_num⟩
      case measure => simp [intOf]

/-- '&z[0] != &x[0]' at one address. -/
theorem equalIn_self (d : Nat) (a : Addr) (w : World) : Sem.run Yba.prog (Op.equalIn (d + 1) 97 (.pointer (some a)) (.pointer (some a))) w = .ok true w := by
  have h : Yba.prog.underlying 97 = some (.pointer 67) := by kernel_rfl
  have hz : ∀ w, (Go.sizeOf 67).run Yba.prog w = .ok 1 w := fun w => by kernel_rfl
  simp [Op.equalIn, run_underlying h, hz, sameAddr]
theorem equal_self (a : Addr) (w : World) : Sem.run Yba.prog (Op.equal 97 (.pointer (some a)) (.pointer (some a))) w = .ok true w := equalIn_self 9999 a w
theorem neq_self (a : Addr) (w : World) : Sem.run Yba.prog (binOp .neq 97 (.pointer (some a)) (.pointer (some a))) w = .ok (.bool false) w := by
  simp only [binOp]
  simp [equal_self]

set_option maxRecDepth 100000 in
set_option maxHeartbeats 400000 in
/-- addVW at one word, in place, no carry out. -/
theorem addVW1_same (g o cz cx : Nat) (a c : Int) (w : World) (ha : 0 ≤ a) (hc0 : 0 ≤ c) (hc1 : c ≤ 1) (hh : addHi a c 0 = 0)
    (hx : w.cell? ⟨g, o, none⟩ = some (.int .u64 a)) (fz : w.frozen? ⟨g, o, none⟩ = false) :
    Calls Yba.prog 39 #[.slice (some ⟨g, o, none⟩) 1 cz, .slice (some ⟨g, o, none⟩) 1 cx, .int .u64 c] w fun e w' => e = .returned (.int .u64 0) ∧ ∃ q, w' = (w.setCell ⟨g, o, none⟩ (.int .u64 (addLo a c 0))).drewN q := by
  have hA := fun W => add41 a c 0 ha hc0 (Int.le_refl 0) (by decide) W
  rw [hh] at hA
  clear hh
  have hs := neq_self ⟨g, o, none⟩
  generalize addLo a c 0 = lo at hA ⊢
  go_enter Yba.func39, Yba.ntmps39
  go_wp2_with (go_at_call 41; refine (hA _).mono ?_; rintro e w' ⟨rfl, rfl⟩)
  go_quiet (fail)
  go_wp2
  go_ret
  exact ⟨rfl, _, rfl⟩

set_option maxRecDepth 100000 in
set_option maxHeartbeats 400000 in
/-- subVW at one word, in place, no carry out. -/
theorem subVW1_same (g o cz cx : Nat) (a c : Int) (w : World) (ha : 0 ≤ a) (hc0 : 0 ≤ c) (hc1 : c ≤ 1) (hh : subHi a c 0 = 0)
    (hx : w.cell? ⟨g, o, none⟩ = some (.int .u64 a)) (fz : w.frozen? ⟨g, o, none⟩ = false) :
    Calls Yba.prog 43 #[.slice (some ⟨g, o, none⟩) 1 cz, .slice (some ⟨g, o, none⟩) 1 cx, .int .u64 c] w fun e w' => e = .returned (.int .u64 0) ∧ ∃ q, w' = (w.setCell ⟨g, o, none⟩ (.int .u64 (subLo a c 0))).drewN q := by
  have hA := fun W => sub44 a c 0 ha hc0 (by omega) (Int.le_refl 0) (by decide) W
  rw [hh] at hA
  clear hh
  have hs := neq_self ⟨g, o, none⟩
  generalize subLo a c 0 = lo at hA ⊢
  go_enter Yba.func43, Yba.ntmps43
  go_wp2_with (go_at_call 44; refine (hA _).mono ?_; rintro e w' ⟨rfl, rfl⟩)
  go_quiet (fail)
  go_wp2
  go_ret
  exact ⟨rfl, _, rfl⟩
end Go.Proofs.Ybulkbwco
