/-
  nat.lsh and what it calls, walked: z nil, x of one word at most.
-/
import Derived.Test.YbulkbwhyBi
import Derived.Laws.Twins
import Derived.Laws.CopyRow
import Derived.Lib.SliceRun
import Derived.Laws.BitsAllLaws
import Derived.BigQuiet
namespace Go.Proofs.Ybulkbwhy
open Go.RowKit
set_option linter.unusedVariables false

theorem Yba.info82 : (Yba.prog.info? 82).map (fun i => (i.zero, i.size, i.bytes)) = some (some (.int .u64 0), 1, 8) := by kernel_rfl
/-- A new row of n words. -/
def zrow (n : Nat) : Array Value := Array.replicate n (.int .u64 0)
theorem zrow_made (n : Nat) : madeCells (Value.int .u64 0).cells (n * 1) = zrow n := by
  unfold zrow
  apply Array.ext
  · simp [madeCells]
  · intro j h1 h2
    simp [madeCells, Value.cells, Nat.mod_one]
theorem mk68 (L : Nat) (hL : L ≤ 100) (W : World) : (Instr.makeSlice 68 (.int .i64 (L : Int)) (.int .i64 ((L : Int) + 4))).run Yba.prog W = .ok (.slice (some ⟨W.heap.size, 0, Option.none⟩) L (L + 4)) (W.alloc (.cells (zrow (L + 4)) 82)) := by
  obtain ⟨i, hi, z0, z1, z2⟩ := info_parts Yba.info82
  have := run_make (P := Yba.prog) W 68 82 i (.int .u64 0) Yba.underlying68 hi z0 .i64 .i64 (L : Int) ((L : Int) + 4) (by omega) (by omega) (by rw [z2]; omega) (by omega)
  rw [this, z1, show (((L : Int) + 4).toNat) = L + 4 by omega, Int.toNat_natCast, zrow_made]
theorem divl (n y : Nat) (hy : y ≤ 64) : (n : Int) / 2 ^ min y 64 = ((n / 2 ^ y : Nat) : Int) := by
  rw [Nat.min_eq_left hy]
  simp
theorem wrapl (n y : Nat) (hy : y ≤ 64) : IntKind.u64.wrap ((n : Int) * 2 ^ min y 64) = ((n * 2 ^ y % 18446744073709551616 : Nat) : Int) := by
  rw [Nat.min_eq_left hy, IntKind.wrap_u64]
  simp
theorem and63 (n : Nat) (h : n < 64) : bits .and .u64 (n : Int) 63 = (n : Int) := by
  have e := u64_and_nat n 63 (by omega) (by decide)
  rw [show (63 : Nat) = 2 ^ 6 - 1 by decide, Nat.and_two_pow_sub_one_eq_mod, Nat.mod_eq_of_lt (by omega)] at e
  exact e
set_option maxRecDepth 100000 in
theorem make_more (L : Nat) (h2 : 2 ≤ L) (hL : L ≤ 100) (w : World) :
    Calls Yba.prog 38 #[.slice Option.none 0 0, .int .i64 (L : Int)] w fun e w' => e = .returned (.slice (some ⟨w.heap.size, 0, Option.none⟩) L (L + 4)) ∧ w' = w.alloc (.cells (zrow (L + 4)) 82) := by
  have h := mk68 L hL
  have e1 : ((L : Int) == 1) = false := by simp; omega
  have e2 : ¬ L = 1 := by omega
  go_enter Yba.func38, Yba.ntmps38
  go_wp2
  go_ret
  exact ⟨rfl, rfl⟩
set_option maxRecDepth 100000 in
theorem same44 (a : Option Addr) (l c : Nat) (w : World) : Calls Yba.prog 44 #[.slice Option.none 0 0, .slice a l c] w fun e w' => e = .returned (.bool false) ∧ ∃ q, w' = w.drewN q := by
  rcases Nat.eq_zero_or_pos l with rfl | hl
  · go_enter Yba.func44, Yba.ntmps44
    go_wp2
    go_big_region
    go_wp2
    go_ret
    exact ⟨rfl, _, rfl⟩
  · have e1 : ((0 : Int) == (l : Int)) = false := by simp; omega
    go_enter Yba.func44, Yba.ntmps44
    go_wp2
    go_big_region
    go_wp2
    go_ret
    exact ⟨rfl, _, rfl⟩
set_option maxRecDepth 100000 in
theorem alias45 (a : Option Addr) (l c : Nat) (w : World) : Calls Yba.prog 45 #[.slice Option.none 0 0, .slice a l c] w fun e w' => e = .returned (.bool false) ∧ ∃ q, w' = w.drewN q := by
  go_enter Yba.func45, Yba.ntmps45
  go_wp2
  go_big_region
  go_wp2
  go_ret
  exact ⟨rfl, _, rfl⟩
theorem lshVU_enters (args : Array Value) (w : World) : (callFunc 46 args).run Yba.prog w = .ok (.enter 25 args) w :=
  run_callFunc_twin (twin := Yba.f25.name) Yba.func46 (by kernel_rfl) (by kernel_rfl) (by kernel_rfl) (by kernel_rfl) Yba.func25 (by kernel_rfl) (by kernel_rfl) (by kernel_rfl) args w
set_option maxRecDepth 100000 in
set_option maxHeartbeats 1000000 in
theorem lshVU25 (g k c gx n s : Nat) (w : World) (hs0 : 0 < s) (hs : s < 64) (hx : w.cell? ⟨gx, 0, Option.none⟩ = some (.int .u64 (n : Int))) (u : Value) (hz : w.cell? ⟨g, k, Option.none⟩ = some u) (hf : w.frozen? ⟨g, k, Option.none⟩ = false) :
    Calls Yba.prog 25 #[.slice (some ⟨g, k, Option.none⟩) 1 c, .slice (some ⟨gx, 0, Option.none⟩) 1 1, .int .u64 (s : Int)] w fun e w' => e = .returned (.int .u64 ((n / 2 ^ (64 - s) : Nat) : Int)) ∧ w' = w.setCell ⟨g, k, Option.none⟩ (.int .u64 ((n * 2 ^ s % 18446744073709551616 : Nat) : Int)) := by
  have e1 : ((s : Int) == 0) = false := by simp; omega
  have e2 := and63 s hs
  have e3 : IntKind.u64.wrap (64 - (s : Int)) = ((64 - s : Nat) : Int) := by rw [IntKind.wrap_u64]; omega
  have e4 := and63 (64 - s) (by omega)
  have e5 := divl n (64 - s) (by omega)
  have e6 := wrapl n s (by omega)
  generalize n * 2 ^ s % 18446744073709551616 = lo at *
  generalize n / 2 ^ (64 - s) = hi at *
  generalize 64 - s = r at *
  clear hs hs0
  go_enter Yba.func25, Yba.ntmps25
  go_wp2
  go_loopw [8] (fun i wr => i = .int .i64 0 ∧ w = wr) (fun _ _ => 0)
  case atStart => exact ⟨rfl, rfl⟩
  case round =>
    obtain ⟨rfl, rfl⟩ := hrel
    go_wp2
    go_ret
    exact ⟨rfl, rfl⟩
/-! ### nat.norm -/
set_option maxRecDepth 100000 in
set_option maxHeartbeats 400000 in
theorem norm47 (g n m cap : Nat) (w : World) (hm : m ≤ n) (hn : n ≤ cap) (hc : cap ≤ 1000) (hz : ∀ j, m ≤ j → j < n → w.cell? ⟨g, j, Option.none⟩ = some (.int .u64 0))
    (ht : 0 < m → ∃ t : Int, w.cell? ⟨g, m - 1, Option.none⟩ = some (.int .u64 t) ∧ (t == 0) = false) :
    Calls Yba.prog 47 #[.slice (some ⟨g, 0, Option.none⟩) n cap] w fun e w' => e = .returned (.slice (some ⟨g, 0, Option.none⟩) m cap) ∧ w' = w := by
  go_enter Yba.func47, Yba.ntmps47
  go_wp2
  go_loop [3] (fun i => ∃ k : Nat, m ≤ k ∧ k ≤ n ∧ i = .int .i64 k) (fun i => (intOf i).toNat)
  case atStart => exact ⟨n, hm, Nat.le_refl _, rfl⟩
  case round =>
    obtain ⟨k, h1, h2, rfl⟩ := hrel
    by_cases hk : k = m
    · subst hk
      by_cases h0 : k = 0
      · subst h0
        clear ht hz
        go_wp2
        go_ret
        exact ⟨rfl, rfl⟩
      · obtain ⟨t, ht1, ht2⟩ := ht (by omega)
        obtain ⟨j, rfl⟩ : ∃ j, k = j + 1 := ⟨k - 1, by omega⟩
        rw [Nat.add_sub_cancel] at ht1
        clear ht hz
        go_wp2
        go_ret
        exact ⟨rfl, rfl⟩
    · obtain ⟨j, rfl⟩ : ∃ j, k = j + 1 := ⟨k - 1, by omega⟩
      have hj := hz j (by omega) (by omega)
      clear ht hz
      go_wp2
      go_round
      case rel => exact ⟨j, by omega, by omega, by go_num⟩
      case measure => simp [intOf]
/-! ### nat.set on a nil slice -/
set_option maxRecDepth 100000 in
theorem set39_0 (w : World) : Calls Yba.prog 39 #[.slice Option.none 0 0, .slice Option.none 0 0] w fun e w' => e = .returned (.slice Option.none 0 0) ∧ w' = w := by
  have h := fun W => make_nil W
  have hc : ∀ W : World, (Builtin.copy_ #[68, 68] 3 #[.slice Option.none 0 0, .slice Option.none 0 0]).run Yba.prog W = .ok (.int .i64 0) W := fun W => by kernel_rfl
  go_enter Yba.func39, Yba.ntmps39
  go_wp2_with (first | (go_at_call 38; refine (h _).mono ?_; rintro e w1 ⟨rfl, rfl⟩))
  go_ret
  exact ⟨rfl, rfl⟩
set_option maxRecDepth 100000 in
theorem set39_1 (g n : Nat) (w : World) (hg : w.heap[g]? = some (.cells #[.int .u64 (n : Int)] 82 (0, 0))) : Calls Yba.prog 39 #[.slice Option.none 0 0, .slice (some ⟨g, 0, Option.none⟩) 1 1] w fun e w' => e = .returned (.slice (some ⟨w.heap.size, 0, Option.none⟩) 1 1) ∧ w'.heap[w.heap.size]? = some (.cells #[.int .u64 (n : Int)] 82 (0, 0)) ∧ Below w.heap.size w w' := by
  have h := fun W => make_one W
  have hgl : g < w.heap.size := (Array.getElem?_eq_some_iff.1 hg).1
  have hc := run_copy_row (P := Yba.prog) (w.alloc (.cells #[.int .u64 0] 82)) 68 68 3 82 w.heap.size 0 1 1 ⟨g, 0, Option.none⟩ 1 1 #[.int .u64 0] 82 [.int .u64 (n : Int)] Yba.underlying68 (by kernel_rfl) (heap_new w _) rfl (fun j v hj => by
    match j, hj with
    | 0, hj =>
      simp at hj
      subst hj
      have : (w.alloc (.cells #[.int .u64 0] 82)).heap[g]? = some (.cells #[.int .u64 (n : Int)] 82 (0, 0)) := (Below.heap_alloc _ _ _ hgl).trans hg
      simp [World.cell?, Addr.add, this]) (by simp) (by intro v hv; simp at hv; subst hv; rfl)
  have hE : ((w.alloc (.cells #[.int .u64 0] 82)).setRow w.heap.size #[.int .u64 (n : Int)]).heap[w.heap.size]? = some (.cells #[.int .u64 (n : Int)] 82 (0, 0)) := setRow_heap _ _ _ _ _ _ (heap_new w _)
  have hB : Below w.heap.size w ((w.alloc (.cells #[.int .u64 0] 82)).setRow w.heap.size #[.int .u64 (n : Int)]) := ((Below.refl _ w).alloc (Nat.le_refl _) _).trans ⟨rfl, rfl, rfl, by simp [World.setRow], fun k hk => setRow_other _ _ _ _ (by omega)⟩
  simp [goInt] at hc
  generalize (w.alloc (.cells #[.int .u64 0] 82)).setRow w.heap.size #[.int .u64 (n : Int)] = w3 at *
  go_enter Yba.func39, Yba.ntmps39
  go_wp2_with (first | (go_at_call 38; refine (h _).mono ?_; rintro e w1 ⟨rfl, rfl⟩))
  go_ret
  exact ⟨rfl, hE, hB⟩
end Go.Proofs.Ybulkbwhy
