/-
  big.Int: NewInt, SetUint64, Neg, walked: numbers of one word.
-/
import Derived.Test.YbulkbwhyRows
import Derived.WalkKit
namespace Go.Proofs.Ybulkbwhy
open Go.RowKit
set_option linter.unusedVariables false

/-- The slice v holds the number n, of one word at most. -/
def Nat1 (w : World) (v : Value) (n : Nat) : Prop := (n = 0 ∧ v = .slice Option.none 0 0) ∨ (0 < n ∧ n < 18446744073709551616 ∧ ∃ g, v = .slice (some ⟨g, 0, Option.none⟩) 1 1 ∧ w.heap[g]? = some (.cells #[.int .u64 (n : Int)] 82 (0, 0)))
/-- Block p is the big.Int T. -/
def IntW (w : World) (p : Nat) (T : Int) : Prop := ∃ v, w.heap[p]? = some (.cells #[.bool (decide (T < 0)), v] 70 (0, 0)) ∧ Nat1 w v T.natAbs
theorem Nat1.keep {w w' : World} {v : Value} {n : Nat} (h : Nat1 w v n) (hb : Below w.heap.size w w') : Nat1 w' v n := by
  rcases h with h | ⟨h1, h2, g, h3, h4⟩
  · exact .inl h
  · exact .inr ⟨h1, h2, g, h3, (hb.block g (Array.getElem?_eq_some_iff.1 h4).1).trans h4⟩
theorem IntW.keep {w w' : World} {p : Nat} {T : Int} (h : IntW w p T) (hb : Below w.heap.size w w') : IntW w' p T := by
  obtain ⟨v, h1, h2⟩ := h
  exact ⟨v, (hb.block p (Array.getElem?_eq_some_iff.1 h1).1).trans h1, h2.keep hb⟩
theorem IntW.lt {w : World} {p : Nat} {T : Int} (h : IntW w p T) : p < w.heap.size := by
  obtain ⟨v, h1, h2⟩ := h
  exact (Array.getElem?_eq_some_iff.1 h1).1

set_option maxRecDepth 100000 in
theorem newInt0 (w : World) :
    Calls Yba.prog 11 #[.int .i64 0] w fun e w' => e = .returned (.pointer (some ⟨w.heap.size, 0, Option.none⟩)) ∧ w' = w.alloc (.cells #[.bool false, .slice Option.none 0 0] 70) := by
  go_enter Yba.func11, Yba.ntmps11
  go_wp2
  go_ret
  exact ⟨rfl, rfl⟩
set_option maxRecDepth 100000 in
theorem newIntP (x : Int) (h : 0 < x) (hx : x ≤ 9223372036854775807) (w : World) :
    Calls Yba.prog 11 #[.int .i64 x] w fun e w' => e = .returned (.pointer (some ⟨w.heap.size + 1, 0, Option.none⟩)) ∧ w' = (w.alloc (.cells #[.int .u64 x] 82)).alloc (.cells #[.bool false, .slice (some ⟨w.heap.size, 0, Option.none⟩) 1 1] 70) := by
  have hz : (x == 0) = false := by simp; omega
  go_enter Yba.func11, Yba.ntmps11
  go_wp2
  go_ret
  exact ⟨rfl, by rw [decide_eq_false (by omega)]⟩
theorem wrapneg (x : Int) (h : x < 0) (hx : -9223372036854775808 ≤ x) : IntKind.u64.wrap (-IntKind.u64.wrap x) = -x := by
  rw [IntKind.wrap_u64, IntKind.wrap_u64]; omega
set_option maxRecDepth 100000 in
theorem newIntN (x : Int) (h : x < 0) (hx : -9223372036854775808 ≤ x) (w : World) :
    Calls Yba.prog 11 #[.int .i64 x] w fun e w' => e = .returned (.pointer (some ⟨w.heap.size + 1, 0, Option.none⟩)) ∧ w' = (w.alloc (.cells #[.int .u64 (-x)] 82)).alloc (.cells #[.bool true, .slice (some ⟨w.heap.size, 0, Option.none⟩) 1 1] 70) := by
  have hz : (x == 0) = false := by simp; omega
  go_enter Yba.func11, Yba.ntmps11
  go_wp2
  go_ret
  exact ⟨rfl, by rw [wrapneg x h hx]⟩
theorem two_new (w : World) (o1 o2 : Obj) : Below w.heap.size w ((w.alloc o1).alloc o2) := ((Below.refl _ w).alloc (Nat.le_refl _) o1).alloc (by simp) o2
theorem heap_new (w : World) (o : Obj) : (w.alloc o).heap[w.heap.size]? = some o := by
  show (w.heap.push _)[w.heap.size]? = _
  simp
theorem heap_new2 (w : World) (o1 o2 : Obj) : ((w.alloc o1).alloc o2).heap[w.heap.size + 1]? = some o2 := by
  have := heap_new (w.alloc o1) o2
  rwa [World.size_alloc] at this
theorem heap_new1 (w : World) (o1 o2 : Obj) : ((w.alloc o1).alloc o2).heap[w.heap.size]? = some o1 := (Below.heap_alloc _ _ _ (by simp)).trans (heap_new w o1)
/-- NewInt. -/
theorem newInt11 (x : Int) (h0 : -9223372036854775808 ≤ x) (h1 : x ≤ 9223372036854775807) (w : World) :
    Calls Yba.prog 11 #[.int .i64 x] w fun e w' => ∃ p, e = .returned (.pointer (some ⟨p, 0, Option.none⟩)) ∧ IntW w' p x ∧ Below w.heap.size w w' := by
  rcases Int.lt_trichotomy x 0 with h | h | h
  · refine (newIntN x h h0 w).mono ?_
    rintro e w' ⟨rfl, rfl⟩
    refine ⟨_, rfl, ⟨_, ?_, .inr ⟨by omega, by omega, w.heap.size, rfl, ?_⟩⟩, two_new w _ _⟩
    · rw [heap_new2, decide_eq_true h]
    · rw [heap_new1, show ((x.natAbs : Nat) : Int) = -x by omega]
  · subst h
    refine (newInt0 w).mono ?_
    rintro e w' ⟨rfl, rfl⟩
    exact ⟨_, rfl, ⟨_, heap_new w _, .inl ⟨rfl, rfl⟩⟩, (Below.refl _ w).alloc (Nat.le_refl _) _⟩
  · refine (newIntP x h h1 w).mono ?_
    rintro e w' ⟨rfl, rfl⟩
    refine ⟨_, rfl, ⟨_, ?_, .inr ⟨by omega, by omega, w.heap.size, rfl, ?_⟩⟩, two_new w _ _⟩
    · rw [heap_new2, decide_eq_false (by omega)]
    · rw [heap_new1, show ((x.natAbs : Nat) : Int) = x by omega]

/-! ### nat.make, setWord, setUint64 on a nil slice -/
theorem made1 (w : World) : Sem.run Yba.prog (Instr.makeSlice 68 (.int .i64 1) (.int .i64 1)) w = .ok (.slice (some ⟨w.heap.size, 0, Option.none⟩) 1 1) (w.alloc (.cells #[.int .u64 0] 82)) := by kernel_rfl
set_option maxRecDepth 100000 in
theorem make_one (w : World) :
    Calls Yba.prog 38 #[.slice Option.none 0 0, .int .i64 1] w fun e w' => e = .returned (.slice (some ⟨w.heap.size, 0, Option.none⟩) 1 1) ∧ w' = w.alloc (.cells #[.int .u64 0] 82) := by
  have h := made1
  go_enter Yba.func38, Yba.ntmps38
  go_wp2
  go_ret
  exact ⟨rfl, rfl⟩
set_option maxRecDepth 100000 in
theorem make_nil (w : World) :
    Calls Yba.prog 38 #[.slice Option.none 0 0, .int .i64 0] w fun e w' => e = .returned (.slice Option.none 0 0) ∧ w' = w := by
  go_enter Yba.func38, Yba.ntmps38
  go_wp2
  go_ret
  exact ⟨rfl, rfl⟩
set_option maxRecDepth 100000 in
theorem setWord37 (n : Nat) (h0 : 0 < n) (w : World) :
    Calls Yba.prog 37 #[.slice Option.none 0 0, .int .u64 (n : Int)] w fun e w' => e = .returned (.slice (some ⟨w.heap.size, 0, Option.none⟩) 1 1) ∧ w' = w.alloc (.cells #[.int .u64 (n : Int)] 82) := by
  have h := fun W => make_one W
  have hz : ((n : Int) == 0) = false := by simp; omega
  go_enter Yba.func37, Yba.ntmps37
  go_wp2_with (first | (go_at_call 38; refine (h _).mono ?_; rintro e w1 ⟨rfl, rfl⟩))
  go_ret
  exact ⟨rfl, rfl⟩
set_option maxRecDepth 100000 in
theorem setWord0 (w : World) :
    Calls Yba.prog 37 #[.slice Option.none 0 0, .int .u64 0] w fun e w' => e = .returned (.slice Option.none 0 0) ∧ w' = w := by
  go_enter Yba.func37, Yba.ntmps37
  go_wp2
  go_ret
  exact ⟨rfl, rfl⟩
set_option maxRecDepth 100000 in
theorem setU29 (n : Nat) (h0 : 0 < n) (w : World) :
    Calls Yba.prog 29 #[.slice Option.none 0 0, .int .u64 (n : Int)] w fun e w' => e = .returned (.slice (some ⟨w.heap.size, 0, Option.none⟩) 1 1) ∧ w' = w.alloc (.cells #[.int .u64 (n : Int)] 82) := by
  have h := fun W => setWord37 n h0 W
  go_enter Yba.func29, Yba.ntmps29
  go_wp2_with (first | (go_at_call 37; refine (h _).mono ?_; rintro e w1 ⟨rfl, rfl⟩))
  go_ret
  exact ⟨rfl, rfl⟩
set_option maxRecDepth 100000 in
theorem setU0 (w : World) :
    Calls Yba.prog 29 #[.slice Option.none 0 0, .int .u64 0] w fun e w' => e = .returned (.slice Option.none 0 0) ∧ w' = w := by
  have h := fun W => setWord0 W
  go_enter Yba.func29, Yba.ntmps29
  go_wp2_with (first | (go_at_call 37; refine (h _).mono ?_; rintro e w1 ⟨rfl, rfl⟩))
  go_ret
  exact ⟨rfl, rfl⟩
/-- Only block p has turned. -/
def Only (w w' : World) (p : Nat) : Prop := ∀ B, B ≤ p → B ≤ w.heap.size → Below B w w'
theorem heap_set2 (w : World) (p : Nat) (a b u v : Value) (t : TypeId) (hp : w.heap[p]? = some (.cells #[a, b] t (0, 0))) : (w.setCell ⟨p, 0, Option.none⟩ u).heap[p]? = some (.cells #[u, b] t (0, 0)) ∧ (w.setCell ⟨p, 1, Option.none⟩ v).heap[p]? = some (.cells #[a, v] t (0, 0)) := by
  constructor <;> simp [World.setCell, Array.getElem?_modify, hp]
theorem cells2 (w : World) (p : Nat) (a b : Value) (t : TypeId) (hp : w.heap[p]? = some (.cells #[a, b] t (0, 0))) : w.cell? ⟨p, 0, Option.none⟩ = some a ∧ w.cell? ⟨p, 1, Option.none⟩ = some b ∧ w.frozen? ⟨p, 0, Option.none⟩ = false ∧ w.frozen? ⟨p, 1, Option.none⟩ = false := by
  simp [World.cell?, World.frozen?, hp]
set_option maxRecDepth 100000 in
theorem setUint13 (n : Nat) (hn : n < 18446744073709551616) (w : World) (p : Nat) (hp : w.heap[p]? = some (.cells #[.bool false, .slice Option.none 0 0] 70 (0, 0))) :
    Calls Yba.prog 13 #[.pointer (some ⟨p, 0, Option.none⟩), .int .u64 (n : Int)] w fun e w' => e = .returned (.pointer (some ⟨p, 0, Option.none⟩)) ∧ IntW w' p (n : Int) ∧ Only w w' p := by
  have hpl : p < w.heap.size := (Array.getElem?_eq_some_iff.1 hp).1
  obtain ⟨c0, c1, f0, f1⟩ := cells2 w p _ _ _ hp
  by_cases h0 : 0 < n
  · have h := fun W => setU29 n h0 W
    have hE : IntW (((w.setCell ⟨p, 1, Option.none⟩ (.slice (some ⟨w.heap.size, 0, Option.none⟩) 1 1)).setCell ⟨p, 0, Option.none⟩ (.bool false)).alloc (.cells #[.int .u64 (n : Int)] 82)) p (n : Int) := by
      have hs : ((w.setCell ⟨p, 1, Option.none⟩ (.slice (some ⟨w.heap.size, 0, Option.none⟩) 1 1)).setCell ⟨p, 0, Option.none⟩ (.bool false)).heap.size = w.heap.size := by simp [World.setCell]
      refine ⟨.slice (some ⟨w.heap.size, 0, Option.none⟩) 1 1, ?_, .inr ⟨by simpa using h0, by simpa using hn, w.heap.size, rfl, ?_⟩⟩
      · rw [Below.heap_alloc _ _ _ (by rw [hs]; exact hpl)]
        rw [(heap_set2 _ p _ _ (.bool false) (.bool false) 70 (heap_set2 w p _ _ (.bool false) (.slice (some ⟨w.heap.size, 0, Option.none⟩) 1 1) 70 hp).2).1]
        rw [decide_eq_false (by omega)]
      · have := heap_new ((w.setCell ⟨p, 1, Option.none⟩ (.slice (some ⟨w.heap.size, 0, Option.none⟩) 1 1)).setCell ⟨p, 0, Option.none⟩ (.bool false)) (.cells #[.int .u64 (n : Int)] 82)
        rw [hs] at this
        rw [this]
        simp
    have hO : Only w (((w.setCell ⟨p, 1, Option.none⟩ (.slice (some ⟨w.heap.size, 0, Option.none⟩) 1 1)).setCell ⟨p, 0, Option.none⟩ (.bool false)).alloc (.cells #[.int .u64 (n : Int)] 82)) p := fun B hB hBw => (((Below.refl B w).setCell (p := ⟨p, 1, Option.none⟩) hB _).setCell (p := ⟨p, 0, Option.none⟩) hB _).alloc (by simpa [World.setCell] using hBw) _
    clear hn
    go_enter Yba.func13, Yba.ntmps13
    go_wp2_with (first | (go_at_call 29; refine (h _).mono ?_; rintro e w1 ⟨rfl, rfl⟩))
    go_ret
    exact ⟨rfl, hE, hO⟩
  · obtain rfl : n = 0 := by omega
    have h := fun W => setU0 W
    have hE : IntW ((w.setCell ⟨p, 1, Option.none⟩ (.slice Option.none 0 0)).setCell ⟨p, 0, Option.none⟩ (.bool false)) p 0 := by
      refine ⟨.slice Option.none 0 0, ?_, .inl ⟨rfl, rfl⟩⟩
      rw [(heap_set2 _ p _ _ (.bool false) (.bool false) 70 (heap_set2 w p _ _ (.bool false) (.slice Option.none 0 0) 70 hp).2).1]
      rfl
    have hO : Only w ((w.setCell ⟨p, 1, Option.none⟩ (.slice Option.none 0 0)).setCell ⟨p, 0, Option.none⟩ (.bool false)) p := fun B hB hBw => (((Below.refl B w).setCell (p := ⟨p, 1, Option.none⟩) hB _).setCell (p := ⟨p, 0, Option.none⟩) hB _)
    clear hn
    go_enter Yba.func13, Yba.ntmps13
    go_wp2_with (first | (go_at_call 29; refine (h _).mono ?_; rintro e w1 ⟨rfl, rfl⟩))
    go_ret
    exact ⟨rfl, hE, hO⟩

/-! ### Neg -/
theorem equalIn_self (d : Nat) (a : Addr) (w : World) : Sem.run Yba.prog (Op.equalIn (d + 1) 56 (.pointer (some a)) (.pointer (some a))) w = .ok true w := by
  have h : Yba.prog.underlying 56 = some (.pointer 70) := by kernel_rfl
  have hz : ∀ w, (Go.sizeOf 70).run Yba.prog w = .ok 2 w := fun w => by kernel_rfl
  simp [Op.equalIn, run_underlying h, hz, sameAddr]
theorem equal_self (a : Addr) (w : World) : Sem.run Yba.prog (Op.equal 56 (.pointer (some a)) (.pointer (some a))) w = .ok true w := equalIn_self 9999 a w
theorem neq_self (a : Addr) (w : World) : Sem.run Yba.prog (binOp .neq 56 (.pointer (some a)) (.pointer (some a))) w = .ok (.bool false) w := by
  simp only [binOp]
  simp [equal_self]
set_option maxRecDepth 100000 in
theorem set30 (p : Nat) (w : World) : Calls Yba.prog 30 #[.pointer (some ⟨p, 0, Option.none⟩), .pointer (some ⟨p, 0, Option.none⟩)] w fun e w' => e = .returned (.pointer (some ⟨p, 0, Option.none⟩)) ∧ w' = w := by
  have h := neq_self ⟨p, 0, Option.none⟩
  go_enter Yba.func30, Yba.ntmps30
  go_wp2
  go_ret
  exact ⟨rfl, rfl⟩
set_option maxRecDepth 100000 in
theorem neg16 (n : Nat) (w : World) (p : Nat) (hI : IntW w p (n : Int)) :
    Calls Yba.prog 16 #[.pointer (some ⟨p, 0, Option.none⟩), .pointer (some ⟨p, 0, Option.none⟩)] w fun e w' => e = .returned (.pointer (some ⟨p, 0, Option.none⟩)) ∧ IntW w' p (-(n : Int)) ∧ Only w w' p := by
  obtain ⟨v, hp, hv⟩ := hI
  have hpl : p < w.heap.size := (Array.getElem?_eq_some_iff.1 hp).1
  rw [decide_eq_false (by omega)] at hp
  obtain ⟨c0, c1, f0, f1⟩ := cells2 w p _ _ _ hp
  have h := fun W => set30 p W
  have hO : ∀ u, Only w (w.setCell ⟨p, 0, Option.none⟩ u) p := fun u B hB hBw => (Below.refl B w).setCell (p := ⟨p, 0, Option.none⟩) hB _
  rw [Int.natAbs_natCast] at hv
  rcases hv with ⟨h0, rfl⟩ | ⟨h0, h1, g, rfl, hg⟩
  · subst h0
    have hE : IntW (w.setCell ⟨p, 0, Option.none⟩ (.bool false)) p 0 := ⟨_, (heap_set2 w p _ _ (.bool false) (.bool false) 70 hp).1, .inl ⟨rfl, rfl⟩⟩
    go_enter Yba.func16, Yba.ntmps16
    go_wp2_with (first | (go_at_call 30; refine (h _).mono ?_; rintro e w1 ⟨rfl, rfl⟩))
    go_ret
    exact ⟨rfl, hE, hO _⟩
  · have hgp : g ≠ p := fun e => by subst e; rw [hp] at hg; cases hg
    have hE : IntW (w.setCell ⟨p, 0, Option.none⟩ (.bool true)) p (-(n : Int)) := by
      refine ⟨_, ?_, .inr ⟨by omega, by omega, g, rfl, ?_⟩⟩
      · rw [(heap_set2 w p _ _ (.bool true) (.bool false) 70 hp).1, decide_eq_true (by omega)]
      · rw [Below.heap_setCell w ⟨p, 0, Option.none⟩ _ g hgp, hg, show ((-(n : Int)).natAbs : Nat) = n by omega]
    clear h0 h1
    go_enter Yba.func16, Yba.ntmps16
    go_wp2_with (first | (go_at_call 30; refine (h _).mono ?_; rintro e w1 ⟨rfl, rfl⟩))
    go_ret
    exact ⟨rfl, hE, hO _⟩
end Go.Proofs.Ybulkbwhy
