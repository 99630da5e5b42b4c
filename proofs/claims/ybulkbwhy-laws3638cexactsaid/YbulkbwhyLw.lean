/-
  LawS3638CExact (function 4), walked over its callees' contracts.
-/
import Derived.Test.YbulkbwhyCc
namespace Go.Proofs.Ybulkbwhy
open Go.RowKit
set_option linter.unusedVariables false
attribute [local go_sem] run_store_float

theorem ValAt.keep {w w' : World} {v : Value} {c T e : Int} (h : ValAt w v c T e) (hb : Below w.heap.size w w') : ValAt w' v c T e := by
  obtain ⟨p, h1, h2⟩ := h.shape
  exact ⟨p, h1, fun hc => by
    obtain ⟨q, h3, h4⟩ := h2 hc
    exact ⟨q, h3, h4.keep hb⟩⟩
set_option maxRecDepth 100000 in
set_option maxHeartbeats 2000000 in
theorem law4 (k1 u1 x1 k2 u2 x2 : Nat) (i1 i2 : Int) (a0 a1 b0 b1 : Bool) (a2 a3 b2 b3 : Nat) (ca Ta ea cb Tb eb s : Int) (o : Bool) (w : World)
    (hA : ∀ W, Calls Yba.prog 7 #[.int .u8 (k1 : Int), .int .i64 i1, .int .u64 (u1 : Int), .float .f64 x1] W fun e w' => ∃ v, e = .returned (.tuple #[.agg #[.bool a0, .bool a1, .int .u64 (a2 : Int), .float .f64 a3], v]) ∧ ValAt w' v ca Ta ea ∧ Below W.heap.size W w')
    (hB : ∀ W, Calls Yba.prog 7 #[.int .u8 (k2 : Int), .int .i64 i2, .int .u64 (u2 : Int), .float .f64 x2] W fun e w' => ∃ v, e = .returned (.tuple #[.agg #[.bool b0, .bool b1, .int .u64 (b2 : Int), .float .f64 b3], v]) ∧ ValAt w' v cb Tb eb ∧ Below W.heap.size W w')
    (hO : ∀ W, Calls Yba.prog 8 #[.agg #[.bool a0, .bool a1, .int .u64 (a2 : Int), .float .f64 a3], .agg #[.bool b0, .bool b1, .int .u64 (b2 : Int), .float .f64 b3]] W fun e w' => e = .returned (.tuple #[.int .i64 s, .bool o]) ∧ Below W.heap.size W w')
    (hC : ∀ W v u, ValAt W v ca Ta ea → ValAt W u cb Tb eb → Calls Yba.prog 9 #[v, u] W fun e w' => e = .returned (.tuple #[.int .i64 s, .bool o]) ∧ Below W.heap.size W w') :
    Calls Yba.prog 4 #[.int .u8 (k1 : Int), .int .i64 i1, .int .u64 (u1 : Int), .float .f64 x1, .int .u8 (k2 : Int), .int .i64 i2, .int .u64 (u2 : Int), .float .f64 x2] w fun e w' => e = .returned (.bool true) ∧ Below w.heap.size w w' := by
  go_enter Yba.func4, Yba.ntmps4
  go_wp2_with fail
  refine (hA _).mono ?_
  rintro e w1 ⟨v, rfl, VA, bA⟩
  obtain ⟨p, rfl, _⟩ := VA.shape
  have HA : Hid' (ValAt w1 (valV ca p ea) ca Ta ea ∧ Below w.heap.size w w1) := ⟨VA, bA⟩
  clear VA bA hA
  unfold valV
  go_wp2_with fail
  refine (hB _).mono ?_
  rintro e w2 ⟨v, rfl, VB, bB⟩
  obtain ⟨q, rfl, _⟩ := VB.shape
  have r1 := (bB.block w1.heap.size (by simp; omega)).trans (heap_new1 w1 _ _)
  have r2 := (bB.block (w1.heap.size + 1) (by simp)).trans (heap_new2 w1 _ _)
  have sz2 := bB.size
  simp only [World.size_alloc] at sz2
  have HB : Hid' (ValAt w2 (valV ca p ea) ca Ta ea ∧ ValAt w2 (valV cb q eb) cb Tb eb ∧ Below w.heap.size w w2) := by
    have bb := (two_new w1 _ _).trans (bB.mono (by simp; omega))
    exact ⟨HA.1.keep bb, VB, HA.2.trans (bb.mono HA.2.size)⟩
  have sz1 : w.heap.size ≤ w2.heap.size := HB.2.2.size
  obtain ⟨⟨x0, x1', x2', x3⟩, _⟩ := cells4 _ _ _ _ _ _ _ r1
  obtain ⟨⟨z0, z1, z2⟩, _⟩ := cells3 _ _ _ _ _ _ r2
  have l1 : w1.heap.size < w2.heap.size := by omega
  have l2 : w1.heap.size + 1 < w2.heap.size := by omega
  clear VB bB hB HA
  unfold valV
  go_wp2_with fail
  refine (hO _).mono ?_
  rintro e w3 ⟨rfl, bO⟩
  have HB3 : Hid' (ValAt w3 (valV ca p ea) ca Ta ea ∧ ValAt w3 (valV cb q eb) cb Tb eb ∧ Below w.heap.size w w3) := by
    have bb := (two_new w2 _ _).trans (bO.mono (by simp; omega))
    exact ⟨HB.1.keep bb, HB.2.1.keep bb, HB.2.2.trans (bb.mono sz1)⟩
  have r3 := (bO.block (w1.heap.size + 1) (by simp; omega)).trans ((Below.heap_alloc _ _ _ (by simp; omega)).trans ((Below.heap_alloc _ _ _ l2).trans r2))
  have r4 := (bO.block (w2.heap.size + 1) (by simp)).trans (heap_new2 w2 _ _)
  obtain ⟨⟨z3, z4, z5⟩, _⟩ := cells3 _ _ _ _ _ _ r3
  obtain ⟨⟨z6, z7, z8⟩, _⟩ := cells3 _ _ _ _ _ _ r4
  clear bO hO HB r1 r2 r3 r4 x0 x1' x2' x3 z0 z1 z2
  have hCC := hC w3 _ _ HB3.1 HB3.2.1
  unfold valV at hCC
  go_wp2_with fail
  refine hCC.mono ?_
  rintro e w4 ⟨rfl, bC⟩
  have HE : Hid' (Below w.heap.size w w4) := HB3.2.2.trans (bC.mono HB3.2.2.size)
  clear bC hC hCC HB3
  cases o <;> (go_wp2; go_ret; exact ⟨by simp, HE⟩)
end Go.Proofs.Ybulkbwhy
