/-
  The law at long slices; and what its slices hold.
-/
import Derived.Test.YbulkbwdqRenMem
namespace Go.Proofs.Ybulkbwdq
open Go.RowKit
set_option linter.unusedVariables false

set_option maxRecDepth 100000 in
theorem ren_long (nr m c1 m2 c2 : Nat) (a1 a2 : Option Addr) (w : World) (h : 1024 < m ∨ 1024 < m2) :
    Calls Yba.prog 3 #[.int .u8 nr, .slice a1 m c1, .slice a2 m2 c2] w fun e w' => e = .returned (.bool true) ∧ Below w.heap.size w w' := by
  go_enter Yba.func3, Yba.ntmps3
  by_cases h1 : 1024 < m
  · go_wp2
    go_ret
    exact ⟨rfl, Below.refl _ _⟩
  · have h2 : 1024 < m2 := by omega
    go_wp2
    go_ret
    exact ⟨rfl, Below.refl _ _⟩
theorem raw_in (w : World) (a : Option Addr) (len cap : Nat) (zs : List Int)
    (h : (a = none ∧ len = 0 ∧ cap = 0 ∧ zs = []) ∨ ∃ x, a = some x ∧ len ≤ cap ∧ cap ≤ maxLen ∧ zs.length = cap ∧ (∀ i, i < zs.length → w.cell? (x.add i) = some (.int .u16 (zs.getD i 0))) ∧ ∀ n ∈ zs, (Lit.int .u16 n).wf = true) :
    ∃ raws : List Nat, raws.length = len ∧ (len = 0 ∨ ∃ x, a = some x ∧ x.block < w.heap.size ∧ ∀ j, j < len → w.cell? (x.add j) = some (.int .u16 ((raws.getD j 0 : Nat) : Int))) ∧ ∀ j, j < len → raws.getD j 0 < 65536 := by
  rcases h with ⟨rfl, rfl, rfl, rfl⟩ | ⟨x, rfl, h1, h2, h3, h4, h5⟩
  · exact ⟨[], rfl, .inl rfl, fun j hj => by omega⟩
  · have hg : ∀ j, j < len → ((zs.take len).map Int.toNat).getD j 0 = (zs.getD j 0).toNat := fun j hj => by
      simp [List.getD, show j < zs.length by omega, hj]
    have hz : ∀ j, j < len → 0 ≤ zs.getD j 0 ∧ zs.getD j 0 < 65536 := fun j hj => by
      have := h5 (zs.getD j 0) (by simp [List.getD, show j < zs.length by omega])
      simp only [Lit.wf, Bool.and_eq_true, decide_eq_true_eq] at this
      have e1 : IntKind.u16.min = 0 := by decide
      have e2 : IntKind.u16.max = 65535 := by decide
      omega
    refine ⟨(zs.take len).map Int.toNat, by simp; omega, ?_, fun j hj => ?_⟩
    · rcases Nat.eq_zero_or_pos len with h0 | hp
      · exact .inl h0
      · refine .inr ⟨x, rfl, ?_, fun j hj => ?_⟩
        · have := World.block_lt_of_cell? _ _ (h4 0 (by omega))
          simpa [Addr.add] using this
        · rw [hg j hj, h4 j (by omega)]
          have := hz j hj
          congr 2
          omega
    · rw [hg j hj]
      have := hz j hj
      omega
theorem stale_in (w : World) (a : Option Addr) (len cap : Nat) (zs : List Int)
    (h : (a = none ∧ len = 0 ∧ cap = 0 ∧ zs = []) ∨ ∃ x, a = some x ∧ len ≤ cap ∧ cap ≤ maxLen ∧ zs.length = cap ∧ (∀ i, i < zs.length → w.cell? (x.add i) = some (.int .i32 (zs.getD i 0))) ∧ ∀ n ∈ zs, (Lit.int .i32 n).wf = true) :
    ∃ st : List Int, st.length = len ∧ ((a = none ∧ len = 0 ∧ cap = 0) ∨ ∃ x, a = some x ∧ (∀ j, j < len → x.block < w.heap.size ∧ w.cell? (x.add j) = some (.int .i32 (st.getD j 0)))) := by
  rcases h with ⟨rfl, rfl, rfl, rfl⟩ | ⟨x, rfl, h1, h2, h3, h4, h5⟩
  · exact ⟨[], rfl, .inl ⟨rfl, rfl, rfl⟩⟩
  · refine ⟨zs.take len, by simp; omega, .inr ⟨x, rfl, fun j hj => ⟨?_, ?_⟩⟩⟩
    · have := World.block_lt_of_cell? _ _ (h4 0 (by omega))
      simpa [Addr.add] using this
    · rw [h4 j (by omega)]
      simp [List.getD, show j < zs.length by omega, hj]
theorem u8_in (a0 : Int) (h : (Lit.int .u8 a0).wf = true) : ∃ nr : Nat, a0 = nr ∧ nr ≤ 255 := by
  simp only [Lit.wf, Bool.and_eq_true, decide_eq_true_eq] at h
  have e1 : IntKind.u8.min = 0 := by decide
  have e2 : IntKind.u8.max = 255 := by decide
  exact ⟨a0.toNat, by omega, by omega⟩
end Go.Proofs.Ybulkbwdq
