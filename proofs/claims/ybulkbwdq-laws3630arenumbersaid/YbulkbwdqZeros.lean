/-
  'append(s[:0], make([]int32, n)...)'.
-/
import Derived.Test.YbulkbwdqMem
import Derived.Laws.CopyRow
import Derived.Laws.AppendOwn
namespace Go.Proofs.Ybulkbwdq
open Go.RowKit
set_option linter.unusedVariables false

theorem zeros_list (n : Nat) : (Builtin.zeroCells (Value.int .i32 0).cells n).toList = (List.replicate n (0 : Int)).map (Value.int .i32) := by
  apply List.ext_getElem (by simp [Builtin.zeroCells, Value.cells])
  intro j h1 h2
  simp [Builtin.zeroCells, Value.cells, Nat.mod_one]

theorem run_zeros (W : World) (base : Nat) (v : Value) (hown : W.ownsRow base 21 1 v 0 []) (n : Nat) (hn : 0 < n) (hle : n ≤ 2000) (ty : TypeId) (hbase : base ≤ W.heap.size) :
    ∃ g cap w', (Builtin.append_ #[23, 3] ty #[v, .int .i64 (n : Int)]).run Yba.prog W = .ok (.slice (some ⟨g, 0, none⟩) n cap) w' ∧ w'.ownsRow base 21 1 (.slice (some ⟨g, 0, none⟩) n cap) n ((List.replicate n (0 : Int)).map (Value.int .i32)) ∧ W.grownBy w' v.ownBlock ∧ (v.ownBlock = some g ∨ g = W.heap.size) := by
  obtain ⟨i, hi, z0, z1, z2⟩ := info_parts Yba.info21
  have hu3 : Yba.prog.underlying 3 = some (.int .i64) := Yba.underlying3
  have hwrap : IntKind.i64.wrap (n : Int) = (n : Int) := by unfold IntKind.wrap; simp [IntKind.signed, IntKind.bits]; omega
  have hneg : ¬ ((n : Int) < 0) := by omega
  have hbig : ¬ (281474976710656 < (n : Int) * 4) := by omega
  have hn0 : n ≠ 0 := by omega
  have h63 : ¬ (9223372036854775807 < (n : Int)) := by omega
  rcases hown.2 with ⟨rfl, _⟩ | ⟨g, cap, cur, rfl, hb, hg, h1, h2, h3, h4⟩
  · have h48 : ¬ (281474976710656 < Builtin.nextslicecap n 0 * 4) := by rw [nextslicecap_zero hn]; omega
    have hrun : (Builtin.append_ #[23, 3] ty #[.slice none 0 0, .int .i64 (n : Int)]).run Yba.prog W = .ok (.slice (some ⟨W.heap.size, 0, none⟩) n (grownCap W n 0 21)) (W.drew.alloc (.cells (Builtin.zeroCells (Value.int .i32 0).cells n ++ Builtin.zeroCells (Value.int .i32 0).cells (grownCap W n 0 21 - n)) 21)) := by
      simp [Builtin.append_, run_underlying Yba.underlying23, run_underlying hu3, sizeOf, typeInfo, zeroValue, hi, z0, z1, z2, asInt, asIntOf, hwrap, hneg, hbig, hn0, h63, h48, Question.forced, run_firstCells_none, newRow, grownCap]
    refine ⟨W.heap.size, _, _, hrun, ⟨by simp, .inr ⟨W.heap.size, _, _, rfl, hbase, heap_alloc_new W.drew _, grownCap_ge W n 0 21, grownCap_le_maxLen W n 0 21 (by unfold maxLen; omega), ?_, ?_⟩⟩, ⟨rfl, rfl, rfl, by simp, fun k hk _ => Below.heap_alloc W.drew _ k hk⟩, .inr rfl⟩
    · have := grownCap_ge W n 0 21
      simp [size_zeroCells, Value.cells]
      omega
    · rw [Array.toList_append, Nat.mul_one, ← zeros_list]
      exact List.take_left' (by rw [zeros_list]; simp)
  · by_cases hroom : n ≤ cap
    · have hst := run_storeCells_at Yba.prog g 0 21 (Builtin.zeroCells (Value.int .i32 0).cells n).toList 0 cur W hg (by rw [zeros_list]; simp; omega) (fun u hu => by rw [zeros_list] at hu; obtain ⟨x, _, rfl⟩ := List.mem_map.1 hu; rfl)
      have hrun : (Builtin.append_ #[23, 3] ty #[.slice (some ⟨g, 0, none⟩) 0 cap, .int .i64 (n : Int)]).run Yba.prog W = .ok (.slice (some ⟨g, 0, none⟩) n cap) (W.setRow g (cur.toList.take 0 ++ (Builtin.zeroCells (Value.int .i32 0).cells n).toList ++ cur.toList.drop (0 + (Builtin.zeroCells (Value.int .i32 0).cells n).toList.length)).toArray) := by
        simp [Builtin.append_, run_underlying Yba.underlying23, run_underlying hu3, sizeOf, typeInfo, zeroValue, hi, z0, z1, z2, asInt, asIntOf, hwrap, hneg, hbig, hn0, hroom, Addr.add_lit]
        rw [hst]
        simp [Result.andThen]
      have hzl : (Builtin.zeroCells (Value.int .i32 0).cells n).toList.length = n := by rw [zeros_list]; simp
      refine ⟨g, cap, _, hrun, ⟨by simp, .inr ⟨g, cap, _, rfl, hb, setRow_heap W g cur _ 21 (0, 0) hg, hroom, h2, ?_, ?_⟩⟩, ⟨rfl, rfl, rfl, by simp [World.setRow], fun k hk hne => setRow_other W g k _ (fun e => hne (by rw [e]; rfl))⟩, .inl rfl⟩
      · simp [hzl]
        have hzs : (Builtin.zeroCells (Value.int .i32 0).cells n).size = n := by rw [size_zeroCells]; simp [Value.cells]
        omega
      · rw [List.take_zero, List.nil_append, ← zeros_list, Nat.mul_one]
        show ((Builtin.zeroCells (Value.int .i32 0).cells n).toList ++ _).take n = _
        exact List.take_left' hzl
    · have h48 : ¬ (281474976710656 < Builtin.nextslicecap n cap * 4) := by
        have := nextslicecap_le (show cap < n by omega)
        omega
      have hrun : (Builtin.append_ #[23, 3] ty #[.slice (some ⟨g, 0, none⟩) 0 cap, .int .i64 (n : Int)]).run Yba.prog W = .ok (.slice (some ⟨W.heap.size, 0, none⟩) n (grownCap W n cap 21)) (W.drew.alloc (.cells (Builtin.zeroCells (Value.int .i32 0).cells n ++ Builtin.zeroCells (Value.int .i32 0).cells (grownCap W n cap 21 - n)) 21)) := by
        have hfo := run_firstCells_some (P := Yba.prog) W.drew 1 0 ⟨g, 0, none⟩ 0 cap [] rfl (fun j v hj => by simp at hj)
        simp [Builtin.append_, run_underlying Yba.underlying23, run_underlying hu3, sizeOf, typeInfo, zeroValue, hi, z0, z1, z2, asInt, asIntOf, hwrap, hneg, hbig, hn0, hroom, h63, h48, Question.forced, hfo, newRow, grownCap]
      refine ⟨W.heap.size, _, _, hrun, ⟨by simp, .inr ⟨W.heap.size, _, _, rfl, hbase, heap_alloc_new W.drew _, grownCap_ge W n cap 21, grownCap_le_maxLen W n cap 21 (by unfold maxLen; omega), ?_, ?_⟩⟩, ⟨rfl, rfl, rfl, by simp, fun k hk _ => Below.heap_alloc W.drew _ k hk⟩, .inr rfl⟩
      · have := grownCap_ge W n cap 21
        simp [size_zeroCells, Value.cells]
        omega
      · rw [Array.toList_append, Nat.mul_one, ← zeros_list]
        exact List.take_left' (by rw [zeros_list]; simp)
/-- .. at a step of a region that draws its order. -/
theorem step_zeros {ops : Array Oper} {o : Oper} {a : Act} {w : World} {K : Act → World → Prop} {Q : Exit → Act → World → Prop} {E : Prop} (hgd : o.guard = none) (s x : Operand)
    (ho : o.op = .call { callee := .builtin .append, args := #[s, x], argTypes := #[23, 3] }) (base : Nat) (v : Value) (hs : a.eval s = v) (hown : w.ownsRow base 21 1 v 0 []) (n : Nat) (hx : a.eval x = .int .i64 (n : Int)) (hn : 0 < n) (hle : n ≤ 2000) (hbase : base ≤ w.heap.size)
    (h : ∀ g cap w', w'.ownsRow base 21 1 (.slice (some ⟨g, 0, none⟩) n cap) n ((List.replicate n (0 : Int)).map (Value.int .i32)) → w.grownBy w' v.ownBlock → (v.ownBlock = some g ∨ g = w.heap.size) → K (a.put o.dst (.slice (some ⟨g, 0, none⟩) n cap)) w') :
    if Region.wanted o (yielded ops a.tmps) = true then Oper.wp Yba.prog o a w K Q else E := by
  have hw : Region.wanted o (yielded ops a.tmps) = true := by simp [Region.wanted, hgd]
  rw [if_pos hw]
  obtain ⟨g, cap, w', hrun, h1, h2, h3⟩ := run_zeros w base v hown n hn hle o.type hbase
  unfold Oper.wp
  simp [execOp, ho, resolve, invoke, builtin, hs, hx, hrun, Result.andThen]
  exact h g cap w' h1 h2 h3
end Go.Proofs.Ybulkbwdq
