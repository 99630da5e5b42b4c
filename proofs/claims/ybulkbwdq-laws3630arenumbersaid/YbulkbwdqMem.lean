/-
  The memory of parallelOps: four rows of its own.
-/
import Derived.Test.YbulkbwdqPlain
import Derived.WalkKit
import Derived.ArgAppend
import Derived.Deep.AppendLies
import Derived.Deep.OwnRows
import Derived.Laws.OwnMore
namespace Go.Proofs.Ybulkbwdq
open Go.RowKit
set_option linter.unusedVariables false

theorem Yba.info42 : (Yba.prog.info? 42).map (fun i => (i.zero, i.size, i.bytes)) = some (some (.agg #[.int .i32 0, .int .i32 0]), 2, 8) := by kernel_rfl
theorem Yba.info21 : (Yba.prog.info? 21).map (fun i => (i.zero, i.size, i.bytes)) = some (some (.int .i32 0), 1, 4) := by kernel_rfl
theorem Yba.info3 : (Yba.prog.info? 3).map (fun i => (i.zero, i.size, i.bytes)) = some (some (.int .i64 0), 1, 8) := by kernel_rfl

theorem rows_apart {w : World} {base base' e e' s s' n n' : Nat} {v v' : Value} {xs xs' : List Value} (h : w.ownsRow base e s v n xs) (h' : w.ownsRow base' e' s' v' n' xs') (hne : e ≠ e') : v.ownBlock = none ∨ v.ownBlock ≠ v'.ownBlock := by
  rcases h.2 with ⟨rfl, _⟩ | ⟨g, cap, cur, rfl, hb, hg, _⟩
  · exact .inl rfl
  · right
    intro e1
    rcases h'.2 with ⟨rfl, _⟩ | ⟨g', cap', cur', rfl, hb', hg', _⟩
    · cases e1
    · have : g = g' := Option.some.inj e1
      subst this
      rw [hg] at hg'
      cases hg'
      exact hne rfl
theorem row_form {w : World} {base e s m c : Nat} {a : Option Addr} {xs : List Value} (h : w.ownsRow base e s (.slice a m c) m xs) (hm : 0 < m) : ∃ g, a = some ⟨g, 0, none⟩ ∧ base ≤ g := by
  rcases h.2 with ⟨h', _⟩ | ⟨g, cap, cur, h', hb, _⟩
  · simp at h'; omega
  · simp at h'; exact ⟨g, h'.1, hb⟩
theorem grown_set (w : World) (a : Addr) (u : Value) : w.grownBy (w.setCell a u) (some a.block) :=
  ⟨rfl, rfl, rfl, by simp [World.setCell], fun k hk hne => Below.heap_setCell w a u k (fun e => hne (by rw [e]))⟩

/-- The copies, as cells. -/
def flat (ops : List (Int × Int)) : List Value := ops.flatMap (fun op => [.int .i32 op.1, .int .i32 op.2])
theorem flat_snoc (ops : List (Int × Int)) (op : Int × Int) : flat (ops ++ [op]) = flat ops ++ [.int .i32 op.1, .int .i32 op.2] := by simp [flat]
theorem flat_at : ∀ (ops : List (Int × Int)) (j : Nat) (h : j < ops.length), (flat ops)[j * 2]? = some (.int .i32 ops[j].1) ∧ (flat ops)[j * 2 + 1]? = some (.int .i32 ops[j].2)
  | [], j, h => absurd h (Nat.not_lt_zero _)
  | op :: ops, 0, h => ⟨rfl, rfl⟩
  | op :: ops, j + 1, h => by
    have := flat_at ops j (by simpa using h)
    show (Value.int .i32 op.1 :: Value.int .i32 op.2 :: flat ops)[(j + 1) * 2]? = _ ∧ (Value.int .i32 op.1 :: Value.int .i32 op.2 :: flat ops)[(j + 1) * 2 + 1]? = _
    rw [show (j + 1) * 2 = j * 2 + 1 + 1 by omega]
    simpa using this

structure PM (base : Nat) (w : World) (gF cF gR : Nat) (vP : Value) (pn : Nat) (vO : Value) (m temp : Nat) (frm rd xs : List Int) (ops : List (Int × Int)) : Prop where
  rF : w.ownsRow base 21 1 (.slice (some ⟨gF, 0, none⟩) m cF) m (frm.map (Value.int .i32))
  rR : w.ownsRow base 3 1 (.slice (some ⟨gR, 0, none⟩) (temp + 1) (temp + 1)) (temp + 1) (rd.map (Value.int .i64))
  rP : w.ownsRow base 21 1 vP pn (xs.map (Value.int .i32))
  rO : w.ownsRow base 42 2 vO ops.length (flat ops)
  ap : vP.ownBlock ≠ some gF

variable {base : Nat} {w w' : World} {gF cF gR : Nat} {vP : Value} {pn : Nat} {vO : Value} {m temp : Nat} {frm rd xs : List Int} {ops : List (Int × Int)}

theorem PM.alloc (h : PM base w gF cF gR vP pn vO m temp frm rd xs ops) (o : Obj) : PM base (w.alloc o) gF cF gR vP pn vO m temp frm rd xs ops :=
  ⟨h.rF.alloc o, h.rR.alloc o, h.rP.alloc o, h.rO.alloc o, h.ap⟩
theorem PM.setF (h : PM base w gF cF gR vP pn vO m temp frm rd xs ops) (i : Nat) (v : Int) : PM base (w.setCell ⟨gF, i, none⟩ (.int .i32 v)) gF cF gR vP pn vO m temp (frm.set i v) rd xs ops := by
  obtain ⟨ho, hg⟩ := h.rF.stored i (.int .i32 v)
  exact ⟨by simpa [List.map_set] using ho, h.rR.kept hg (rows_apart h.rR h.rF (by decide)), h.rP.kept hg (.inr h.ap), h.rO.kept hg (rows_apart h.rO h.rF (by decide)), h.ap⟩
theorem PM.setR (h : PM base w gF cF gR vP pn vO m temp frm rd xs ops) (i : Nat) (v : Int) : PM base (w.setCell ⟨gR, i, none⟩ (.int .i64 v)) gF cF gR vP pn vO m temp frm (rd.set i v) xs ops := by
  obtain ⟨ho, hg⟩ := h.rR.stored i (.int .i64 v)
  exact ⟨h.rF.kept hg (rows_apart h.rF h.rR (by decide)), by simpa [List.map_set] using ho, h.rP.kept hg (rows_apart h.rP h.rR (by decide)), h.rO.kept hg (rows_apart h.rO h.rR (by decide)), h.ap⟩
theorem PM.setP {gP cP : Nat} (h : PM base w gF cF gR (.slice (some ⟨gP, 0, none⟩) pn cP) pn vO m temp frm rd xs ops) (i : Nat) (v : Int) : PM base (w.setCell ⟨gP, i, none⟩ (.int .i32 v)) gF cF gR (.slice (some ⟨gP, 0, none⟩) pn cP) pn vO m temp frm rd (xs.set i v) ops := by
  obtain ⟨ho, hg⟩ := h.rP.stored i (.int .i32 v)
  exact ⟨h.rF.kept hg (.inr (fun e => h.ap e.symm)), h.rR.kept hg (rows_apart h.rR h.rP (by decide)), by simpa [List.map_set] using ho, h.rO.kept hg (rows_apart h.rO h.rP (by decide)), h.ap⟩
/-- A register more to be written. -/
theorem PM.addP (h : PM base w gF cF gR vP xs.length vO m temp frm rd xs ops) (r : Int) {g c H : Nat} (ho : w'.ownsRow base 21 1 (.slice (some ⟨g, 0, none⟩) (xs.length + 1) c) (xs.length + 1) (xs.map (Value.int .i32) ++ [.int .i32 r])) (hg : w.grownBy w' vP.ownBlock) (hor : vP.ownBlock = some g ∨ g = H) (hH : w.heap.size = H) :
    PM base w' gF cF gR (.slice (some ⟨g, 0, none⟩) (xs.length + 1) c) (xs.length + 1) vO m temp frm rd (xs ++ [r]) ops := by
  have hF := (h.rF.lt gF rfl).2
  refine ⟨h.rF.kept hg (.inr (fun e => h.ap e.symm)), h.rR.kept hg (rows_apart h.rR h.rP (by decide)), by simpa using ho, h.rO.kept hg (rows_apart h.rO h.rP (by decide)), ?_⟩
  rintro e
  have e' : g = gF := Option.some.inj e
  rcases hor with h1 | h1
  · exact h.ap (h1.trans (by rw [e']))
  · omega
/-- A copy more. -/
theorem PM.addO (h : PM base w gF cF gR vP pn vO m temp frm rd xs ops) (op : Int × Int) {g c : Nat} (ho : w'.ownsRow base 42 2 (.slice (some ⟨g, 0, none⟩) (ops.length + 1) c) (ops.length + 1) (flat ops ++ [.int .i32 op.1, .int .i32 op.2])) (hg : w.grownBy w' vO.ownBlock) :
    PM base w' gF cF gR vP pn (.slice (some ⟨g, 0, none⟩) (ops.length + 1) c) m temp frm rd xs (ops ++ [op]) := by
  refine ⟨h.rF.kept hg (rows_apart h.rF h.rO (by decide)), h.rR.kept hg (rows_apart h.rR h.rO (by decide)), h.rP.kept hg (rows_apart h.rP h.rO (by decide)), ?_, h.ap⟩
  rw [flat_snoc]
  simpa using ho
theorem PM.atF (h : PM base w gF cF gR vP pn vO m temp frm rd xs ops) (i : Nat) (hi : i < m) (hl : frm.length = m) : w.cell? ⟨gF, i, none⟩ = some (.int .i32 (frm.getD i 0)) ∧ w.frozen? ⟨gF, i, none⟩ = false := by
  refine ⟨?_, h.rF.frozenAt i⟩
  rw [h.rF.cellAt i (by omega)]
  simp [List.getD, show i < frm.length by omega]
theorem PM.atR (h : PM base w gF cF gR vP pn vO m temp frm rd xs ops) (i : Nat) (hi : i < temp + 1) (hl : rd.length = temp + 1) : w.cell? ⟨gR, i, none⟩ = some (.int .i64 (rd.getD i 0)) ∧ w.frozen? ⟨gR, i, none⟩ = false := by
  refine ⟨?_, h.rR.frozenAt i⟩
  rw [h.rR.cellAt i (by omega)]
  simp [List.getD, show i < rd.length by omega]
theorem PM.atP {gP cP : Nat} (h : PM base w gF cF gR (.slice (some ⟨gP, 0, none⟩) pn cP) pn vO m temp frm rd xs ops) (i : Nat) (hi : i < pn) (hl : xs.length = pn) : w.cell? ⟨gP, i, none⟩ = some (.int .i32 (xs.getD i 0)) ∧ w.frozen? ⟨gP, i, none⟩ = false := by
  refine ⟨?_, h.rP.frozenAt i⟩
  rw [h.rP.cellAt i (by omega)]
  simp [List.getD, show i < xs.length by omega]

/-- The slice is cut. -/
theorem PM.shrink {gP cP r : Nat} (h : PM base w gF cF gR (.slice (some ⟨gP, 0, none⟩) pn cP) pn vO m temp frm rd xs ops) (hr : r ≤ pn) : PM base w gF cF gR (.slice (some ⟨gP, 0, none⟩) r cP) r vO m temp frm rd (xs.take r) ops := by
  refine ⟨h.rF, h.rR, ⟨?_, ?_⟩, h.rO, h.ap⟩
  · have := h.rP.1
    simp at this ⊢
    omega
  · rcases h.rP.2 with ⟨h', _⟩ | ⟨g', cap', cur, h', hb', hg', h1, h2, h3, h4⟩
    · cases h'
    · cases h'
      refine .inr ⟨gP, cP, cur, rfl, hb', hg', by omega, h2, h3, ?_⟩
      rw [List.map_take, ← h4, List.take_take]
      congr 1
      omega
/-- 'append' of one int32 where there is room: one cell is written. -/
theorem append_room (w : World) (g n cap : Nat) (h : Addr) (v : Int) (ty : TypeId) (hc : (w.cell? ⟨g, n, none⟩).isSome = true) (hf : w.frozen? ⟨g, n, none⟩ = false) (hv : w.cell? h = some (.int .i32 v)) (hh : h.spot = none) (hroom : n + 1 ≤ cap) :
    (Builtin.append_ #[23, 23] ty #[.slice (some ⟨g, 0, none⟩) n cap, .slice (some h) 1 1]).run Yba.prog w = .ok (.slice (some ⟨g, 0, none⟩) (n + 1) cap) (w.setCell ⟨g, n, none⟩ (.int .i32 v)) := by
  obtain ⟨i, hi, z0, z1, z2⟩ := info_parts Yba.info21
  have := run_append_room_cells (P := Yba.prog) w 23 ty 21 i Yba.underlying23 hi g 0 n cap h 1 1 [.int .i32 v] (by simp [z1]) (fun j u hj => by
    match j, hj with
    | 0, hj => simp at hj; subst hj; simpa [Addr.add] using hv) (fun u hu => by simp at hu; subst hu; rfl) hroom (fun j hj => by simp at hj; subst hj; simpa [z1] using hc) (fun j hj => by simp at hj; subst hj; simpa [z1] using hf)
  rw [this]
  simp [z1, World.setCells]
end Go.Proofs.Ybulkbwdq
