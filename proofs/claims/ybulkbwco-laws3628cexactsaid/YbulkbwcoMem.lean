/-
  The memory of zzs3628cbuild: two maps, the Tally, three rows that grow.
-/
import Derived.Test.YbulkbwcoPlain
namespace Go.Proofs.Ybulkbwco
open Go.RowKit Go.Maps Go.WideMaps
set_option linter.unusedVariables false

theorem rows_apart {w : World} {base e e' n n' : Nat} {v v' : Value} {xs xs' : List Value} (h : w.ownsRow base e 1 v n xs) (h' : w.ownsRow base e' 1 v' n' xs') (hne : e ≠ e') : v.ownBlock = none ∨ v.ownBlock ≠ v'.ownBlock := by
  rcases h.2 with ⟨rfl, _⟩ | ⟨g, cap, cur, rfl, hb, hg, _⟩
  · exact .inl rfl
  · right
    intro e1
    rcases h'.2 with ⟨rfl, _⟩ | ⟨g', cap', cur', rfl, hb', hg', _⟩
    · cases e1
    · have : g = g' := Option.some.inj e1
      subst this
      rw [hg] at hg'
      cases hg'
      exact hne rfl

structure Mem (w : World) (B : Nat) (aN aP aJ : Option Addr) (cN cP cJ : Nat) (S : St) (pm : Key → Option Int) (jm : Key → Bool) (DP DJ : DataW Unit) (n : Nat) : Prop where
  mp : MapI 2 w B n pm DP
  mj : MapB w (B + 1) n jm DJ
  c3 : w.cell? ⟨B + 1 + 1, 18, none⟩ = some (.map (some B))
  c4 : w.cell? ⟨B + 1 + 1, 19, none⟩ = some (.map (some (B + 1)))
  rN : w.ownsRow (B + 3) 9 1 (.slice aN S.names.length cN) S.names.length (S.names.map Value.string)
  rP : w.ownsRow (B + 3) 2 1 (.slice aP S.pows.length cP) S.pows.length (S.pows.map (Value.int .i64))
  rJ : w.ownsRow (B + 3) 4 1 (.slice aJ S.jail.length cJ) S.jail.length (S.jail.map Value.bool)
  sz : B + 3 ≤ w.heap.size

variable {w w' : World} {B : Nat} {aN aP aJ : Option Addr} {cN cP cJ : Nat} {S : St} {pm : Key → Option Int} {jm : Key → Bool} {DP DJ : DataW Unit} {n : Nat}

theorem Mem.below (h : Mem w B aN aP aJ cN cP cJ S pm jm DP DJ n) (hb : Below w.heap.size w w') : Mem w' B aN aP aJ cN cP cJ S pm jm DP DJ n := by
  have hg : w.grownBy w' none := ⟨hb.os, hb.tape, hb.output, hb.size, fun k hk _ => hb.block k hk⟩
  have hs := h.sz
  exact ⟨h.mp.keep (hb.block B (by omega)), h.mj.keep (hb.block (B + 1) (by omega)), (hb.cell (p := ⟨B + 1 + 1, 18, none⟩) (by show B + 1 + 1 < _; omega)).trans h.c3, (hb.cell (p := ⟨B + 1 + 1, 19, none⟩) (by show B + 1 + 1 < _; omega)).trans h.c4,
    h.rN.kept hg (by cases (Value.slice aN S.names.length cN).ownBlock <;> simp), h.rP.kept hg (by cases (Value.slice aP S.pows.length cP).ownBlock <;> simp), h.rJ.kept hg (by cases (Value.slice aJ S.jail.length cJ).ownBlock <;> simp), Nat.le_trans hs hb.size⟩
theorem row_ge {base e m : Nat} {v : Value} {xs : List Value} (h : w.ownsRow base e 1 v m xs) {k : Nat} (hk : k < base) : v.ownBlock ≠ some k := fun e => by have := h.lt k e; omega
theorem row_low {base e m : Nat} {v : Value} {xs : List Value} (h : w.ownsRow base e 1 v m xs) {k : Nat} (hk : k < base) : some k ≠ v.ownBlock := fun e => row_ge h hk e.symm
theorem cellBy {w w' : World} {row : Option Nat} {p j : Nat} {v : Value} (hg : w.grownBy w' row) (h : w.cell? ⟨p, j, none⟩ = some v) (hne : some p ≠ row) : w'.cell? ⟨p, j, none⟩ = some v := hg.cell (a := ⟨p, j, none⟩) h hne

/-- A store into the powers. -/
theorem mem_p (h : Mem w B aN aP aJ cN cP cJ S pm jm DP DJ n) (x : Key) (p : Int) (ho : w'.ownsMap Yba.prog 9 (plainElem (H := Unit) Yba.prog 2) B (n + 1) (DP.put (.string x) (.lit (.int .i64 p)))) (hg : w.grownBy w' (some B)) :
    Mem w' B aN aP aJ cN cP cJ S (upd pm x (some p)) jm (DP.put (.string x) (.lit (.int .i64 p))) DJ (n + 1) := by
  have hs := h.sz
  exact ⟨h.mp.put x p ho, (h.mj.keep (hg.block (B + 1) (by omega) (by simp))).more (by omega), cellBy hg h.c3 (by simp; omega), cellBy hg h.c4 (by simp; omega), h.rN.kept hg (.inr (row_ge h.rN (by omega))), h.rP.kept hg (.inr (row_ge h.rP (by omega))), h.rJ.kept hg (.inr (row_ge h.rJ (by omega))), Nat.le_trans hs hg.size⟩
/-- A store into the jail. -/
theorem mem_j (h : Mem w B aN aP aJ cN cP cJ S pm jm DP DJ n) (x : Key) (ho : w'.ownsMap Yba.prog 9 (plainElem (H := Unit) Yba.prog 4) (B + 1) (n + 1) (DJ.put (.string x) (.lit (.bool true)))) (hg : w.grownBy w' (some (B + 1))) :
    Mem w' B aN aP aJ cN cP cJ S pm (upd jm x true) DP (DJ.put (.string x) (.lit (.bool true))) (n + 1) := by
  have hs := h.sz
  exact ⟨(h.mp.keep (hg.block B (by omega) (by simp))).more (by omega), h.mj.put x ho, cellBy hg h.c3 (by simp), cellBy hg h.c4 (by simp), h.rN.kept hg (.inr (row_ge h.rN (by omega))), h.rP.kept hg (.inr (row_ge h.rP (by omega))), h.rJ.kept hg (.inr (row_ge h.rJ (by omega))), Nat.le_trans hs hg.size⟩
/-- An append to the names. -/
theorem mem_N (h : Mem w B aN aP aJ cN cP cJ S pm jm DP DJ n) (v : ByteArray) {g c : Nat} (ho : w'.ownsRow (B + 3) 9 1 (.slice (some ⟨g, 0, none⟩) (S.names.length + 1) c) (S.names.length + 1) (S.names.map Value.string ++ [.string v])) (hg : w.grownBy w' (Value.slice aN S.names.length cN).ownBlock) :
    Mem w' B (some ⟨g, 0, none⟩) aP aJ c cP cJ ⟨S.names ++ [v], S.pows, S.jail⟩ pm jm DP DJ n := by
  have hs := h.sz
  refine ⟨h.mp.keep (hg.block B (by omega) (row_low h.rN (by omega))), h.mj.keep (hg.block (B + 1) (by omega) (row_low h.rN (by omega))), cellBy hg h.c3 (row_low h.rN (by omega)), cellBy hg h.c4 (row_low h.rN (by omega)), ?_, h.rP.kept hg (rows_apart h.rP h.rN (by decide)), h.rJ.kept hg (rows_apart h.rJ h.rN (by decide)), Nat.le_trans hs hg.size⟩
  simpa using ho
theorem mem_P (h : Mem w B aN aP aJ cN cP cJ S pm jm DP DJ n) (p : Int) {g c : Nat} (ho : w'.ownsRow (B + 3) 2 1 (.slice (some ⟨g, 0, none⟩) (S.pows.length + 1) c) (S.pows.length + 1) (S.pows.map (Value.int .i64) ++ [.int .i64 p])) (hg : w.grownBy w' (Value.slice aP S.pows.length cP).ownBlock) :
    Mem w' B aN (some ⟨g, 0, none⟩) aJ cN c cJ ⟨S.names, S.pows ++ [p], S.jail⟩ pm jm DP DJ n := by
  have hs := h.sz
  refine ⟨h.mp.keep (hg.block B (by omega) (row_low h.rP (by omega))), h.mj.keep (hg.block (B + 1) (by omega) (row_low h.rP (by omega))), cellBy hg h.c3 (row_low h.rP (by omega)), cellBy hg h.c4 (row_low h.rP (by omega)), h.rN.kept hg (rows_apart h.rN h.rP (by decide)), ?_, h.rJ.kept hg (rows_apart h.rJ h.rP (by decide)), Nat.le_trans hs hg.size⟩
  simpa using ho
theorem mem_J (h : Mem w B aN aP aJ cN cP cJ S pm jm DP DJ n) (b : Bool) {g c : Nat} (ho : w'.ownsRow (B + 3) 4 1 (.slice (some ⟨g, 0, none⟩) (S.jail.length + 1) c) (S.jail.length + 1) (S.jail.map Value.bool ++ [.bool b])) (hg : w.grownBy w' (Value.slice aJ S.jail.length cJ).ownBlock) :
    Mem w' B aN aP (some ⟨g, 0, none⟩) cN cP c ⟨S.names, S.pows, S.jail ++ [b]⟩ pm jm DP DJ n := by
  have hs := h.sz
  refine ⟨h.mp.keep (hg.block B (by omega) (row_low h.rJ (by omega))), h.mj.keep (hg.block (B + 1) (by omega) (row_low h.rJ (by omega))), cellBy hg h.c3 (row_low h.rJ (by omega)), cellBy hg h.c4 (row_low h.rJ (by omega)), h.rN.kept hg (rows_apart h.rN h.rJ (by decide)), h.rP.kept hg (rows_apart h.rP h.rJ (by decide)), ?_, Nat.le_trans hs hg.size⟩
  simpa using ho
/-- The row's form where it is not empty. -/
theorem row_form {base e m c : Nat} {a : Option Addr} {xs : List Value} (h : w.ownsRow base e 1 (.slice a m c) m xs) (hm : 0 < m) : ∃ g, a = some ⟨g, 0, none⟩ ∧ base ≤ g := by
  rcases h.2 with ⟨h', _⟩ | ⟨g, cap, cur, h', hb, _⟩
  · simp at h'; omega
  · simp at h'; exact ⟨g, h'.1, hb⟩
/-- A store into the powers' row. -/
theorem mem_setP {g : Nat} (h : Mem w B aN (some ⟨g, 0, none⟩) aJ cN cP cJ S pm jm DP DJ n) (k : Nat) (p : Int) :
    Mem (w.setCell ⟨g, k, none⟩ (.int .i64 p)) B aN (some ⟨g, 0, none⟩) aJ cN cP cJ ⟨S.names, S.pows.set k p, S.jail⟩ pm jm DP DJ n := by
  have hs := h.sz
  obtain ⟨ho, hg⟩ := h.rP.stored k (.int .i64 p)
  have hb := (h.rP.lt g rfl).1
  refine ⟨h.mp.keep (hg.block B (by omega) (by simp; omega)), h.mj.keep (hg.block (B + 1) (by omega) (by simp; omega)), cellBy hg h.c3 (by simp; omega), cellBy hg h.c4 (by simp; omega), h.rN.kept hg (rows_apart h.rN h.rP (by decide)), ?_, h.rJ.kept hg (rows_apart h.rJ h.rP (by decide)), Nat.le_trans hs hg.size⟩
  simpa [List.map_set] using ho
theorem mem_setJ {g : Nat} (h : Mem w B aN aP (some ⟨g, 0, none⟩) cN cP cJ S pm jm DP DJ n) (k : Nat) (b : Bool) :
    Mem (w.setCell ⟨g, k, none⟩ (.bool b)) B aN aP (some ⟨g, 0, none⟩) cN cP cJ ⟨S.names, S.pows, S.jail.set k b⟩ pm jm DP DJ n := by
  have hs := h.sz
  obtain ⟨ho, hg⟩ := h.rJ.stored k (.bool b)
  have hb := (h.rJ.lt g rfl).1
  refine ⟨h.mp.keep (hg.block B (by omega) (by simp; omega)), h.mj.keep (hg.block (B + 1) (by omega) (by simp; omega)), cellBy hg h.c3 (by simp; omega), cellBy hg h.c4 (by simp; omega), h.rN.kept hg (rows_apart h.rN h.rJ (by decide)), h.rP.kept hg (rows_apart h.rP h.rJ (by decide)), ?_, Nat.le_trans hs hg.size⟩
  simpa [List.map_set] using ho
theorem Mem.more {m : Nat} (h : Mem w B aN aP aJ cN cP cJ S pm jm DP DJ n) (hm : n ≤ m) : Mem w B aN aP aJ cN cP cJ S pm jm DP DJ m := { h with mp := h.mp.more hm, mj := h.mj.more hm }
/-- The names as a slice that can be read. -/
theorem Mem.strs (h : Mem w B aN aP aJ cN cP cJ S pm jm DP DJ n) : StrsAt w aN S.names := fun hn => by
  have hl : 0 < S.names.length := List.length_pos_iff.2 hn
  obtain ⟨g, rfl, _⟩ := row_form h.rN hl
  refine ⟨g, 0, rfl, (h.rN.lt g rfl).2, fun j hj => ?_⟩
  rw [Nat.zero_add, h.rN.cellAt j (by omega)]
  simp [List.getD, hj]
theorem Mem.cellP {g k : Nat} (h : Mem w B aN (some ⟨g, 0, none⟩) aJ cN cP cJ S pm jm DP DJ n) (hk : k < S.pows.length) : w.cell? ⟨g, k, none⟩ = some (.int .i64 (S.pows.getD k 0)) ∧ w.frozen? ⟨g, k, none⟩ = false := by
  refine ⟨?_, h.rP.frozenAt k⟩
  rw [h.rP.cellAt k (by omega)]
  simp [List.getD, hk]
theorem Mem.cellJ {g k : Nat} (h : Mem w B aN aP (some ⟨g, 0, none⟩) cN cP cJ S pm jm DP DJ n) (hk : k < S.jail.length) : w.cell? ⟨g, k, none⟩ = some (.bool (S.jail.getD k false)) ∧ w.frozen? ⟨g, k, none⟩ = false := by
  refine ⟨?_, h.rJ.frozenAt k⟩
  rw [h.rJ.cellAt k (by omega)]
  simp [List.getD, hk]
/-- At the start. -/
theorem mem_start (w : World) (C : Array Value) (h18 : C[18]? = some (.map (some w.heap.size))) (h19 : C[19]? = some (.map (some (w.heap.size + 1)))) :
    Mem (((w.alloc (.map #[] 0)).alloc (.map #[] 0)).alloc (.cells C 62)) w.heap.size none none none 0 0 0 ⟨[], [], []⟩ (fun _ => none) (fun _ => false) (.map []) (.map []) 0 := by
  have e1 : (w.alloc (.map #[] 0)).heap.size = w.heap.size + 1 := by simp
  have e2 : ((w.alloc (.map #[] 0)).alloc (.map #[] 0)).heap.size = w.heap.size + 1 + 1 := by simp
  have m2 : ((w.alloc (.map #[] 0)).alloc (.map #[] 0)).ownsMap Yba.prog 9 (plainElem (H := Unit) Yba.prog 4) (w.heap.size + 1) 0 (.map []) := by rw [← e1]; exact World.ownsMap_made _ _ _ _
  refine ⟨⟨((World.ownsMap_made w _ _ _).alloc _).alloc _, fun x => rfl, fun x p hp => by cases hp⟩, ⟨m2.alloc _, fun x => rfl⟩, ?_, ?_, World.ownsRow_nil _ _ _ _, World.ownsRow_nil _ _ _ _, World.ownsRow_nil _ _ _ _, by simp⟩
  · rw [World.cell?_alloc_at (hn := e2.symm)]; exact h18
  · rw [World.cell?_alloc_at (hn := e2.symm)]; exact h19
end Go.Proofs.Ybulkbwco
