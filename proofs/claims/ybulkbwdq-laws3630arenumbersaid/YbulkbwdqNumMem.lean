/-
  The memory of number, and its plain state.
-/
import Derived.Test.YbulkbwdqNumPlain
import Derived.Test.YbulkbwdqZeros
namespace Go.Proofs.Ybulkbwdq
open Go.RowKit
set_option linter.unusedVariables false

/-- Block p is the row C of type t, nothing frozen. -/
def Blk (w : World) (p : Nat) (C : Array Value) (t : TypeId) : Prop := w.heap[p]? = some (.cells C t (0, 0))
theorem Blk.cell {w : World} {p : Nat} {C : Array Value} {t : TypeId} (h : Blk w p C t) (j : Nat) : w.cell? ⟨p, j, none⟩ = C[j]? := by simp [World.cell?, show w.heap[p]? = _ from h]
theorem Blk.free {w : World} {p : Nat} {C : Array Value} {t : TypeId} (h : Blk w p C t) (j : Nat) : w.frozen? ⟨p, j, none⟩ = false := by simp [World.frozen?, show w.heap[p]? = _ from h]
theorem Blk.lt {w : World} {p : Nat} {C : Array Value} {t : TypeId} (h : Blk w p C t) : p < w.heap.size := (Array.getElem?_eq_some_iff.1 h).1
theorem Blk.set {w : World} {p : Nat} {C : Array Value} {t : TypeId} (h : Blk w p C t) (j : Nat) (v : Value) : Blk (w.setCell ⟨p, j, none⟩ v) p (C.setIfInBounds j v) t := by
  have h' : w.heap[p]? = some (.cells C t (0, 0)) := h
  unfold Blk
  simp [World.setCell, Array.getElem?_modify, h']
theorem Blk.new (w : World) (C : Array Value) (t : TypeId) : Blk (w.alloc (.cells C t)) w.heap.size C t := by
  show (w.heap.push _)[w.heap.size]? = _
  simp
theorem Blk.alloc {w : World} {p : Nat} {C : Array Value} {t : TypeId} (h : Blk w p C t) (o : Obj) : Blk (w.alloc o) p C t := (Below.heap_alloc w o p h.lt).trans h
theorem Blk.grown {w w' : World} {p : Nat} {C : Array Value} {t : TypeId} {r : Option Nat} (h : Blk w p C t) (hg : w.grownBy w' r) (hne : some p ≠ r) : Blk w' p C t := (hg.block p h.lt hne).trans h
theorem Blk.apart {w : World} {p q : Nat} {C D : Array Value} {t s : TypeId} (h : Blk w p C t) (k : Blk w q D s) (hts : t ≠ s) : p ≠ q := fun e => by
  subst e
  unfold Blk at h k
  rw [h] at k
  cases k
  exact hts rfl
theorem row_blk {w : World} {base e s n : Nat} {v : Value} {xs : List Value} (h : w.ownsRow base e s v n xs) {p : Nat} {C : Array Value} {t : TypeId} (k : Blk w p C t) (hne : t ≠ e) : some p ≠ v.ownBlock := by
  rcases h.2 with ⟨rfl, _⟩ | ⟨g, cap, cur, rfl, hb, hg, _⟩
  · simp [Value.ownBlock]
  · intro e1
    have : p = g := by simpa [Value.ownBlock] using e1
    exact (Blk.apart k (show Blk w g cur e from hg) hne) this

/-- The world has turned at most at the blocks of S, and grown. -/
structure Turned (w w' : World) (S : Nat → Prop) : Prop where
  os : w'.os = w.os
  tape : w'.tape = w.tape
  output : w'.output = w.output
  size : w.heap.size ≤ w'.heap.size
  block : ∀ k, k < w.heap.size → ¬ S k → w'.heap[k]? = w.heap[k]?
theorem Turned.refl (w : World) (S : Nat → Prop) : Turned w w S := ⟨rfl, rfl, rfl, Nat.le_refl _, fun _ _ _ => rfl⟩
theorem Turned.trans {a b c : World} {S : Nat → Prop} (h : Turned a b S) (k : Turned b c S) : Turned a c S :=
  ⟨k.os.trans h.os, k.tape.trans h.tape, k.output.trans h.output, Nat.le_trans h.size k.size, fun i hi hs => (k.block i (Nat.lt_of_lt_of_le hi h.size) hs).trans (h.block i hi hs)⟩
theorem Turned.grown {a b c : World} {S : Nat → Prop} {r : Option Nat} (h : Turned a b S) (hg : b.grownBy c r) (hr : ∀ k, r = some k → S k ∨ a.heap.size ≤ k) : Turned a c S :=
  ⟨hg.os.trans h.os, hg.tape.trans h.tape, hg.output.trans h.output, Nat.le_trans h.size hg.size, fun i hi hs => (hg.block i (Nat.lt_of_lt_of_le hi h.size) (fun e => by
    rcases hr i e.symm with h1 | h1
    · exact hs h1
    · omega)).trans (h.block i hi hs)⟩

/-- The place of v among q's registers; the offset's comes last. -/
def keyOf_ (nr : Nat) (v : Int) : Int := if v = -2 then (nr : Int) else v
def Valid (nr : Nat) (v : Int) : Prop := v = -2 ∨ (0 ≤ v ∧ v < nr)
theorem key_lt {nr : Nat} {v : Int} (h : Valid nr v) : 0 ≤ keyOf_ nr v ∧ keyOf_ nr v < (nr : Int) + 1 := by
  unfold keyOf_
  rcases h with h | h
  · rw [if_pos h]; omega
  · split <;> omega
theorem key_inj {nr : Nat} {v u : Int} (h : Valid nr v) (k : Valid nr u) (e : keyOf_ nr v = keyOf_ nr u) : v = u := by
  unfold keyOf_ at e
  by_cases h1 : v = -2
  · by_cases h2 : u = -2
    · rw [h1, h2]
    · rw [if_pos h1, if_neg h2] at e
      rcases k with k | k <;> omega
  · by_cases h2 : u = -2
    · rw [if_neg h1, if_pos h2] at e
      rcases h with h | h <;> omega
    · rw [if_neg h1, if_neg h2] at e
      exact e
/-- renum and the sources so far. -/
structure Num (nr : Nat) (rn src : List Int) : Prop where
  len : rn.length = nr + 1
  val : ∀ x ∈ src, Valid nr x
  nd : src.Nodup
  at_ : ∀ v, Valid nr v → at_ rn (keyOf_ nr v) = if v ∈ src then (place src v : Int) else -1
theorem Num.le {nr : Nat} {rn src : List Int} (h : Num nr rn src) : src.length ≤ nr + 1 := by
  have := sub_length h.nd (m := (-2 : Int) :: (List.range nr).map (fun (n : Nat) => (n : Int))) (fun x hx => by
    rcases h.val x hx with e | e
    · simp [e]
    · simp
      right
      exact ⟨x.toNat, by omega, by omega⟩)
  simpa using this
theorem Num.push {nr : Nat} {rn src : List Int} {v : Int} (h : Num nr rn src) (hv : Valid nr v) (hn : v ∉ src) : Num nr (rn.set (keyOf_ nr v).toNat (src.length : Int)) (src ++ [v]) := by
  have hk := key_lt hv
  refine ⟨by simp [h.len], fun x hx => ?_, ?_, fun u hu => ?_⟩
  · rcases List.mem_append.1 hx with hx | hx
    · exact h.val x hx
    · simp at hx; subst hx; exact hv
  · rw [List.nodup_append]
    exact ⟨h.nd, by simp, fun a ha b hb e => by simp at hb; subst hb; subst e; exact hn ha⟩
  · have hku := key_lt hu
    rw [at_set _ _ _ _ hk.1 (by rw [h.len]; omega) hku.1]
    by_cases e : u = v
    · subst e
      rw [if_pos rfl, if_pos (by simp), place_self src u hn]
    · rw [if_neg (fun e' => e (key_inj hu hv e')), h.at_ u hu]
      by_cases hm : u ∈ src
      · rw [if_pos hm, if_pos (by simp [hm]), place_snoc src v u hm]
      · rw [if_neg hm, if_neg (by simp [hm, e])]
theorem Num.start (nr : Nat) : Num nr (List.replicate (nr + 1) (-1)) [] := by
  refine ⟨by simp, fun x hx => by simp at hx, List.nodup_nil, fun v hv => ?_⟩
  have := key_lt hv
  simp [Ybulkbwdq.at_, List.getD, show (keyOf_ nr v).toNat < nr + 1 by omega]

structure NM (base : Nat) (w : World) (tg q nr gN cN : Nat) (vS : Value) (m gV cV : Nat) (rn src cur : List Int) : Prop where
  tgB : ∃ T, Blk w tg T 36 ∧ T[20]? = some (.slice (some ⟨gN, 0, none⟩) (nr + 1) cN)
  qB : ∃ T, Blk w q T 32 ∧ T[1]? = some (.int .i64 (nr : Int))
  rN : w.ownsRow base 21 1 (.slice (some ⟨gN, 0, none⟩) (nr + 1) cN) (nr + 1) (rn.map (Value.int .i32))
  rV : w.ownsRow base 21 1 (.slice (some ⟨gV, 0, none⟩) m cV) m (cur.map (Value.int .i32))
  rS : w.ownsRow base 21 1 vS src.length (src.map (Value.int .i32))
  a1 : gN ≠ gV
  a2 : vS.ownBlock ≠ some gN
  a3 : vS.ownBlock ≠ some gV

variable {base : Nat} {w w' : World} {tg q nr gN cN : Nat} {vS : Value} {m gV cV : Nat} {rn src cur : List Int}

theorem NM.grown {r : Option Nat} (h : NM base w tg q nr gN cN vS m gV cV rn src cur) (hg : w.grownBy w' r) (h1 : some tg ≠ r) (h2 : some q ≠ r) (h3 : some gN ≠ r) (h4 : some gV ≠ r) (h5 : vS.ownBlock = none ∨ vS.ownBlock ≠ r) : NM base w' tg q nr gN cN vS m gV cV rn src cur := by
  obtain ⟨T, hT, hT'⟩ := h.tgB
  obtain ⟨U, hU, hU'⟩ := h.qB
  exact ⟨⟨T, hT.grown hg h1, hT'⟩, ⟨U, hU.grown hg h2, hU'⟩, h.rN.kept hg (.inr h3), h.rV.kept hg (.inr h4), h.rS.kept hg h5, h.a1, h.a2, h.a3⟩
theorem NM.alloc (h : NM base w tg q nr gN cN vS m gV cV rn src cur) (o : Obj) : NM base (w.alloc o) tg q nr gN cN vS m gV cV rn src cur :=
  h.grown (World.grownBy_alloc w o none) (by simp) (by simp) (by simp) (by simp) (by cases vS.ownBlock <;> simp)
theorem NM.setN (h : NM base w tg q nr gN cN vS m gV cV rn src cur) (i : Nat) (v : Int) : NM base (w.setCell ⟨gN, i, none⟩ (.int .i32 v)) tg q nr gN cN vS m gV cV (rn.set i v) src cur := by
  obtain ⟨T, hT, hT'⟩ := h.tgB
  obtain ⟨U, hU, hU'⟩ := h.qB
  obtain ⟨ho, hg⟩ := h.rN.stored i (.int .i32 v)
  exact ⟨⟨T, hT.grown hg (row_blk h.rN hT (by decide)), hT'⟩, ⟨U, hU.grown hg (row_blk h.rN hU (by decide)), hU'⟩, by simpa [List.map_set] using ho, h.rV.kept hg (.inr (fun e => h.a1 (Option.some.inj e).symm)), h.rS.kept hg (.inr h.a2), h.a1, h.a2, h.a3⟩
theorem NM.setV (h : NM base w tg q nr gN cN vS m gV cV rn src cur) (i : Nat) (v : Int) : NM base (w.setCell ⟨gV, i, none⟩ (.int .i32 v)) tg q nr gN cN vS m gV cV rn src (cur.set i v) := by
  obtain ⟨T, hT, hT'⟩ := h.tgB
  obtain ⟨U, hU, hU'⟩ := h.qB
  obtain ⟨ho, hg⟩ := h.rV.stored i (.int .i32 v)
  exact ⟨⟨T, hT.grown hg (row_blk h.rV hT (by decide)), hT'⟩, ⟨U, hU.grown hg (row_blk h.rV hU (by decide)), hU'⟩, h.rN.kept hg (.inr (fun e => h.a1 (Option.some.inj e))), by simpa [List.map_set] using ho, h.rS.kept hg (.inr h.a3), h.a1, h.a2, h.a3⟩
theorem NM.addS (h : NM base w tg q nr gN cN vS m gV cV rn src cur) (v : Int) {g c H : Nat} (ho : w'.ownsRow base 21 1 (.slice (some ⟨g, 0, none⟩) (src.length + 1) c) (src.length + 1) (src.map (Value.int .i32) ++ [.int .i32 v])) (hg : w.grownBy w' vS.ownBlock) (hor : vS.ownBlock = some g ∨ g = H) (hH : w.heap.size = H) :
    NM base w' tg q nr gN cN (.slice (some ⟨g, 0, none⟩) (src.length + 1) c) m gV cV rn (src ++ [v]) cur := by
  obtain ⟨T, hT, hT'⟩ := h.tgB
  obtain ⟨U, hU, hU'⟩ := h.qB
  have l1 := (h.rN.lt gN rfl).2
  have l2 := (h.rV.lt gV rfl).2
  refine ⟨⟨T, hT.grown hg (row_blk h.rS hT (by decide)), hT'⟩, ⟨U, hU.grown hg (row_blk h.rS hU (by decide)), hU'⟩, h.rN.kept hg (.inr (fun e => h.a2 e.symm)), h.rV.kept hg (.inr (fun e => h.a3 e.symm)), by simpa using ho, h.a1, fun e => ?_, fun e => ?_⟩
  · have e' : g = gN := Option.some.inj e
    rcases hor with h1 | h1
    · exact h.a2 (h1.trans (by rw [e']))
    · omega
  · have e' : g = gV := Option.some.inj e
    rcases hor with h1 | h1
    · exact h.a3 (h1.trans (by rw [e']))
    · omega
theorem NM.atN (h : NM base w tg q nr gN cN vS m gV cV rn src cur) (i : Nat) (hi : i < nr + 1) (hl : rn.length = nr + 1) : w.cell? ⟨gN, i, none⟩ = some (.int .i32 (rn.getD i 0)) ∧ w.frozen? ⟨gN, i, none⟩ = false := by
  refine ⟨?_, h.rN.frozenAt i⟩
  rw [h.rN.cellAt i (by omega)]
  simp [List.getD, show i < rn.length by omega]
theorem NM.atV (h : NM base w tg q nr gN cN vS m gV cV rn src cur) (i : Nat) (hi : i < m) (hl : cur.length = m) : w.cell? ⟨gV, i, none⟩ = some (.int .i32 (cur.getD i 0)) ∧ w.frozen? ⟨gV, i, none⟩ = false := by
  refine ⟨?_, h.rV.frozenAt i⟩
  rw [h.rV.cellAt i (by omega)]
  simp [List.getD, show i < cur.length by omega]
/-- Behind the first statement. -/
theorem nm_start {w3 : World} {aR : Option Addr} {rc g3 c3 : Nat} {vals : List Int} {T U : Array Value} (hT : Blk w tg T 36) (hs : 20 < T.size) (hU : Blk w q U 32) (hU1 : U[1]? = some (.int .i64 (nr : Int))) (hR : w.ownsRow base 21 1 (.slice aR 0 rc) 0 []) (hV : w.ownsRow base 21 1 (.slice (some ⟨gV, 0, none⟩) m cV) m (vals.map (Value.int .i32))) (hne : (Value.slice aR 0 rc).ownBlock ≠ some gV)
    (ho : w3.ownsRow base 21 1 (.slice (some ⟨g3, 0, none⟩) (nr + 1) c3) (nr + 1) ((List.replicate (nr + 1) (0 : Int)).map (Value.int .i32))) (hg : w.grownBy w3 (Value.slice aR 0 rc).ownBlock) (hor : (Value.slice aR 0 rc).ownBlock = some g3 ∨ g3 = w.heap.size) :
    NM base (w3.setCell ⟨tg, 20, none⟩ (.slice (some ⟨g3, 0, none⟩) (nr + 1) c3)) tg q nr g3 c3 (.slice none 0 0) m gV cV (List.replicate (nr + 1) 0) [] vals ∧
    Turned w (w3.setCell ⟨tg, 20, none⟩ (.slice (some ⟨g3, 0, none⟩) (nr + 1) c3)) (fun k => k = tg ∨ k = gV ∨ (Value.slice aR 0 rc).ownBlock = some k) := by
  have hT3 := hT.grown hg (row_blk hR hT (by decide))
  have hU3 := hU.grown hg (row_blk hR hU (by decide))
  have hV3 := hV.kept hg (.inr hne.symm)
  have hg4 := grown_set w3 ⟨tg, 20, none⟩ (.slice (some ⟨g3, 0, none⟩) (nr + 1) c3)
  have lV := (hV.lt gV rfl).2
  refine ⟨⟨⟨_, hT3.set 20 _, by simp [hs]⟩, ⟨U, hU3.grown hg4 (fun e => Blk.apart hU3 hT3 (by decide) (Option.some.inj e)), hU1⟩, ho.kept hg4 (.inr (row_blk ho hT3 (by decide)).symm), hV3.kept hg4 (.inr (row_blk hV3 hT3 (by decide)).symm), World.ownsRow_nil _ _ _ _, ?_, by simp [Value.ownBlock], by simp [Value.ownBlock]⟩,
    ((Turned.refl w _).grown hg (fun k hk => .inl (.inr (.inr hk)))).grown hg4 (fun k hk => .inl (.inl (Option.some.inj hk).symm))⟩
  rcases hor with h1 | h1
  · exact fun e => hne (h1.trans (by rw [e]))
  · omega
theorem NM.ct (h : NM base w tg q nr gN cN vS m gV cV rn src cur) : w.cell? ⟨tg, 20, none⟩ = some (.slice (some ⟨gN, 0, none⟩) (nr + 1) cN) := by
  obtain ⟨T, hT, hT'⟩ := h.tgB
  rw [hT.cell]; exact hT'
theorem NM.cq (h : NM base w tg q nr gN cN vS m gV cV rn src cur) : w.cell? ⟨q, 1, none⟩ = some (.int .i64 (nr : Int)) := by
  obtain ⟨T, hT, hT'⟩ := h.qB
  rw [hT.cell]; exact hT'
end Go.Proofs.Ybulkbwdq
