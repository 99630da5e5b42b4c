/-
  The roll: what activeRoll leaves; small laws on blocks.
-/
import Derived.Test.YbulkbwcoBuild
import Derived.Test.YbulkbwcoShelf
import Derived.Sort.OwnSorted
namespace Go.Proofs.Ybulkbwco
open Go.RowKit Go.Maps Go.WideMaps Go.Sort
set_option linter.unusedVariables false

/-- Block p is the row C of type t, nothing frozen. -/
def Blk (w : World) (p : Nat) (C : Array Value) (t : TypeId) : Prop := w.heap[p]? = some (.cells C t (0, 0))
theorem Blk.cell {w : World} {p : Nat} {C : Array Value} {t : TypeId} (h : Blk w p C t) (j : Nat) : w.cell? ⟨p, j, none⟩ = C[j]? := by simp [World.cell?, show w.heap[p]? = _ from h]
theorem Blk.free {w : World} {p : Nat} {C : Array Value} {t : TypeId} (h : Blk w p C t) (j : Nat) : w.frozen? ⟨p, j, none⟩ = false := by simp [World.frozen?, show w.heap[p]? = _ from h]
theorem Blk.lt {w : World} {p : Nat} {C : Array Value} {t : TypeId} (h : Blk w p C t) : p < w.heap.size := lt_of_block h
theorem Blk.set {w : World} {p : Nat} {C : Array Value} {t : TypeId} (h : Blk w p C t) (j : Nat) (v : Value) : Blk (w.setCell ⟨p, j, none⟩ v) p (C.setIfInBounds j v) t := by
  have h' : w.heap[p]? = some (.cells C t (0, 0)) := h
  unfold Blk
  simp [World.setCell, Array.getElem?_modify, h']
theorem Blk.other {w : World} {p : Nat} {C : Array Value} {t : TypeId} (h : Blk w p C t) (a : Addr) (v : Value) (hne : p ≠ a.block) : Blk (w.setCell a v) p C t := (Below.heap_setCell w a v p hne).trans h
theorem Blk.new (w : World) (C : Array Value) (t : TypeId) : Blk (w.alloc (.cells C t)) w.heap.size C t := by
  show (w.heap.push _)[w.heap.size]? = _
  simp
theorem Blk.alloc {w : World} {p : Nat} {C : Array Value} {t : TypeId} (h : Blk w p C t) (o : Obj) : Blk (w.alloc o) p C t := (Below.heap_alloc w o p h.lt).trans h
theorem Blk.grown {w w' : World} {p : Nat} {C : Array Value} {t : TypeId} {r : Option Nat} (h : Blk w p C t) (hg : w.grownBy w' r) (hne : some p ≠ r) : Blk w' p C t := (hg.block p h.lt hne).trans h
theorem Blk.turned {w w' : World} {p : Nat} {C : Array Value} {t : TypeId} {S : Nat → Prop} (h : Blk w p C t) (hg : Turned w w' S) (hne : ¬ S p) : Blk w' p C t := (hg.block p h.lt hne).trans h
theorem Blk.apart {w : World} {p q : Nat} {C D : Array Value} {t s : TypeId} (h : Blk w p C t) (k : Blk w q D s) (hts : t ≠ s) : p ≠ q := fun e => by
  subst e
  unfold Blk at h k
  rw [h] at k
  cases k
  exact hts rfl
theorem row_blk {w : World} {base e n : Nat} {v : Value} {xs : List Value} (h : w.ownsRow base e 1 v n xs) {p : Nat} {C : Array Value} {t : TypeId} (k : Blk w p C t) (hne : t ≠ e) : some p ≠ v.ownBlock := by
  rcases h.2 with ⟨rfl, _⟩ | ⟨g, cap, cur, rfl, hb, hg, _⟩
  · simp [Value.ownBlock]
  · intro e1
    have : p = g := by simpa [Value.ownBlock] using e1
    exact (Blk.apart k (show Blk w g cur e from hg) hne) this
theorem iter_blk {H : Type} {P : Program} {k : TypeId} {R : Value → Option (DataW H × List MemPlace)} {w : World} {b r n : Nat} {D : DataW H} {left : Lit → Bool} {cnt : Nat} (hr : w.ranges P k R b r n D left cnt) {p : Nat} {C : Array Value} {t : TypeId} (kb : Blk w p C t) : p ≠ r := by
  obtain ⟨_, _, _, _, _, _, _, _, _, hit, _⟩ := hr
  intro e
  subst e
  rw [show w.heap[p]? = _ from kb] at hit
  cases hit

theorem grown_set (w : World) (a : Addr) (u : Value) : w.grownBy (w.setCell a u) (some a.block) :=
  ⟨rfl, rfl, rfl, by simp [World.setCell], fun k hk hne => Below.heap_setCell w a u k (fun e => hne (by rw [e]))⟩
theorem encKey (s : ByteArray) : encStr (key s) = .string s := by
  obtain ⟨d⟩ := s
  simp [encStr, key]
theorem key_ex (x : Key) : ∃ s : ByteArray, x = key s := ⟨⟨x.toArray⟩, by simp [key]⟩
theorem filter_snoc_true (f : Key → Bool) (l : List Key) (x : Key) (h : f x = true) : (l ++ [x]).filter f = l.filter f ++ [x] := by simp [List.filter_append, h]
theorem filter_snoc_false (f : Key → Bool) (l : List Key) (x : Key) (h : f x = false) : (l ++ [x]).filter f = l.filter f := by simp [List.filter_append, h]
/-- The keys of the set that are not jailed, sorted. -/
def roster (S : St) (jm : Key → Bool) : List Key := ((S.names.map key).filter (fun x => !jm x)).mergeSort leB
/-- What is met makes the roster. -/
theorem roster_of {S : St} {pm : Key → Option Int} {jm : Key → Bool} {D : DataW Unit} {left : Lit → Bool} {met : List Key} (T : Tie S pm jm) (hh : ∀ x, Maps.has D (.string x) = (pm x).isSome) (hC : Collected D left met) (hl : ∀ kl, left kl = false) :
    (met.filter (fun x => !jm x)).mergeSort leB = roster S jm := by
  refine mergeSort_of_perm (List.Perm.filter _ ((List.perm_ext_iff_of_nodup hC.1 T.nd).2 fun x => ?_))
  rw [hC.2 x, hl, hh, ← T.has x]
  simp
end Go.Proofs.Ybulkbwco
