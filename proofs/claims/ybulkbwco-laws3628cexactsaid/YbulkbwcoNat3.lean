/-
  nat.set and rows of words.
-/
import Derived.Test.YbulkbwcoNat2
namespace Go.Proofs.Ybulkbwco
open Go.RowKit
set_option linter.unusedVariables false

/-- Block g is a row of words, none frozen. -/
def Row (w : World) (g : Nat) (cur : Array Value) : Prop := w.heap[g]? = some (.cells cur 67 (0, 0))
theorem Row.cell {w : World} {g : Nat} {cur : Array Value} (h : Row w g cur) (j : Nat) : w.cell? ⟨g, j, none⟩ = cur[j]? := by simp [World.cell?, show w.heap[g]? = _ from h]
theorem Row.free {w : World} {g : Nat} {cur : Array Value} (h : Row w g cur) (j : Nat) : w.frozen? ⟨g, j, none⟩ = false := by simp [World.frozen?, show w.heap[g]? = _ from h]
theorem Row.lt {w : World} {g : Nat} {cur : Array Value} (h : Row w g cur) : g < w.heap.size := lt_of_block h
theorem Row.drewN {w : World} {g : Nat} {cur : Array Value} (h : Row w g cur) (n : Nat) : Row (w.drewN n) g cur := by
  have := (below_drewN (Below.refl w.heap.size w) n).block g h.lt
  exact this.trans h
theorem Row.set {w : World} {g : Nat} {cur : Array Value} (h : Row w g cur) (j : Nat) (v : Value) : Row (w.setCell ⟨g, j, none⟩ v) g (cur.setIfInBounds j v) := by
  have h' : w.heap[g]? = some (.cells cur 67 (0, 0)) := h
  unfold Row
  simp [World.setCell, Array.getElem?_modify, h']
theorem Row.other {w : World} {g : Nat} {cur : Array Value} (h : Row w g cur) (a : Addr) (v : Value) (hne : g ≠ a.block) : Row (w.setCell a v) g cur := (Below.heap_setCell w a v g hne).trans h
theorem Row.new (w : World) (cur : Array Value) : Row (w.alloc (.cells cur 67)) w.heap.size cur := by
  show (w.heap.push _)[w.heap.size]? = _
  simp
theorem Row.setRow {w : World} {g : Nat} {cur : Array Value} (h : Row w g cur) (c : Array Value) : Row (w.setRow g c) g c := setRow_heap w g cur c 67 (0, 0) h

/-- The world has turned at most at the blocks of S, and grown. -/
structure Turned (w w' : World) (S : Nat → Prop) : Prop where
  os : w'.os = w.os
  tape : w'.tape = w.tape
  output : w'.output = w.output
  size : w.heap.size ≤ w'.heap.size
  block : ∀ k, k < w.heap.size → ¬ S k → w'.heap[k]? = w.heap[k]?
theorem Turned.refl (w : World) (S : Nat → Prop) : Turned w w S := ⟨rfl, rfl, rfl, Nat.le_refl _, fun _ _ _ => rfl⟩
theorem Turned.trans {a b c : World} {S : Nat → Prop} (h : Turned a b S) (k : Turned b c S) : Turned a c S :=
  ⟨k.os.trans h.os, k.tape.trans h.tape, k.output.trans h.output, Nat.le_trans h.size k.size, fun i hi hs => (k.block i (Nat.lt_of_lt_of_le hi h.size) hs).trans (h.block i hi hs)⟩
theorem Turned.mono {a b : World} {S T : Nat → Prop} (h : Turned a b S) (hST : ∀ k, k < a.heap.size → S k → T k) : Turned a b T := ⟨h.os, h.tape, h.output, h.size, fun k hk hn => h.block k hk (fun hs => hn (hST k hk hs))⟩
theorem Turned.of_below {B : Nat} {w w' : World} {S : Nat → Prop} (h : Below w.heap.size w w') : Turned w w' S := ⟨h.os, h.tape, h.output, h.size, fun k hk _ => h.block k hk⟩
theorem Turned.drewN {a b : World} {S : Nat → Prop} (h : Turned a b S) (n : Nat) : Turned a (b.drewN n) S := h.trans (Turned.of_below (B := 0) (below_drewN (Below.refl _ b) n))
theorem Turned.alloc {a b : World} {S : Nat → Prop} (h : Turned a b S) (o : Obj) : Turned a (b.alloc o) S := h.trans (Turned.of_below (B := 0) ((Below.refl _ b).alloc (Nat.le_refl _) o))
theorem Turned.setCell {a b : World} {S : Nat → Prop} (h : Turned a b S) (p : Addr) (v : Value) (hp : S p.block ∨ a.heap.size ≤ p.block) : Turned a (b.setCell p v) S :=
  ⟨h.os, h.tape, h.output, by simp [World.setCell]; exact h.size, fun k hk hs => by
    rw [Below.heap_setCell b p v k (fun e => by subst e; rcases hp with hp | hp <;> first | exact hs hp | omega)]
    exact h.block k hk hs⟩
theorem Turned.setRow {a b : World} {S : Nat → Prop} (h : Turned a b S) (g : Nat) (c : Array Value) (hp : S g ∨ a.heap.size ≤ g) : Turned a (b.setRow g c) S :=
  ⟨h.os, h.tape, h.output, by simp [World.setRow]; exact h.size, fun k hk hs => by
    rw [setRow_other b g k c (fun e => by subst e; rcases hp with hp | hp <;> first | exact hs hp | omega)]
    exact h.block k hk hs⟩

theorem size67 : (Yba.prog.info? 67).map (·.size) = some 1 := by kernel_rfl

set_option maxRecDepth 100000 in
set_option maxHeartbeats 400000 in
/-- nat.set where there is room. -/
theorem set_fit (g l c h n d : Nat) (cur : Array Value) (cs : List Value) (w : World) (hr : Row w g cur) (hs : cur.size = c) (hn : cs.length = n) (hnc : n ≤ c) (hc : c ≤ 1000)
    (hx : ∀ j v, cs[j]? = some v → w.cell? ⟨h, j, none⟩ = some v) (h1 : ∀ v ∈ cs, v.oneCell' = true) :
    Calls Yba.prog 36 #[.slice (some ⟨g, 0, none⟩) l c, .slice (some ⟨h, 0, none⟩) n d] w fun e w' => e = .returned (.slice (some ⟨g, 0, none⟩) n c) ∧ w' = w.setRow g (cs ++ cur.toList.drop n).toArray := by
  have cM := make_fit (some ⟨g, 0, none⟩) l c n w hnc hc
  have hcp := run_copy_row (P := Yba.prog) w 36 36 3 67 g 0 n c ⟨h, 0, none⟩ n d cur 67 cs Yba.underlying36 size67 hr (by simp [hn]) (fun j v hj => by rw [Addr.add_lit, Nat.zero_add]; exact hx j v hj) (by omega) h1
  go_enter Yba.func36, Yba.ntmps36
  go_wp2_with fail
  refine cM.mono ?_
  rintro e w' ⟨rfl, rfl⟩
  go_wp2
  go_ret
  exact ⟨rfl, rfl⟩

set_option maxRecDepth 100000 in
set_option maxHeartbeats 400000 in
/-- nat.set of one word where there is no room. -/
theorem set_new (ao : Option Addr) (l h d : Nat) (b : Int) (w : World) (hh : h < w.heap.size) (hx : w.cell? ⟨h, 0, none⟩ = some (.int .u64 b)) :
    Calls Yba.prog 36 #[.slice ao l 0, .slice (some ⟨h, 0, none⟩) 1 d] w fun e w' => e = .returned (.slice (some ⟨w.heap.size, 0, none⟩) 1 1) ∧ Row w' w.heap.size #[.int .u64 b] ∧ Below w.heap.size w w' := by
  have cM := make_one ao l w
  have hx' : (w.alloc (.cells #[.int .u64 0] 67)).cell? ⟨h, 0, none⟩ = some (.int .u64 b) := by rw [World.cell?_alloc_lt (h := hh)]; exact hx
  have hcp := run_copy_row (P := Yba.prog) (w.alloc (.cells #[.int .u64 0] 67)) 36 36 3 67 w.heap.size 0 1 1 ⟨h, 0, none⟩ 1 d #[.int .u64 0] 67 [.int .u64 b] Yba.underlying36 size67 (Row.new w _) (by simp) (fun j v hj => by
    match j, hj with
    | 0, hj => simp at hj; subst hj; simpa [Addr.add] using hx') (by simp) (by intro v hv; simp at hv; subst hv; rfl)
  have R := (Row.new w #[.int .u64 0]).setRow #[.int .u64 b]
  have T := below_setRow ((Below.refl w.heap.size w).alloc (Nat.le_refl _) (.cells #[.int .u64 0] 67)) (Nat.le_refl _) #[.int .u64 b]
  have HH : Hid (Row ((w.alloc (.cells #[.int .u64 0] 67)).setRow w.heap.size #[.int .u64 b]) w.heap.size #[.int .u64 b] ∧ Below w.heap.size w ((w.alloc (.cells #[.int .u64 0] 67)).setRow w.heap.size #[.int .u64 b])) := ⟨R, T⟩
  clear R T
  go_enter Yba.func36, Yba.ntmps36
  go_wp2_with fail
  refine cM.mono ?_
  rintro e w' ⟨rfl, rfl⟩
  go_wp2
  go_ret
  exact ⟨rfl, HH.out.1, HH.out.2⟩
end Go.Proofs.Ybulkbwco
