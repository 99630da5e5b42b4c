/-
  The closures, and the plain side of the law.
-/
import Derived.Test.YbulkbwhyFun
namespace Go.Proofs.Ybulkbwhy
open Go.RowKit Go.Maps Go.WideMaps Go.Sort
set_option linter.unusedVariables false

/-- A []string that came in. -/
def StrsAt (w : World) (a : Option Addr) (ns : List ByteArray) : Prop := ns ≠ [] → ∃ b off, a = some ⟨b, off, Option.none⟩ ∧ b < w.heap.size ∧ ∀ j, j < ns.length → w.cell? ⟨b, off + j, Option.none⟩ = some (.string (ns.getD j ByteArray.empty))
theorem StrsAt.on {w w' : World} {a : Option Addr} {ns : List ByteArray} (h : StrsAt w a ns) (hb : Below w.heap.size w w') : StrsAt w' a ns := fun hn => by
  obtain ⟨b, off, h1, h2, h3⟩ := h hn
  exact ⟨b, off, h1, Nat.lt_of_lt_of_le h2 hb.size, fun j hj => (hb.cell (p := ⟨b, off + j, Option.none⟩) h2).trans (h3 j hj)⟩

def kAt (ns : List ByteArray) (i : Nat) : Key := key (ns.getD i ByteArray.empty)
theorem kAt_eq {ns : List ByteArray} {i j : Nat} : kAt ns i = kAt ns j ↔ ns.getD i ByteArray.empty = ns.getD j ByteArray.empty := ⟨fun h => key_inj h, fun h => by unfold kAt; rw [h]⟩
/-- Is it the first of its name? -/
def firstB (ns : List ByteArray) (i : Nat) : Prop := ∀ j, j < i → kAt ns j ≠ kAt ns i
def firstC (ns : List ByteArray) (i : Nat) : Bool := (List.range i).all (fun j => kAt ns j != kAt ns i)
theorem firstC_iff (ns : List ByteArray) (i : Nat) : firstC ns i = true ↔ firstB ns i := by
  unfold firstC firstB
  simp
/-- How many names there are among the first i. -/
def dist (ns : List ByteArray) : Nat → Nat
  | 0 => 0
  | i + 1 => if firstC ns i = true then dist ns i + 1 else dist ns i
theorem dist_first {ns : List ByteArray} {i : Nat} (h : firstB ns i) : dist ns (i + 1) = dist ns i + 1 := by rw [dist, if_pos ((firstC_iff ns i).2 h)]
theorem dist_other {ns : List ByteArray} {i : Nat} (h : ¬ firstB ns i) : dist ns (i + 1) = dist ns i := by rw [dist, if_neg (fun e => h ((firstC_iff ns i).1 e))]
theorem dist_le (ns : List ByteArray) : ∀ i, dist ns i ≤ i
  | 0 => Nat.le_refl _
  | i + 1 => by
    have := dist_le ns i
    by_cases h : firstB ns i
    · rw [dist_first h]; omega
    · rw [dist_other h]; omega
/-- l is the last place of i's name below n. -/
structure Last (ns : List ByteArray) (i l n : Nat) : Prop where
  lt : l < n
  eq : kAt ns l = kAt ns i
  no : ∀ j, l < j → j < n → kAt ns j ≠ kAt ns i
theorem Last.uniq {ns : List ByteArray} {i l l' n : Nat} (h : Last ns i l n) (h' : Last ns i l' n) : l = l' := by
  rcases Nat.lt_trichotomy l l' with e | e | e
  · exact absurd h'.eq (h.no l' e h'.lt)
  · exact e
  · exact absurd h.eq (h'.no l e h.lt)
/-- The closures of the first i names. -/
structure Cl (w : World) (ns : List ByteArray) (i : Nat) (pm : Key → Option Nat) : Prop where
  has : ∀ x, (pm x).isSome = true ↔ ∃ j, j < i ∧ kAt ns j = x
  at_ : ∀ j b, j < i → pm (kAt ns j) = some b → ∃ l, Last ns j l i ∧ Blk w b #[.int .i64 (l : Int)] 3
theorem Cl.start (w : World) (ns : List ByteArray) : Cl w ns 0 (fun _ => Option.none) := ⟨fun x => ⟨fun h => (by cases h), fun ⟨j, h, _⟩ => (by omega)⟩, fun j b h => (by omega)⟩
theorem Cl.on {w w' : World} {ns : List ByteArray} {i : Nat} {pm : Key → Option Nat} (h : Cl w ns i pm) (hk : ∀ p C, Blk w p C 3 → Blk w' p C 3) : Cl w' ns i pm := ⟨h.has, fun j b hj hb => by
  obtain ⟨l, h1, h2⟩ := h.at_ j b hj hb
  exact ⟨l, h1, hk _ _ h2⟩⟩
theorem Cl.put {w : World} {ns : List ByteArray} {i : Nat} {pm : Key → Option Nat} (h : Cl w ns i pm) {b : Nat} (hb : Blk w b #[.int .i64 (i : Int)] 3) : Cl w ns (i + 1) (upd pm (kAt ns i) (some b)) := by
  refine ⟨fun x => ?_, fun j b' hj hb' => ?_⟩
  · by_cases e : x = kAt ns i
    · subst e; rw [upd_same]; exact ⟨fun _ => ⟨i, by omega, rfl⟩, fun _ => rfl⟩
    · rw [upd_other _ _ e, h.has x]
      constructor
      · rintro ⟨j, h1, h2⟩; exact ⟨j, by omega, h2⟩
      · rintro ⟨j, h1, h2⟩
        refine ⟨j, ?_, h2⟩
        by_cases e' : j = i
        · subst e'; exact absurd h2.symm e
        · omega
  · by_cases e : kAt ns j = kAt ns i
    · rw [e, upd_same] at hb'
      cases hb'
      exact ⟨i, ⟨by omega, e.symm, fun k h1 h2 => by omega⟩, hb⟩
    · rw [upd_other _ _ e] at hb'
      have hji : j < i := by
        by_cases e' : j = i
        · subst e'; exact absurd rfl e
        · omega
      obtain ⟨l, h1, h2⟩ := h.at_ j b' hji hb'
      refine ⟨l, ⟨by have := h1.lt; omega, h1.eq, fun k hk1 hk2 => ?_⟩, h2⟩
      by_cases e' : k = i
      · subst e'; exact fun e2 => e e2.symm
      · exact h1.no k hk1 (by omega)
/-- .. and the size. -/
theorem size_step {w : World} {un : Value → Option Int} {ns : List ByteArray} {b n i : Nat} {pm : Key → Option Nat} {D : DataW Unit} (M : MapF un w b n pm D) (hC : Cl w ns i pm) (hs : Maps.size D = dist ns i) (d : DataW Unit) : Maps.size (D.put (.string (kAt ns i)) d) = dist ns (i + 1) := by
  rw [M.size_put]
  by_cases h : firstB ns i
  · rw [dist_first h, hs]
    have : ¬ (pm (kAt ns i)).isSome = true := fun e => by
      obtain ⟨j, h1, h2⟩ := (hC.has _).1 e
      exact h j h1 h2
    rw [if_neg this]
  · rw [dist_other h, hs]
    have : (pm (kAt ns i)).isSome = true := by
      rw [hC.has]
      unfold firstB at h
      exact Classical.byContradiction fun hn => h (fun j hj e => hn ⟨j, hj, e⟩)
    rw [if_pos this]
end Go.Proofs.Ybulkbwhy
