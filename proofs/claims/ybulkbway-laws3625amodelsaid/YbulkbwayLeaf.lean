/-
  THE LEAVES of seat b3625a: (*view).leader, the closure of position, slices.IndexFunc at Node, (*domain).position.
-/
import Derived.Test.YbulkbwayRows
import Derived.WalkKit
import Derived.WalkSpells
import Derived.WalkLawsBesides
import Derived.Laws.StructEq
import Derived.Deep.QuietTactic
import Derived.BigQuiet
namespace Go.Proofs.Ybulkbway
open Go.RowKit

/-- (*view).leader: the first member's two cells. -/
theorem leader_any (va ga na ca : Nat) (nm : ByteArray) (inc : Int) (w : World) (hva : va < w.heap.size) (hga : ga < w.heap.size) (hn : 0 < na)
    (h2 : w.cell? ⟨va, 2, none⟩ = some (.slice (some ⟨ga, 0, none⟩) na ca)) (c0 : w.cell? ⟨ga, 0, none⟩ = some (.string nm)) (c1 : w.cell? ⟨ga, 1, none⟩ = some (.int .u64 inc)) :
    Calls Yba.prog 11 #[.pointer (some ⟨va, 0, none⟩)] w fun e w' => e = .returned (.agg #[.string nm, .int .u64 inc]) ∧ Below w.heap.size w w' := by
  have hn0 : (0 : Int) < (na : Int) := by omega
  have k2 : ∀ o, (w.alloc o).cell? ⟨va, 2, none⟩ = some (.slice (some ⟨ga, 0, none⟩) na ca) := fun o => by rw [World.cell?_alloc_lt (h := hva)]; exact h2
  go_enter Yba.func11, Yba.ntmps11
  go_wp2
  exact bodyPost_ret (v := .agg #[.string nm, .int .u64 inc]) (by simp [results, Yba.results11, go_sem]) rfl ⟨rfl, (Below.refl _ _).alloc (Nat.le_refl _) _⟩

/-- The closure of position: 'n.Name == name', name in the cell ⟨B, 0⟩ of the caller's. -/
theorem pred_any (nm x0 x1 : ByteArray) (B : Nat) (w : World) (hB : B < w.heap.size) (hcell : w.cell? ⟨B, 0, none⟩ = some (.string nm)) :
    Calls Yba.prog 15 #[.agg #[.string x0, .string x1], .pointer (some ⟨B, 0, none⟩)] w fun e w' => e = .returned (.bool (x0.toList == nm.toList)) ∧ Below w.heap.size w w' := by
  have hne : B ≠ w.heap.size := by omega
  go_enter Yba.func15, Yba.ntmps15
  go_wp2
  go_ret
  exact ⟨rfl, (Below.refl _ _).alloc (Nat.le_refl _) _⟩

theorem getD_lt (ns : List ByteArray) (j : Nat) (h : j < ns.length) : ns.getD j ByteArray.empty = ns[j] := by simp [List.getD, h]
/-- The place of the first name that is nm, or -1. -/
def pos (ns : List ByteArray) (nm : ByteArray) : Int := match ns.findIdx? (fun x => x.toList == nm.toList) with | some i => (i : Int) | none => -1
theorem pos_hit (ns : List ByteArray) (nm : ByteArray) (k : Nat) (hk : k < ns.length) (h : (ns[k].toList == nm.toList) = true) (hb : ∀ j, j < k → ((ns.getD j ByteArray.empty).toList == nm.toList) = false) : pos ns nm = k := by
  have e : ns.findIdx? (fun x => x.toList == nm.toList) = some k := by
    rw [List.findIdx?_eq_some_iff_getElem]
    refine ⟨hk, h, fun j hj => ?_⟩
    have := hb j hj
    rw [getD_lt ns j (by omega)] at this
    simp [this]
  simp [pos, e]
theorem pos_miss (ns : List ByteArray) (nm : ByteArray) (hb : ∀ j, j < ns.length → ((ns.getD j ByteArray.empty).toList == nm.toList) = false) : pos ns nm = -1 := by
  have e : ns.findIdx? (fun x => x.toList == nm.toList) = none := by
    rw [List.findIdx?_eq_none_iff]
    intro x hx
    obtain ⟨j, hj, rfl⟩ := List.getElem_of_mem hx
    have := hb j hj
    rwa [getD_lt ns j hj] at this
  simp [pos, e]

set_option maxHeartbeats 400000 in
/-- slices.IndexFunc over nodes with position's closure. -/
theorem indexFunc_any (b n c B : Nat) (ns : List ByteArray) (ad : ByteArray) (nm : ByteArray) (w : World) (hn : n = ns.length) (hbig : n ≤ 1024) (hb : b < w.heap.size) (hB : B < w.heap.size)
    (hcell : w.cell? ⟨B, 0, none⟩ = some (.string nm))
    (hc : ∀ j, j < n → w.cell? ⟨b, j * 2, none⟩ = some (.string (ns.getD j ByteArray.empty)) ∧ w.cell? ⟨b, j * 2 + 1, none⟩ = some (.string ad)) :
    Calls Yba.prog 14 #[.slice (some ⟨b, 0, none⟩) n c, .func (.func 15) #[] #[.pointer (some ⟨B, 0, none⟩)]] w fun e w' => e = .returned (.int .i64 (pos ns nm)) ∧ Below w.heap.size w w' := by
  have HN : Hid (n = ns.length) := hn
  clear hn
  go_enter Yba.func14, Yba.ntmps14
  go_wp2
  go_loopw [5, 8] (fun _ i wr => ∃ k : Nat, k ≤ n ∧ i = .int .i64 k ∧ Below w.heap.size w wr ∧ Hid (∀ j, j < k → ((ns.getD j ByteArray.empty).toList == nm.toList) = false)) (fun _ i _ => n - (intOf i).toNat)
  case atStart => exact ⟨0, Nat.zero_le _, rfl, Below.refl _ _, fun j hj => absurd hj (Nat.not_lt_zero _)⟩
  case round =>
    obtain ⟨k, hk, rfl, hbel, HA⟩ := hrel
    by_cases hlt : k < n
    · obtain ⟨q0, q1⟩ := hc k hlt
      have q0' : wr.cell? ⟨b, k * 2, none⟩ = some (.string (ns.getD k ByteArray.empty)) := (hbel.cell (p := ⟨b, k * 2, none⟩) hb).trans q0
      have q1' : wr.cell? ⟨b, k * 2 + 1, none⟩ = some (.string ad) := (hbel.cell (p := ⟨b, k * 2 + 1, none⟩) hb).trans q1
      have qB : wr.cell? ⟨B, 0, none⟩ = some (.string nm) := (hbel.cell (p := ⟨B, 0, none⟩) hB).trans hcell
      have hBr : B < wr.heap.size := Nat.lt_of_lt_of_le hB hbel.size
      clear hc q0 q1
      obtain ⟨x, hx⟩ : ∃ x, x = ns.getD k ByteArray.empty := ⟨_, rfl⟩
      rw [← hx] at q0'
      have HX : Hid (x = ns.getD k ByteArray.empty) := hx
      clear hx
      have hp := pred_any nm x ad B wr hBr qB
      cases hq : (x.toList == nm.toList) with
      | true =>
        rw [hq] at hp
        have HQ : Hid ((x.toList == nm.toList) = true) := hq
        clear hq
        go_wp2_with fail
        refine hp.mono ?_
        rintro e w' ⟨rfl, hb'⟩
        go_wp2
        go_ret
        have hlt' : k < ns.length := by rw [← HN.out]; exact hlt
        refine ⟨?_, hbel.trans (hb'.mono hbel.size)⟩
        rw [pos_hit ns nm k hlt' (by rw [← getD_lt ns k hlt', ← HX.out]; exact HQ.out) HA.out]
        rfl
      | false =>
        rw [hq] at hp
        have HQ : Hid ((x.toList == nm.toList) = false) := hq
        clear hq
        go_wp2_with fail
        refine hp.mono ?_
        rintro e w' ⟨rfl, hb'⟩
        go_wp2
        go_roundw
        case rel =>
          refine ⟨k + 1, by omega, by go_num, hbel.trans (hb'.mono hbel.size), (show Hid _ from fun j hj => ?_)⟩
          by_cases e : j = k
          · subst e; rw [← HX.out]; exact HQ.out
          · exact HA.out j (by omega)
        case measure => simp [intOf]; omega
    · have e : k = n := by omega
      subst e
      go_wp2
      go_ret
      refine ⟨?_, hbel⟩
      rw [pos_miss ns nm (by rw [← HN.out]; exact HA.out)]
      rfl

/-- What is known of a list of nodes in memory: block b holds, two cells an element, the names and ad. -/
def NodesAt (w : World) (b : Nat) (ns : List ByteArray) (ad : ByteArray) : Prop :=
  b < w.heap.size ∧ ∀ j, j < ns.length → w.cell? ⟨b, j * 2, none⟩ = some (.string (ns.getD j ByteArray.empty)) ∧ w.cell? ⟨b, j * 2 + 1, none⟩ = some (.string ad)
theorem NodesAt.below {w w' : World} {B b : Nat} {ns : List ByteArray} {ad : ByteArray} (h : NodesAt w b ns ad) (hb : Below B w w') (hB : b < B) : NodesAt w' b ns ad :=
  ⟨Nat.lt_of_lt_of_le h.1 hb.size, fun j hj => ⟨(hb.cell (p := ⟨b, j * 2, none⟩) hB).trans (h.2 j hj).1, (hb.cell (p := ⟨b, j * 2 + 1, none⟩) hB).trans (h.2 j hj).2⟩⟩

set_option maxHeartbeats 400000 in
/-- (*domain).position. -/
theorem position_any (d b c : Nat) (ns : List ByteArray) (ad nm : ByteArray) (w : World) (hd : d < w.heap.size) (hbig : ns.length ≤ 1024)
    (hcd : w.cell? ⟨d, 2, none⟩ = some (.slice (some ⟨b, 0, none⟩) ns.length c)) (hN : NodesAt w b ns ad) :
    Calls Yba.prog 12 #[.pointer (some ⟨d, 0, none⟩), .string nm] w fun e w' => e = .returned (.int .i64 (pos ns nm)) ∧ Below w.heap.size w w' := by
  have hcon := indexFunc_any b ns.length c w.heap.size ns ad nm (w.alloc (.cells #[.string nm] 9)) rfl hbig (by have := hN.1; simp; omega) (by simp) (by simp)
    (hN.below ((Below.refl _ w).alloc (Nat.le_refl _) _) hN.1).2
  generalize pos ns nm = r at hcon ⊢
  clear hN
  go_enter Yba.func12, Yba.ntmps12
  go_wp2_with fail
  refine hcon.mono ?_
  rintro e w' ⟨rfl, hb'⟩
  go_wp2
  go_ret
  exact ⟨rfl, ((Below.refl _ w).alloc (Nat.le_refl _) _).trans (hb'.mono (by simp))⟩

end Go.Proofs.Ybulkbway
