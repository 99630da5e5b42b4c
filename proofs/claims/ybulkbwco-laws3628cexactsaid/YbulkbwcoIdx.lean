/-
  slices.Index at strings, walked; slices that came in.
-/
import Derived.Test.YbulkbwcoInt3
namespace Go.Proofs.Ybulkbwco
open Go.RowKit
set_option linter.unusedVariables false

theorem getD_lt (ns : List ByteArray) (j : Nat) (h : j < ns.length) : ns.getD j ByteArray.empty = ns[j] := by simp [List.getD, h]
/-- What is known of a slice of strings. -/
def StrsAt (w : World) (a : Option Addr) (ns : List ByteArray) : Prop :=
  ns ≠ [] → ∃ b off, a = some ⟨b, off, none⟩ ∧ b < w.heap.size ∧ ∀ j, j < ns.length → w.cell? ⟨b, off + j, none⟩ = some (.string (ns.getD j ByteArray.empty))
def IntsAt (k : IntKind) (w : World) (a : Option Addr) (zs : List Int) : Prop :=
  zs ≠ [] → ∃ b off, a = some ⟨b, off, none⟩ ∧ b < w.heap.size ∧ ∀ j, j < zs.length → w.cell? ⟨b, off + j, none⟩ = some (.int k (zs.getD j 0))
def BoolsAt (w : World) (a : Option Addr) (zs : List Bool) : Prop :=
  zs ≠ [] → ∃ b off, a = some ⟨b, off, none⟩ ∧ b < w.heap.size ∧ ∀ j, j < zs.length → w.cell? ⟨b, off + j, none⟩ = some (.bool (zs.getD j false))
theorem StrsAt.on {w w' : World} {a : Option Addr} {ns : List ByteArray} (h : StrsAt w a ns) (hb : Below w.heap.size w w') : StrsAt w' a ns := fun hn => by
  obtain ⟨b, off, e, hl, hc⟩ := h hn
  exact ⟨b, off, e, Nat.lt_of_lt_of_le hl hb.size, fun j hj => (hb.cell (p := ⟨b, off + j, none⟩) hl).trans (hc j hj)⟩

/-- The place of the first name that is nm, or -1. -/
def pos (ns : List ByteArray) (nm : ByteArray) : Int := match ns.findIdx? (fun x => nm.toList == x.toList) with | some i => (i : Int) | none => -1
theorem pos_hit (ns : List ByteArray) (nm : ByteArray) (k : Nat) (hk : k < ns.length) (h : (nm.toList == ns[k].toList) = true) (hb : ∀ j, j < k → (nm.toList == (ns.getD j ByteArray.empty).toList) = false) : pos ns nm = k := by
  have e : ns.findIdx? (fun x => nm.toList == x.toList) = some k := by
    rw [List.findIdx?_eq_some_iff_getElem]
    refine ⟨hk, h, fun j hj => ?_⟩
    have := hb j hj
    rw [getD_lt ns j (by omega)] at this
    simp [this]
  simp [pos, e]
theorem pos_miss (ns : List ByteArray) (nm : ByteArray) (hb : ∀ j, j < ns.length → (nm.toList == (ns.getD j ByteArray.empty).toList) = false) : pos ns nm = -1 := by
  have e : ns.findIdx? (fun x => nm.toList == x.toList) = none := by
    rw [List.findIdx?_eq_none_iff]
    intro x hx
    obtain ⟨j, hj, rfl⟩ := List.getElem_of_mem hx
    have := hb j hj
    rwa [getD_lt ns j hj] at this
  simp [pos, e]
/-- Either nm is not among the names, or it stands at its place. -/
theorem pos_cases (ns : List ByteArray) (nm : ByteArray) : (pos ns nm = -1 ∧ ∀ x ∈ ns, nm.toList ≠ x.toList) ∨ ∃ k, k < ns.length ∧ pos ns nm = (k : Int) ∧ nm.toList = (ns.getD k ByteArray.empty).toList := by
  cases h : ns.findIdx? (fun x => nm.toList == x.toList) with
  | none =>
    left
    refine ⟨by simp [pos, h], fun x hx e => ?_⟩
    rw [List.findIdx?_eq_none_iff] at h
    have := h x hx
    simp [e] at this
  | some k =>
    right
    have h' := h
    rw [List.findIdx?_eq_some_iff_getElem] at h'
    obtain ⟨hk, h1, _⟩ := h'
    exact ⟨k, hk, by simp [pos, h], by rw [getD_lt ns k hk]; simpa using h1⟩

set_option maxHeartbeats 400000 in
theorem index8 (an : Option Addr) (cn : Nat) (ns : List ByteArray) (nm : ByteArray) (w : World) (hN : StrsAt w an ns) (ln : ns.length ≤ 4096) :
    Calls Yba.prog 8 #[.slice an ns.length cn, .string nm] w fun e w' => e = .returned (.int .i64 (pos ns nm)) ∧ w' = w := by
  obtain ⟨nn, hnn⟩ : ∃ nn, nn = ns.length := ⟨_, rfl⟩
  rw [← hnn] at ln ⊢
  have HL : Hid (nn = ns.length) := hnn
  clear hnn
  go_enter Yba.func8, Yba.ntmps8
  go_wp2
  go_loop [5, 8] (fun _ i => ∃ k : Nat, k ≤ nn ∧ i = .int .i64 k ∧ Hid (∀ j, j < k → (nm.toList == (ns.getD j ByteArray.empty).toList) = false)) (fun _ i => nn - (intOf i).toNat)
  case atStart => exact ⟨0, Nat.zero_le _, rfl, fun j hj => absurd hj (Nat.not_lt_zero _)⟩
  case round =>
    obtain ⟨k, hk, rfl, HA⟩ := hrel
    by_cases hlt : k < nn
    · obtain ⟨bn, on, rfl, hbn, hcn⟩ := hN (by intro h; rw [HL.out, h] at hlt; simp at hlt)
      have hks : k < ns.length := by rw [← HL.out]; exact hlt
      have qn := hcn k hks
      obtain ⟨x, hx⟩ : ∃ x, x = ns.getD k ByteArray.empty := ⟨_, rfl⟩
      rw [← hx] at qn
      have HX : Hid (x = ns.getD k ByteArray.empty) := hx
      clear hx hcn
      cases hq : (nm.toList == x.toList) with
      | true =>
        go_wp2
        go_ret
        refine ⟨?_, rfl⟩
        rw [pos_hit ns nm k hks (by rw [← getD_lt ns k hks, ← HX.out]; exact hq) HA.out]
        rfl
      | false =>
        go_wp2
        go_round
        case rel =>
          refine ⟨k + 1, by omega, by go_num, (show Hid _ from fun j hj => ?_)⟩
          by_cases e : j = k
          · subst e; rw [← HX.out]; exact hq
          · exact HA.out j (by omega)
        case measure => simp [intOf]; omega
    · have e : k = nn := by omega
      subst e
      go_wp2
      go_ret
      refine ⟨?_, rfl⟩
      rw [pos_miss ns nm (by rw [← HL.out]; exact HA.out)]
      rfl
end Go.Proofs.Ybulkbwco
