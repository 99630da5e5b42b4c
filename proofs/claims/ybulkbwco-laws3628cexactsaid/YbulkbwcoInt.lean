/-
  math/big's Int: NewInt, Add, Cmp.
-/
import Derived.Test.YbulkbwcoNat7
import Derived.Deep.RegionWith
namespace Go.Proofs.Ybulkbwco
open Go.RowKit
set_option linter.unusedVariables false

def mag (T : Int) : Int := if T < 0 then -T else T
/-- Block p is the big.Int T, its words in the slice v. -/
structure IntIs (w : World) (p : Nat) (v : Value) (T : Int) : Prop where
  blk : w.heap[p]? = some (.cells #[.bool (decide (T < 0)), v] 38 (0, 0))
  nat : NatAt w v (mag T)

set_option maxRecDepth 100000 in
set_option maxHeartbeats 400000 in
theorem newInt0 (w : World) :
    Calls Yba.prog 9 #[.int .i64 0] w fun e w' => e = .returned (.pointer (some ⟨w.heap.size, 0, none⟩)) ∧ w' = w.alloc (.cells #[.bool false, .slice none 0 0] 38) := by
  go_enter Yba.func9, Yba.ntmps9
  go_wp2
  go_ret
  exact ⟨rfl, rfl⟩
set_option maxRecDepth 100000 in
set_option maxHeartbeats 400000 in
theorem newIntP (x : Int) (h : 0 < x) (hx : x ≤ 9223372036854775807) (w : World) :
    Calls Yba.prog 9 #[.int .i64 x] w fun e w' => e = .returned (.pointer (some ⟨w.heap.size + 1, 0, none⟩)) ∧ w' = (w.alloc (.cells #[.int .u64 x] 67)).alloc (.cells #[.bool false, .slice (some ⟨w.heap.size, 0, none⟩) 1 1] 38) := by
  have hz : (x == 0) = false := by simp; omega
  go_enter Yba.func9, Yba.ntmps9
  go_wp2
  go_ret
  exact ⟨rfl, by rw [decide_eq_false (by omega)]⟩
theorem wrapneg (x : Int) (h : x < 0) (hx : -9223372036854775808 ≤ x) : IntKind.u64.wrap (-IntKind.u64.wrap x) = -x := by
  rw [IntKind.wrap_u64, IntKind.wrap_u64]; omega
set_option maxRecDepth 100000 in
set_option maxHeartbeats 400000 in
theorem newIntN (x : Int) (h : x < 0) (hx : -9223372036854775808 ≤ x) (w : World) :
    Calls Yba.prog 9 #[.int .i64 x] w fun e w' => e = .returned (.pointer (some ⟨w.heap.size + 1, 0, none⟩)) ∧ w' = (w.alloc (.cells #[.int .u64 (-x)] 67)).alloc (.cells #[.bool true, .slice (some ⟨w.heap.size, 0, none⟩) 1 1] 38) := by
  have hz : (x == 0) = false := by simp; omega
  go_enter Yba.func9, Yba.ntmps9
  go_wp2
  go_ret
  exact ⟨rfl, by rw [wrapneg x h hx]⟩

theorem mag_nn (T : Int) : 0 ≤ mag T := by unfold mag; split <;> omega
/-- NewInt. -/
theorem newInt_any (x : Int) (h0 : -9223372036854775808 ≤ x) (h1 : x ≤ 9223372036854775807) (w : World) :
    Calls Yba.prog 9 #[.int .i64 x] w fun e w' => ∃ p v, e = .returned (.pointer (some ⟨p, 0, none⟩)) ∧ IntIs w' p v x ∧ Below w.heap.size w w' ∧ w.heap.size ≤ p ∧ ∀ g, v.ownBlock = some g → w.heap.size ≤ g := by
  have hh : ∀ (s : Bool) (y : Int), 0 < y → y < 18446744073709551616 → mag x = y → decide (x < 0) = s →
      IntIs ((w.alloc (.cells #[.int .u64 y] 67)).alloc (.cells #[.bool s, .slice (some ⟨w.heap.size, 0, none⟩) 1 1] 38)) (w.heap.size + 1) (.slice (some ⟨w.heap.size, 0, none⟩) 1 1) x := by
    intro s y y0 y1 e1 e2
    refine ⟨?_, mag_nn x, .inr ⟨w.heap.size, 1, #[.int .u64 y], by rw [e1, dig1 y0 y1]; rfl, ?_⟩⟩
    · rw [e2]
      show ((w.alloc _).heap.push _)[w.heap.size + 1]? = _
      rw [Array.getElem?_push, if_pos (by simp)]
    · refine ⟨?_, rfl, .inl rfl, by rw [e1, dig1 y0 y1]; simp, fun j hj => ⟨y, by obtain rfl : j = 0 := (by omega); rfl⟩, fun j z hz => ?_⟩
      · exact (Below.heap_alloc _ _ _ (by simp)).trans (Row.new w _)
      · rw [e1, dig1 y0 y1] at hz
        match j, hz with
        | 0, hz => simp at hz; subst hz; rfl
  have bb : ∀ o1 o2, Below w.heap.size w ((w.alloc o1).alloc o2) := fun o1 o2 => ((Below.refl _ w).alloc (Nat.le_refl _) o1).alloc (by simp) o2
  rcases Int.lt_trichotomy x 0 with h | h | h
  · refine (newIntN x h h0 w).mono ?_
    rintro e w' ⟨rfl, rfl⟩
    exact ⟨_, _, rfl, hh true (-x) (by omega) (by omega) (by unfold mag; rw [if_pos h]) (decide_eq_true h), bb _ _, by omega, fun g hg => by cases hg; exact Nat.le_refl _⟩
  · subst h
    refine (newInt0 w).mono ?_
    rintro e w' ⟨rfl, rfl⟩
    refine ⟨_, _, rfl, ⟨?_, ⟨mag_nn 0, .inl ⟨rfl, rfl⟩⟩⟩, (Below.refl _ w).alloc (Nat.le_refl _) _, Nat.le_refl _, fun g hg => by cases hg⟩
    show (w.heap.push _)[w.heap.size]? = _
    simp
  · refine (newIntP x h h1 w).mono ?_
    rintro e w' ⟨rfl, rfl⟩
    exact ⟨_, _, rfl, hh false x h (by omega) (by unfold mag; rw [if_neg (by omega)]) (decide_eq_false (by omega)), bb _ _, by omega, fun g hg => by cases hg; exact Nat.le_refl _⟩

/-! ### Add -/
theorem IntIs.c0 {w : World} {p : Nat} {v : Value} {T : Int} (h : IntIs w p v T) : w.cell? ⟨p, 0, none⟩ = some (.bool (decide (T < 0))) := by simp [World.cell?, h.blk]
theorem IntIs.c1 {w : World} {p : Nat} {v : Value} {T : Int} (h : IntIs w p v T) : w.cell? ⟨p, 1, none⟩ = some v := by simp [World.cell?, h.blk]
theorem IntIs.f {w : World} {p : Nat} {v : Value} {T : Int} (h : IntIs w p v T) (j : Nat) : w.frozen? ⟨p, j, none⟩ = false := by simp [World.frozen?, h.blk]

theorem slice_form {w : World} {v : Value} {n : Int} (h : NatAt w v n) : ∃ ao l c, v = .slice ao l c := by rcases h.2 with ⟨_, rfl⟩ | ⟨g, c, cur, rfl, h⟩ <;> exact ⟨_, _, _, rfl⟩
theorem IntIs.lt {w : World} {p : Nat} {v : Value} {T : Int} (h : IntIs w p v T) : p < w.heap.size := lt_of_block h.blk
/-- A number's row is no Int's block. -/
theorem IntIs.apart {w : World} {p : Nat} {v u : Value} {T n : Int} (h : IntIs w p v T) (hn : NatAt w u n) : ¬ u.ownBlock = some p := by
  intro e
  rcases hn.2 with ⟨_, rfl⟩ | ⟨g, c, cur, rfl, hh⟩
  · cases e
  · have e' : g = p := Option.some.inj e
    subst e'
    have h1 := h.blk
    rw [show w.heap[g]? = _ from hh.row] at h1
    simp at h1
theorem IntIs.keep {w w' : World} {p : Nat} {v : Value} {T : Int} (h : IntIs w p v T) (hp : w'.heap[p]? = w.heap[p]?) (hv : ∀ g, v.ownBlock = some g → w'.heap[g]? = w.heap[g]?) : IntIs w' p v T := ⟨hp.trans h.blk, h.nat.keep hv⟩
/-- An Int that is not turned. -/
theorem IntIs.turned {w w' : World} {p : Nat} {v : Value} {T : Int} {S : Nat → Prop} (h : IntIs w p v T) (ht : Turned w w' S) (hp : ¬ S p) (hv : ∀ g, v.ownBlock = some g → ¬ S g) : IntIs w' p v T :=
  h.keep (ht.block p h.lt hp) (fun g hg => ht.block g (h.nat.lt g hg) (hv g hg))
theorem Turned.drawn (w : World) (n : Nat) (S : Nat → Prop) : Turned w (w.drewN n) S := (Turned.refl w S).drewN n

theorem keep3 {w w3 : World} {p1 p2 : Nat} {v1 v2 v3 : Value} {T Y r : Int} {sg : Bool} (A : IntIs w p1 v1 T) (hsg : decide (T < 0) = sg) (B : IntIs w p2 v2 Y) (x1 : ¬ v1.ownBlock = some p1) (x2 : ¬ v1.ownBlock = some p2) (L : Left1 w.drew w3 v1 v3 r) :
    w3.cell? ⟨p1, 1, none⟩ = some v1 ∧ w3.cell? ⟨p2, 1, none⟩ = some v2 ∧ w3.frozen? ⟨p1, 1, none⟩ = false ∧ w3.cell? ⟨p1, 0, none⟩ = some (.bool sg) ∧ w3.frozen? ⟨p1, 0, none⟩ = false := by
  have h1 := L.turned.block p1 A.lt x1
  have h2 := L.turned.block p2 B.lt x2
  refine ⟨?_, ?_, ?_, ?_, ?_⟩
  · rw [World.cell?_of_block (w := w.drew) (a := ⟨p1, 1, none⟩) h1]; exact A.c1
  · rw [World.cell?_of_block (w := w.drew) (a := ⟨p2, 1, none⟩) h2]; exact B.c1
  · rw [World.frozen?_of_block (w := w.drew) (a := ⟨p1, 1, none⟩) h1]; exact A.f 1
  · rw [World.cell?_of_block (w := w.drew) (a := ⟨p1, 0, none⟩) h1, ← hsg]; exact A.c0
  · rw [World.frozen?_of_block (w := w.drew) (a := ⟨p1, 0, none⟩) h1]; exact A.f 0

/-- What Add leaves. -/
structure Sum1 (w w' : World) (p1 : Nat) (v1 v' : Value) (X : Int) : Prop where
  int : IntIs w' p1 v' X
  turned : Turned w w' (fun k => k = p1 ∨ v1.ownBlock = some k)
  place : v'.ownBlock = v1.ownBlock ∨ ∃ g, v'.ownBlock = some g ∧ w.heap.size ≤ g
theorem fin3 {w0 w w3 : World} {p1 : Nat} {v1 v3 : Value} {T r X : Int} {s : Bool} (tq : Turned w0 w (fun _ => False)) (A : IntIs w p1 v1 T) (x1 : ¬ v1.ownBlock = some p1) (L : Left1 w.drew w3 v1 v3 r) (hr : mag X = r) (hs : decide (X < 0) = s) :
    Sum1 w0 ((w3.setCell ⟨p1, 1, none⟩ v3).setCell ⟨p1, 0, none⟩ (.bool s)) p1 v1 v3 X := by
  have lt3 : p1 < w3.heap.size := Nat.lt_of_lt_of_le A.lt L.turned.size
  have h1 : w3.heap[p1]? = some (.cells #[.bool (decide (T < 0)), v1] 38 (0, 0)) := (L.turned.block p1 A.lt x1).trans A.blk
  have x3 : ¬ v3.ownBlock = some p1 := by
    intro e
    rcases L.nat.2 with ⟨_, rfl⟩ | ⟨g, c, cur, rfl, hh⟩
    · cases e
    · have e' : g = p1 := Option.some.inj e
      subst e'
      rw [show w3.heap[g]? = _ from hh.row] at h1
      simp at h1
  have tS : Turned w0 ((w3.setCell ⟨p1, 1, none⟩ v3).setCell ⟨p1, 0, none⟩ (.bool s)) (fun k => k = p1 ∨ v1.ownBlock = some k) := by
    have t1 : Turned w0 w3 (fun k => k = p1 ∨ v1.ownBlock = some k) := (tq.mono (fun _ _ h => h.elim)).trans (((Turned.drawn w 1 _)).trans (L.turned.mono (fun _ _ h => .inr h)))
    exact (t1.setCell ⟨p1, 1, none⟩ _ (.inl (.inl rfl))).setCell ⟨p1, 0, none⟩ _ (.inl (.inl rfl))
  refine ⟨⟨?_, ?_⟩, tS, ?_⟩
  · simp [World.setCell, Array.getElem?_modify, h1, hs]
  · rw [hr]
    refine L.nat.keep (fun g hg => ?_)
    have : g ≠ p1 := fun e => x3 (e ▸ hg)
    rw [Below.heap_setCell _ _ _ _ this, Below.heap_setCell _ _ _ _ this]
  · rcases L.place with h | ⟨g, h, hl⟩
    · exact .inl h
    · exact .inr ⟨g, h, Nat.le_trans tq.size hl⟩
theorem len_pos {w : World} {ao : Option Addr} {l c : Nat} {n : Int} (h : NatAt w (.slice ao l c) n) : (0 < l ↔ n ≠ 0) := by
  rcases h.2 with ⟨rfl, e⟩ | ⟨g, c, cur, e, hh⟩
  · cases e; simp
  · cases e
    constructor
    · intro h' e; subst e; simp [dig0] at h'
    · intro h'; exact dig_pos h.1 h'

theorem sum_same {T Y : Int} {sg : Bool} (h1 : decide (T < 0) = sg) (h2 : decide (Y < 0) = sg) : mag (T + Y) = mag T + mag Y ∧ (mag T + mag Y ≠ 0 → decide (T + Y < 0) = sg) ∧ (¬ mag T + mag Y ≠ 0 → decide (T + Y < 0) = false) := by
  cases sg
  · have a := of_decide_eq_false h1
    have b := of_decide_eq_false h2
    unfold mag
    rw [if_neg a, if_neg b, if_neg (by omega)]
    exact ⟨rfl, fun _ => decide_eq_false (by omega), fun _ => decide_eq_false (by omega)⟩
  · have a := of_decide_eq_true h1
    have b := of_decide_eq_true h2
    unfold mag
    rw [if_pos a, if_pos b, if_pos (by omega)]
    exact ⟨by omega, fun _ => decide_eq_true (by omega), fun h => absurd (by omega) h⟩

set_option maxRecDepth 100000 in
set_option maxHeartbeats 2000000 in
theorem add_same (p1 p2 : Nat) (v1 v2 : Value) (T Y : Int) (w : World) (A : IntIs w p1 v1 T) (B : IntIs w p2 v2 Y) (hs : decide (T < 0) = decide (Y < 0)) (hp : p1 ≠ p2) (hT : mag T < 170141183460469231731687303715884105728) (hY : mag Y < 18446744073709551616) (hne : v1.ownBlock = none ∨ v1.ownBlock ≠ v2.ownBlock) :
    Calls Yba.prog 11 #[.pointer (some ⟨p1, 0, none⟩), .pointer (some ⟨p1, 0, none⟩), .pointer (some ⟨p2, 0, none⟩)] w fun e w' => e = .returned (.pointer (some ⟨p1, 0, none⟩)) ∧ ∃ v', Sum1 w w' p1 v1 v' (T + Y) := by
  have cA : ∀ W, Turned w W (fun _ => False) → Calls Yba.prog 22 #[v1, v1, v2] W fun e w' => ∃ v', e = .returned v' ∧ Left1 W w' v1 v' (mag T + mag Y) := fun W ht => nat_add (A.turned ht (fun h => h) (fun _ _ h => h)).nat (B.turned ht (fun h => h) (fun _ _ h => h)).nat hT hY hne
  obtain ⟨ao, l, c, rfl⟩ := slice_form A.nat
  obtain ⟨bo, m, d, rfl⟩ := slice_form B.nat
  have x1 := A.apart A.nat
  have x2 := B.apart A.nat
  have a0 := A.c0
  have b0 := B.c0
  rw [← hs] at b0
  clear hT hY
  obtain ⟨sg, hsg⟩ : ∃ sg, decide (T < 0) = sg := ⟨_, rfl⟩
  rw [hsg] at a0 b0 hs
  have HS : Hid (decide (T < 0) = sg ∧ decide (Y < 0) = sg) := ⟨hsg, hs.symm⟩
  clear hs hsg
  obtain ⟨r, hr⟩ : ∃ r, mag T + mag Y = r := ⟨_, rfl⟩
  rw [hr] at cA
  have HR : Hid (mag T + mag Y = r) := hr
  clear hr
  go_enter Yba.func11, Yba.ntmps11
  go_wp2
  go_quiet (fail)
  have tq := Turned.drawn w nq (fun _ => False)
  have A1 := A.turned tq (fun h => h) (fun _ _ h => h)
  have B1 := B.turned tq (fun h => h) (fun _ _ h => h)
  generalize w.drewN nq = wq at tq A1 B1 ⊢
  have a1 := A1.c1
  have b1 := B1.c1
  clear a0 b0
  go_wp2
  go_region_with ((go_at_call 22; refine (cA _ ?_).mono ?_; exact tq.drewN 1; rintro e w3 ⟨v3, rfl, L3⟩; obtain ⟨ao3, l3, c3, rfl⟩ := slice_form L3.nat; obtain ⟨K3, K4, F3, K5, F5⟩ := keep3 A1 HS.out.1 B1 x1 x2 L3))
  all_goals
    have HL : Hid (0 < l3 ↔ r ≠ 0) := len_pos L3.nat
    have FN : ∀ s, decide (T + Y < 0) = s → Sum1 w ((w3.setCell ⟨p1, 1, none⟩ (.slice ao3 l3 c3)).setCell ⟨p1, 0, none⟩ (.bool s)) p1 (.slice ao l c) (.slice ao3 l3 c3) (T + Y) := fun s hs => fin3 tq A1 x1 L3 ((sum_same HS.out.1 HS.out.2).1.trans HR.out) hs
    clear cA A1 B1 L3 A B x1 x2
    by_cases hl3 : 0 < l3
    · have hd : decide (T + Y < 0) = sg := (sum_same HS.out.1 HS.out.2).2.1 (by rw [HR.out]; exact HL.out.1 hl3)
      have F1 := FN sg hd
      clear FN hd
      go_wp2
      go_ret
      exact ⟨rfl, _, F1⟩
    · have hd : decide (T + Y < 0) = false := (sum_same HS.out.1 HS.out.2).2.2 (by rw [HR.out]; exact fun h => hl3 (HL.out.2 h))
      have F1 := FN false hd
      clear FN hd
      go_wp2
      go_ret
      exact ⟨rfl, _, F1⟩
end Go.Proofs.Ybulkbwco
