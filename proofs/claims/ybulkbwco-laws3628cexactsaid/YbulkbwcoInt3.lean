/-
  math/big's Int: Add where the second's words outweigh; Add; Cmp at one number.
-/
import Derived.Test.YbulkbwcoInt2
namespace Go.Proofs.Ybulkbwco
open Go.RowKit
set_option linter.unusedVariables false

set_option maxRecDepth 100000 in
set_option maxHeartbeats 2000000 in
theorem add_diff_y (p1 p2 : Nat) (v1 v2 : Value) (T Y : Int) (w : World) (A : IntIs w p1 v1 T) (B : IntIs w p2 v2 Y) (hs : decide (Y < 0) = !decide (T < 0)) (hc : mag T < mag Y) (hp : p1 ≠ p2) (hT : mag T < 170141183460469231731687303715884105728) (hY : mag Y < 18446744073709551616) (hne : v1.ownBlock = none ∨ v1.ownBlock ≠ v2.ownBlock) :
    Calls Yba.prog 11 #[.pointer (some ⟨p1, 0, none⟩), .pointer (some ⟨p1, 0, none⟩), .pointer (some ⟨p2, 0, none⟩)] w fun e w' => e = .returned (.pointer (some ⟨p1, 0, none⟩)) ∧ ∃ v', Sum1 w w' p1 v1 v' (T + Y) := by
  have cA : ∀ W, Turned w W (fun _ => False) → Calls Yba.prog 23 #[v1, v2, v1] W fun e w' => ∃ v', e = .returned v' ∧ Left1 W w' v1 v' (mag Y - mag T) := fun W ht => nat_sub_y (A.turned ht (fun h => h) (fun _ _ h => h)).nat (B.turned ht (fun h => h) (fun _ _ h => h)).nat hY hc hne
  have cC : ∀ W, Turned w W (fun _ => False) → Calls Yba.prog 21 #[v1, v2] W fun e w' => e = .returned (.int .i64 (sgn (mag T) (mag Y))) ∧ ∃ q, w' = W.drewN q := fun W ht => nat_cmp (A.turned ht (fun h => h) (fun _ _ h => h)).nat (B.turned ht (fun h => h) (fun _ _ h => h)).nat hY
  have hsg0 : sgn (mag T) (mag Y) < 0 := by unfold sgn; rw [if_pos (by omega)]; omega
  generalize sgn (mag T) (mag Y) = cm at cC hsg0
  obtain ⟨ao, l, c, rfl⟩ := slice_form A.nat
  obtain ⟨bo, m, d, rfl⟩ := slice_form B.nat
  have x1 := A.apart A.nat
  have x2 := B.apart A.nat
  have a0 := A.c0
  have b0 := B.c0
  rw [hs] at b0
  have HC : Hid (mag T < mag Y) := hc
  clear hT hY hc
  obtain ⟨sg, hsg⟩ : ∃ sg, decide (T < 0) = sg := ⟨_, rfl⟩
  rw [hsg] at a0 b0 hs
  have HS : Hid (decide (T < 0) = sg ∧ decide (Y < 0) = !sg) := ⟨hsg, hs⟩
  have hq : (sg == !sg) = false := by cases sg <;> rfl
  clear hs hsg
  obtain ⟨r, hr⟩ : ∃ r, mag Y - mag T = r := ⟨_, rfl⟩
  rw [hr] at cA
  have HR : Hid (mag Y - mag T = r) := hr
  clear hr
  go_enter Yba.func11, Yba.ntmps11
  go_wp2
  go_quiet (fail)
  have tq := Turned.drawn w nq (fun _ => False)
  have A1 := A.turned tq (fun h => h) (fun _ _ h => h)
  have B1 := B.turned tq (fun h => h) (fun _ _ h => h)
  generalize w.drewN nq = wq at tq A1 B1 ⊢
  have a1 := A1.c1
  have b1 := B1.c1
  clear a0 b0
  go_wp2
  go_quiet ((go_at_call 21; refine (cC _ (tq.drewN _)).mono ?_; rintro e w2 ⟨rfl, q2, rfl⟩; exact ⟨rfl, _, by rw [World.drewN_drewN]⟩))
  have tq2 := tq.drewN nq
  have A2 := A.turned tq2 (fun h => h) (fun _ _ h => h)
  have B2 := B.turned tq2 (fun h => h) (fun _ _ h => h)
  clear a1 b1 tq A1 B1 cC
  generalize wq.drewN nq = wp at tq2 A2 B2 ⊢
  have a1 := A2.c1
  have b1 := B2.c1
  go_wp2
  go_region_with ((go_at_call 23; refine (cA _ ?_).mono ?_; exact tq2.drewN 1; rintro e w3 ⟨v3, rfl, L3⟩; obtain ⟨ao3, l3, c3, rfl⟩ := slice_form L3.nat; obtain ⟨K3, K4, F3, K5, F5⟩ := keep3 A2 HS.out.1 B2 x1 x2 L3))
  all_goals
    have HL : Hid (0 < l3 ↔ r ≠ 0) := len_pos L3.nat
    have FN : ∀ s, decide (T + Y < 0) = s → Sum1 w ((w3.setCell ⟨p1, 1, none⟩ (.slice ao3 l3 c3)).setCell ⟨p1, 0, none⟩ (.bool s)) p1 (.slice ao l c) (.slice ao3 l3 c3) (T + Y) := fun s hs => fin3 tq2 A2 x1 L3 ((sum_diff_y HS.out.1 HS.out.2 HC.out).1.trans HR.out) hs
    clear cA A2 B2 L3 A B x1 x2
    by_cases hl3 : 0 < l3
    · have hd : decide (T + Y < 0) = !sg := (sum_diff_y HS.out.1 HS.out.2 HC.out).2.1 (by rw [HR.out]; exact HL.out.1 hl3)
      have F1 := FN (!sg) hd
      clear FN hd
      go_wp2
      go_ret
      exact ⟨rfl, _, F1⟩
    · have hd : decide (T + Y < 0) = false := (sum_diff_y HS.out.1 HS.out.2 HC.out).2.2 (by rw [HR.out]; exact fun h => hl3 (HL.out.2 h))
      have F1 := FN false hd
      clear FN hd
      go_wp2
      go_ret
      exact ⟨rfl, _, F1⟩

/-- Add: p1 += p2. -/
theorem add_any (p1 p2 : Nat) (v1 v2 : Value) (T Y : Int) (w : World) (A : IntIs w p1 v1 T) (B : IntIs w p2 v2 Y) (hp : p1 ≠ p2) (hT : mag T < 170141183460469231731687303715884105728) (hY : mag Y < 18446744073709551616) (hne : v1.ownBlock = none ∨ v1.ownBlock ≠ v2.ownBlock) :
    Calls Yba.prog 11 #[.pointer (some ⟨p1, 0, none⟩), .pointer (some ⟨p1, 0, none⟩), .pointer (some ⟨p2, 0, none⟩)] w fun e w' => e = .returned (.pointer (some ⟨p1, 0, none⟩)) ∧ ∃ v', Sum1 w w' p1 v1 v' (T + Y) := by
  by_cases hs : decide (T < 0) = decide (Y < 0)
  · exact add_same p1 p2 v1 v2 T Y w A B hs hp hT hY hne
  · have hs' : decide (Y < 0) = !decide (T < 0) := by
      cases h1 : decide (T < 0) <;> cases h2 : decide (Y < 0) <;> simp_all
    by_cases hc : mag Y ≤ mag T
    · exact add_diff_x p1 p2 v1 v2 T Y w A B hs' hc hp hT hY hne
    · exact add_diff_y p1 p2 v1 v2 T Y w A B hs' (by omega) hp hT hY hne

/-! ### '==' of two pointers to two blocks -/
theorem cell_turned {w w' : World} {S : Nat → Prop} {p j : Nat} {v : Value} (h : Turned w w' S) (hc : w.cell? ⟨p, j, none⟩ = some v) (lt : p < w.heap.size) (hs : ¬ S p) : w'.cell? ⟨p, j, none⟩ = some v := by
  rw [World.cell?_of_block (w := w) (a := ⟨p, j, none⟩) (h.block p lt hs)]; exact hc
theorem shape_of {w : World} {p : Nat} {a b : Value} (h : w.heap[p]? = some (.cells #[a, b] 38 (0, 0))) : w.shape? p = some (38, 2) := by simp [World.shape?, h]
theorem free_of {w : World} {p : Nat} {a b : Value} (h : w.heap[p]? = some (.cells #[a, b] 38 (0, 0))) (j : Nat) : w.frozen? ⟨p, j, none⟩ = false := by simp [World.frozen?, h]
theorem equalIn_apart (d p1 p2 : Nat) (a b a' b' : Value) (w : World) (h1 : w.heap[p1]? = some (.cells #[a, b] 38 (0, 0))) (h2 : w.heap[p2]? = some (.cells #[a', b'] 38 (0, 0))) (hne : (p1 == p2) = false) :
    Sem.run Yba.prog (Op.equalIn (d + 1) 31 (.pointer (some ⟨p1, 0, none⟩)) (.pointer (some ⟨p2, 0, none⟩))) w = .ok false w := by
  have h : Yba.prog.underlying 31 = some (.pointer 38) := by kernel_rfl
  have hz : ∀ w, (Go.sizeOf 38).run Yba.prog w = .ok 2 w := fun w => by kernel_rfl
  have s1 := shape_of h1
  have s2 := shape_of h2
  have f1 := free_of h1 0
  have f2 := free_of h1 2
  have f3 := free_of h2 0
  have f4 := free_of h2 2
  simp [Op.equalIn, run_underlying h, hz, sameAddr, frozen, noView, viewAt, mayBeOne, stringish, shape, Sem.run, s1, s2, f1, f2, f3, f4]
  simpa using hne
theorem equal_apart (p1 p2 : Nat) (a b a' b' : Value) (w : World) (h1 : w.heap[p1]? = some (.cells #[a, b] 38 (0, 0))) (h2 : w.heap[p2]? = some (.cells #[a', b'] 38 (0, 0))) (hne : (p1 == p2) = false) :
    Sem.run Yba.prog (Op.equal 31 (.pointer (some ⟨p1, 0, none⟩)) (.pointer (some ⟨p2, 0, none⟩))) w = .ok false w := equalIn_apart 9999 p1 p2 a b a' b' w h1 h2 hne
theorem eql_apart (p1 p2 : Nat) (a b a' b' : Value) (w : World) (h1 : w.heap[p1]? = some (.cells #[a, b] 38 (0, 0))) (h2 : w.heap[p2]? = some (.cells #[a', b'] 38 (0, 0))) (hne : (p1 == p2) = false) :
    Sem.run Yba.prog (binOp .eql 31 (.pointer (some ⟨p1, 0, none⟩)) (.pointer (some ⟨p2, 0, none⟩))) w = .ok (.bool false) w := by
  have := equal_apart p1 p2 a b a' b' w h1 h2 hne
  simp only [binOp]
  simp [this]

set_option maxRecDepth 100000 in
set_option maxHeartbeats 2000000 in
/-- Cmp at one number in two Ints. -/
theorem cmp_any (p1 p2 : Nat) (v1 v2 : Value) (T : Int) (w : World) (A : IntIs w p1 v1 T) (B : IntIs w p2 v2 T) (hp : (p1 == p2) = false) :
    Calls Yba.prog 10 #[.pointer (some ⟨p1, 0, none⟩), .pointer (some ⟨p2, 0, none⟩)] w fun e w' => e = .returned (.int .i64 0) ∧ Turned w w' (fun _ => False) := by
  have cC : ∀ W, Turned w W (fun _ => False) → Calls Yba.prog 21 #[v1, v2] W fun e w' => e = .returned (.int .i64 0) ∧ ∃ q, w' = W.drewN q := fun W ht => nat_cmp_eq (A.turned ht (fun h => h) (fun _ _ h => h)).nat (B.turned ht (fun h => h) (fun _ _ h => h)).nat
  obtain ⟨ao, l, c, rfl⟩ := slice_form A.nat
  obtain ⟨bo, m, d, rfl⟩ := slice_form B.nat
  have a0 := A.c0
  have b0 := B.c0
  have a1 := A.c1
  have b1 := B.c1
  have he := eql_apart p1 p2 _ _ _ _ w A.blk B.blk hp
  generalize decide (T < 0) = sg at a0 b0
  go_enter Yba.func10, Yba.ntmps10
  go_wp2
  go_quiet (fail)
  have tq := Turned.drawn w nq (fun _ => False)
  have A1 := A.turned tq (fun h => h) (fun _ _ h => h)
  have B1 := B.turned tq (fun h => h) (fun _ _ h => h)
  have e1 := cell_turned tq a0 A.lt (fun h => h)
  clear he a0 b0 a1 b1
  generalize w.drewN nq = wq at tq A1 B1 e1 ⊢
  have a1 := A1.c1
  have b1 := B1.c1
  go_wp2
  go_quiet ((go_at_call 21; refine (cC _ (tq.drewN _)).mono ?_; rintro e w2 ⟨rfl, q2, rfl⟩; exact ⟨rfl, _, by rw [World.drewN_drewN]⟩))
  have tq2 := tq.drewN nq
  have e2 : (wq.drewN nq).cell? ⟨p1, 0, none⟩ = some (.bool sg) := by rw [World.cell?_drewN]; exact e1
  clear e1 a1 b1 A1 B1 cC A B
  generalize wq.drewN nq = wp at tq2 e2 ⊢
  cases sg
  · go_wp2
    go_ret
    exact ⟨rfl, tq2⟩
  · go_wp2
    go_ret
    exact ⟨rfl, tq2⟩
end Go.Proofs.Ybulkbwco
