/-
  Int.Cmp, walked.
-/
import Derived.Test.YbulkbwhyBk
namespace Go.Proofs.Ybulkbwhy
open Go.RowKit
set_option linter.unusedVariables false

/-! ### '==' of two pointers to two blocks -/
theorem shape_of {w : World} {p : Nat} {a b : Value} (h : w.heap[p]? = some (.cells #[a, b] 70 (0, 0))) : w.shape? p = some (70, 2) := by simp [World.shape?, h]
theorem free_of {w : World} {p : Nat} {a b : Value} (h : w.heap[p]? = some (.cells #[a, b] 70 (0, 0))) (j : Nat) : w.frozen? ⟨p, j, Option.none⟩ = false := by simp [World.frozen?, h]
theorem equalIn_apart (d p1 p2 : Nat) (a b a' b' : Value) (w : World) (h1 : w.heap[p1]? = some (.cells #[a, b] 70 (0, 0))) (h2 : w.heap[p2]? = some (.cells #[a', b'] 70 (0, 0))) (hne : (p1 == p2) = false) :
    Sem.run Yba.prog (Op.equalIn (d + 1) 56 (.pointer (some ⟨p1, 0, Option.none⟩)) (.pointer (some ⟨p2, 0, Option.none⟩))) w = .ok false w := by
  have h : Yba.prog.underlying 56 = some (.pointer 70) := by kernel_rfl
  have hz : ∀ w, (Go.sizeOf 70).run Yba.prog w = .ok 2 w := fun w => by kernel_rfl
  have s1 := shape_of h1
  have s2 := shape_of h2
  have f1 := free_of h1 0
  have f2 := free_of h1 2
  have f3 := free_of h2 0
  have f4 := free_of h2 2
  simp [Op.equalIn, run_underlying h, hz, sameAddr, frozen, noView, viewAt, mayBeOne, stringish, shape, Sem.run, s1, s2, f1, f2, f3, f4]
  simpa using hne
theorem equal_apart (p1 p2 : Nat) (a b a' b' : Value) (w : World) (h1 : w.heap[p1]? = some (.cells #[a, b] 70 (0, 0))) (h2 : w.heap[p2]? = some (.cells #[a', b'] 70 (0, 0))) (hne : (p1 == p2) = false) :
    Sem.run Yba.prog (Op.equal 56 (.pointer (some ⟨p1, 0, Option.none⟩)) (.pointer (some ⟨p2, 0, Option.none⟩))) w = .ok false w := equalIn_apart 9999 p1 p2 a b a' b' w h1 h2 hne
theorem eql_apart (p1 p2 : Nat) (a b a' b' : Value) (w : World) (h1 : w.heap[p1]? = some (.cells #[a, b] 70 (0, 0))) (h2 : w.heap[p2]? = some (.cells #[a', b'] 70 (0, 0))) (hne : (p1 == p2) = false) :
    Sem.run Yba.prog (binOp .eql 56 (.pointer (some ⟨p1, 0, Option.none⟩)) (.pointer (some ⟨p2, 0, Option.none⟩))) w = .ok (.bool false) w := by
  have := equal_apart p1 p2 a b a' b' w h1 h2 hne
  simp only [binOp]
  simp [this]
def cmpI (n1 : Bool) (m1 : Nat) (n2 : Bool) (m2 : Nat) : Int := if n1 = n2 then (if n1 = true then -(sg2 m1 m2) else sg2 m1 m2) else (if n1 = true then -1 else 1)
theorem sg2_range (a b : Nat) : -1 ≤ sg2 a b ∧ sg2 a b ≤ 1 := by
  unfold sg2
  split
  · omega
  · split <;> omega
set_option maxRecDepth 100000 in
set_option maxHeartbeats 2000000 in
theorem cmp22 (p1 p2 : Nat) (n1 n2 : Bool) (a b : List Nat) (w : World) (A : IntD w p1 n1 a) (B : IntD w p2 n2 b) (hp : (p1 == p2) = false) :
    Calls Yba.prog 22 #[.pointer (some ⟨p1, 0, Option.none⟩), .pointer (some ⟨p2, 0, Option.none⟩)] w fun e w' => e = .returned (.int .i64 (cmpI n1 (val a) n2 (val b))) ∧ Below w.heap.size w w' := by
  obtain ⟨v, hv, NA⟩ := A
  obtain ⟨u, hu, NB⟩ := B
  have cC : ∀ W, Below w.heap.size w W → Calls Yba.prog 36 #[v, u] W fun e w' => e = .returned (.int .i64 (sg2 (val a) (val b))) ∧ ∃ q', w' = W.drewN q' := fun W hW => cmp36 a b v u W (NA.on hW) (NB.on hW)
  obtain ⟨x1, y1, rfl⟩ := NA.form
  obtain ⟨x2, y2, rfl⟩ := NB.form
  obtain ⟨c0, c1, _, _⟩ := cells2 w p1 _ _ _ hv
  obtain ⟨d0, d1, _, _⟩ := cells2 w p2 _ _ _ hu
  have he := eql_apart p1 p2 _ _ _ _ w hv hu hp
  have hr := sg2_range (val a) (val b)
  have bq : ∀ q, Below w.heap.size w (w.drewN q) := fun q => below_drewN (Below.refl _ w) q
  unfold cmpI
  generalize sg2 (val a) (val b) = S at *
  generalize a.length = la at *
  generalize b.length = lb at *
  have l1 : p1 < w.heap.size := (Array.getElem?_eq_some_iff.1 hv).1
  have l2 : p2 < w.heap.size := (Array.getElem?_eq_some_iff.1 hu).1
  clear hv hu NA NB
  cases n1 <;> cases n2
  · simp only [if_true]
    go_enter Yba.func22, Yba.ntmps22
    go_wp2
    go_quiet (fail)
    have tq := bq nq
    have k0 := (tq.cell (p := ⟨p1, 0, Option.none⟩) l1).trans c0
    have k1 := (tq.cell (p := ⟨p1, 1, Option.none⟩) l1).trans c1
    have k2 := (tq.cell (p := ⟨p2, 1, Option.none⟩) l2).trans d1
    generalize w.drewN nq = wq at tq k0 k1 k2 ⊢
    clear he c0 c1 d0 d1 bq
    go_wp2
    go_quiet ((go_at_call 36; refine (cC _ (below_drewN tq _)).mono ?_; rintro e w2 ⟨rfl, q2, rfl⟩; exact ⟨rfl, _, by rw [World.drewN_drewN]⟩))
    have tq2 := below_drewN tq nq
    have e2 : (wq.drewN nq).cell? ⟨p1, 0, Option.none⟩ = some (.bool false) := by rw [World.cell?_drewN]; exact k0
    clear k0 k1 k2 tq cC
    generalize wq.drewN nq = wp at tq2 e2 ⊢
    go_wp2
    go_ret
    exact ⟨by simp, tq2⟩
  · go_enter Yba.func22, Yba.ntmps22
    go_wp2
    go_quiet (fail)
    have tq := bq nq
    have k0 := (tq.cell (p := ⟨p1, 0, Option.none⟩) l1).trans c0
    generalize w.drewN nq = wq at tq k0 ⊢
    clear he c0 c1 d0 d1 bq cC
    go_wp2
    go_ret
    exact ⟨by simp, tq⟩
  · go_enter Yba.func22, Yba.ntmps22
    go_wp2
    go_quiet (fail)
    have tq := bq nq
    have k0 := (tq.cell (p := ⟨p1, 0, Option.none⟩) l1).trans c0
    generalize w.drewN nq = wq at tq k0 ⊢
    clear he c0 c1 d0 d1 bq cC
    go_wp2
    go_ret
    exact ⟨by simp, tq⟩
  · simp only [if_true]
    go_enter Yba.func22, Yba.ntmps22
    go_wp2
    go_quiet (fail)
    have tq := bq nq
    have k0 := (tq.cell (p := ⟨p1, 0, Option.none⟩) l1).trans c0
    have k1 := (tq.cell (p := ⟨p1, 1, Option.none⟩) l1).trans c1
    have k2 := (tq.cell (p := ⟨p2, 1, Option.none⟩) l2).trans d1
    generalize w.drewN nq = wq at tq k0 k1 k2 ⊢
    clear he c0 c1 d0 d1 bq
    go_wp2
    go_quiet ((go_at_call 36; refine (cC _ (below_drewN tq _)).mono ?_; rintro e w2 ⟨rfl, q2, rfl⟩; exact ⟨rfl, _, by rw [World.drewN_drewN]⟩))
    have tq2 := below_drewN tq nq
    have e2 : (wq.drewN nq).cell? ⟨p1, 0, Option.none⟩ = some (.bool true) := by rw [World.cell?_drewN]; exact k0
    clear k0 k1 k2 tq cC
    generalize wq.drewN nq = wp at tq2 e2 ⊢
    go_wp2
    go_ret
    exact ⟨by simp, tq2⟩
end Go.Proofs.Ybulkbwhy
