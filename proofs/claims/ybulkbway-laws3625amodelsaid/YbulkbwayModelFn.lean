/-
  zzs3625amodel, walked.
-/
import Derived.Test.YbulkbwayParts
namespace Go.Proofs.Ybulkbway
open Go.RowKit
set_option linter.unusedVariables false

/-! ### zzs3625amodel -/
theorem model_nil (an : Option Addr) (cn nn ga na ca gb nb cb : Nat) (fa fb : Int) (w : World) :
    Calls Yba.prog 8 #[.slice an nn cn, .slice (some ⟨ga, 0, none⟩) na ca, .slice (some ⟨gb, 0, none⟩) nb cb, .int .i64 fa, .int .i64 fb, .bool true] w fun e w' => e = .returned (.bool true) ∧ Below w.heap.size w w' := by
  go_enter Yba.func8, Yba.ntmps8
  go_wp2
  go_ret
  exact ⟨rfl, Below.refl _ _⟩

set_option maxRecDepth 100000 in
set_option maxHeartbeats 2000000 in
theorem model_same (an : Option Addr) (cn nn ga na ca gb nb cb : Nat) (fa fb : Int) (ma mb : ByteArray) (ia ib : Int) (w : World) (hga : ga < w.heap.size) (hgb : gb < w.heap.size) (na0 : 0 < na) (nb0 : 0 < nb) (na9 : na ≤ 1024) (nb9 : nb ≤ 1024)
    (a0 : w.cell? ⟨ga, 0, none⟩ = some (.string ma)) (a1 : w.cell? ⟨ga, 1, none⟩ = some (.int .u64 ia)) (b0 : w.cell? ⟨gb, 0, none⟩ = some (.string mb)) (b1 : w.cell? ⟨gb, 1, none⟩ = some (.int .u64 ib))
    (h1 : (ma.toList == mb.toList) = true) (h2 : (ia == ib) = true) :
    Calls Yba.prog 8 #[.slice an nn cn, .slice (some ⟨ga, 0, none⟩) na ca, .slice (some ⟨gb, 0, none⟩) nb cb, .int .i64 fa, .int .i64 fb, .bool false] w fun e w' => e = .returned (.bool false) ∧ Below w.heap.size w w' := by
  have na0' : (0 : Int) < (na : Int) := by omega
  have nb0' : (0 : Int) < (nb : Int) := by omega
  have na1 : ga ≠ w.heap.size := by omega
  have nb1 : gb ≠ w.heap.size := by omega
  have fin2 : ∀ o1 o2, Below w.heap.size w ((w.alloc o1).alloc o2) := fun o1 o2 => B1 (A1 w o1) o2
  have fin : ∀ o1 o2, Below w.heap.size w ((w.alloc o1).alloc o2).drew := fun o1 o2 => (B1 (A1 w o1) o2).drew
  go_enter Yba.func8, Yba.ntmps8
  go_wp2
  go_region
  all_goals go_wp2
  all_goals go_ret
  all_goals exact ⟨rfl, fin _ _⟩
set_option maxRecDepth 100000 in
set_option maxHeartbeats 2000000 in
theorem model_len1 (an : Option Addr) (cn nn ga na ca gb nb cb : Nat) (fa fb : Int) (ma mb : ByteArray) (ia ib : Int) (w : World) (hga : ga < w.heap.size) (hgb : gb < w.heap.size) (na0 : 0 < na) (nb0 : 0 < nb) (na9 : na ≤ 1024) (nb9 : nb ≤ 1024)
    (a0 : w.cell? ⟨ga, 0, none⟩ = some (.string ma)) (a1 : w.cell? ⟨ga, 1, none⟩ = some (.int .u64 ia)) (b0 : w.cell? ⟨gb, 0, none⟩ = some (.string mb)) (b1 : w.cell? ⟨gb, 1, none⟩ = some (.int .u64 ib))
    (h1 : (ma.toList == mb.toList) = false) (hne : na ≠ nb) :
    Calls Yba.prog 8 #[.slice an nn cn, .slice (some ⟨ga, 0, none⟩) na ca, .slice (some ⟨gb, 0, none⟩) nb cb, .int .i64 fa, .int .i64 fb, .bool false] w fun e w' => e = .returned (.bool (decide (nb < na))) ∧ Below w.heap.size w w' := by
  have na0' : (0 : Int) < (na : Int) := by omega
  have nb0' : (0 : Int) < (nb : Int) := by omega
  have na1 : ga ≠ w.heap.size := by omega
  have nb1 : gb ≠ w.heap.size := by omega
  have fin2 : ∀ o1 o2, Below w.heap.size w ((w.alloc o1).alloc o2) := fun o1 o2 => B1 (A1 w o1) o2
  have fin : ∀ o1 o2, Below w.heap.size w ((w.alloc o1).alloc o2).drew := fun o1 o2 => (B1 (A1 w o1) o2).drew
  have hne' : ((na : Int) != (nb : Int)) = true := by simp; omega
  go_enter Yba.func8, Yba.ntmps8
  go_wp2
  go_region
  all_goals go_wp2
  all_goals go_ret
  all_goals exact ⟨rfl, fin _ _⟩
set_option maxRecDepth 100000 in
set_option maxHeartbeats 2000000 in
theorem model_formed1 (an : Option Addr) (cn nn ga na ca gb nb cb : Nat) (fa fb : Int) (ma mb : ByteArray) (ia ib : Int) (w : World) (hga : ga < w.heap.size) (hgb : gb < w.heap.size) (na0 : 0 < na) (nb0 : 0 < nb) (na9 : na ≤ 1024) (nb9 : nb ≤ 1024)
    (a0 : w.cell? ⟨ga, 0, none⟩ = some (.string ma)) (a1 : w.cell? ⟨ga, 1, none⟩ = some (.int .u64 ia)) (b0 : w.cell? ⟨gb, 0, none⟩ = some (.string mb)) (b1 : w.cell? ⟨gb, 1, none⟩ = some (.int .u64 ib))
    (h1 : (ma.toList == mb.toList) = false) (hl : na = nb) (hne : fa ≠ fb) :
    Calls Yba.prog 8 #[.slice an nn cn, .slice (some ⟨ga, 0, none⟩) na ca, .slice (some ⟨gb, 0, none⟩) nb cb, .int .i64 fa, .int .i64 fb, .bool false] w fun e w' => e = .returned (.bool (decide (fa < fb))) ∧ Below w.heap.size w w' := by
  have na0' : (0 : Int) < (na : Int) := by omega
  have nb0' : (0 : Int) < (nb : Int) := by omega
  have na1 : ga ≠ w.heap.size := by omega
  have nb1 : gb ≠ w.heap.size := by omega
  have fin2 : ∀ o1 o2, Below w.heap.size w ((w.alloc o1).alloc o2) := fun o1 o2 => B1 (A1 w o1) o2
  have fin : ∀ o1 o2, Below w.heap.size w ((w.alloc o1).alloc o2).drew := fun o1 o2 => (B1 (A1 w o1) o2).drew
  subst hl
  have hne' : (fa != fb) = true := by simpa using hne
  have hl' : ((na : Int) != (na : Int)) = false := by simp
  go_enter Yba.func8, Yba.ntmps8
  go_wp2
  go_region
  all_goals go_wp2
  all_goals go_ret
  all_goals exact ⟨rfl, fin _ _⟩
set_option maxRecDepth 100000 in
set_option maxHeartbeats 2000000 in
theorem model_pos1 (an : Option Addr) (cn nn ga na ca gb nb cb : Nat) (fa fb : Int) (ma mb : ByteArray) (ia ib : Int) (w : World) (hga : ga < w.heap.size) (hgb : gb < w.heap.size) (na0 : 0 < na) (nb0 : 0 < nb) (na9 : na ≤ 1024) (nb9 : nb ≤ 1024)
    (a0 : w.cell? ⟨ga, 0, none⟩ = some (.string ma)) (a1 : w.cell? ⟨ga, 1, none⟩ = some (.int .u64 ia)) (b0 : w.cell? ⟨gb, 0, none⟩ = some (.string mb)) (b1 : w.cell? ⟨gb, 1, none⟩ = some (.int .u64 ib))
    (h1 : (ma.toList == mb.toList) = false) (hl : na = nb) (hf : fa = fb) (pa pb : Int) (PA : ∀ W, Below w.heap.size w W → Calls Yba.prog 13 #[.slice an nn cn, .string ma] W fun e w' => e = .returned (.int .i64 pa) ∧ w' = W) (PB : ∀ W, Below w.heap.size w W → Calls Yba.prog 13 #[.slice an nn cn, .string mb] W fun e w' => e = .returned (.int .i64 pb) ∧ w' = W) (hne : pa ≠ pb) :
    Calls Yba.prog 8 #[.slice an nn cn, .slice (some ⟨ga, 0, none⟩) na ca, .slice (some ⟨gb, 0, none⟩) nb cb, .int .i64 fa, .int .i64 fb, .bool false] w fun e w' => e = .returned (.bool (decide (pa < pb))) ∧ Below w.heap.size w w' := by
  have na0' : (0 : Int) < (na : Int) := by omega
  have nb0' : (0 : Int) < (nb : Int) := by omega
  have na1 : ga ≠ w.heap.size := by omega
  have nb1 : gb ≠ w.heap.size := by omega
  have fin2 : ∀ o1 o2, Below w.heap.size w ((w.alloc o1).alloc o2) := fun o1 o2 => B1 (A1 w o1) o2
  have fin : ∀ o1 o2, Below w.heap.size w ((w.alloc o1).alloc o2).drew := fun o1 o2 => (B1 (A1 w o1) o2).drew
  subst hl hf
  have hf' : (fa != fa) = false := by simp
  have hl' : ((na : Int) != (na : Int)) = false := by simp
  have hne' : (pa != pb) = true := by simpa using hne
  go_enter Yba.func8, Yba.ntmps8
  go_wp2
  go_region
  all_goals go_wp2
  all_goals go_quiet (first | (go_at_call_of 13 (Value.string ma); refine (PA _ (below_drewN (fin2 _ _) _)).mono ?_; rintro e w1 ⟨rfl, rfl⟩; exact ⟨rfl, _, rfl⟩) | (go_at_call_of 13 (Value.string mb); refine (PB _ (below_drewN (fin2 _ _) _)).mono ?_; rintro e w1 ⟨rfl, rfl⟩; exact ⟨rfl, _, rfl⟩))
  all_goals go_wp2
  all_goals go_ret
  all_goals exact ⟨rfl, below_drewN (fin2 _ _) _⟩
set_option maxRecDepth 100000 in
set_option maxHeartbeats 2000000 in
theorem model_inc1 (an : Option Addr) (cn nn ga na ca gb nb cb : Nat) (fa fb : Int) (ma mb : ByteArray) (ia ib : Int) (w : World) (hga : ga < w.heap.size) (hgb : gb < w.heap.size) (na0 : 0 < na) (nb0 : 0 < nb) (na9 : na ≤ 1024) (nb9 : nb ≤ 1024)
    (a0 : w.cell? ⟨ga, 0, none⟩ = some (.string ma)) (a1 : w.cell? ⟨ga, 1, none⟩ = some (.int .u64 ia)) (b0 : w.cell? ⟨gb, 0, none⟩ = some (.string mb)) (b1 : w.cell? ⟨gb, 1, none⟩ = some (.int .u64 ib))
    (h1 : (ma.toList == mb.toList) = false) (hl : na = nb) (hf : fa = fb) (pa pb : Int) (PA : ∀ W, Below w.heap.size w W → Calls Yba.prog 13 #[.slice an nn cn, .string ma] W fun e w' => e = .returned (.int .i64 pa) ∧ w' = W) (PB : ∀ W, Below w.heap.size w W → Calls Yba.prog 13 #[.slice an nn cn, .string mb] W fun e w' => e = .returned (.int .i64 pb) ∧ w' = W) (hne : pa = pb) :
    Calls Yba.prog 8 #[.slice an nn cn, .slice (some ⟨ga, 0, none⟩) na ca, .slice (some ⟨gb, 0, none⟩) nb cb, .int .i64 fa, .int .i64 fb, .bool false] w fun e w' => e = .returned (.bool (decide (ia < ib))) ∧ Below w.heap.size w w' := by
  have na0' : (0 : Int) < (na : Int) := by omega
  have nb0' : (0 : Int) < (nb : Int) := by omega
  have na1 : ga ≠ w.heap.size := by omega
  have nb1 : gb ≠ w.heap.size := by omega
  have fin2 : ∀ o1 o2, Below w.heap.size w ((w.alloc o1).alloc o2) := fun o1 o2 => B1 (A1 w o1) o2
  have fin : ∀ o1 o2, Below w.heap.size w ((w.alloc o1).alloc o2).drew := fun o1 o2 => (B1 (A1 w o1) o2).drew
  subst hl hf
  have hf' : (fa != fa) = false := by simp
  have hl' : ((na : Int) != (na : Int)) = false := by simp
  subst hne
  have hp' : (pa != pa) = false := by simp
  go_enter Yba.func8, Yba.ntmps8
  go_wp2
  go_region
  all_goals go_wp2
  all_goals go_quiet (first | (go_at_call_of 13 (Value.string ma); refine (PA _ (below_drewN (fin2 _ _) _)).mono ?_; rintro e w1 ⟨rfl, rfl⟩; exact ⟨rfl, _, rfl⟩) | (go_at_call_of 13 (Value.string mb); refine (PB _ (below_drewN (fin2 _ _) _)).mono ?_; rintro e w1 ⟨rfl, rfl⟩; exact ⟨rfl, _, rfl⟩))
  all_goals go_wp2
  all_goals go_ret
  all_goals exact ⟨rfl, below_drewN (fin2 _ _) _⟩
set_option maxRecDepth 100000 in
set_option maxHeartbeats 2000000 in
theorem model_len2 (an : Option Addr) (cn nn ga na ca gb nb cb : Nat) (fa fb : Int) (ma mb : ByteArray) (ia ib : Int) (w : World) (hga : ga < w.heap.size) (hgb : gb < w.heap.size) (na0 : 0 < na) (nb0 : 0 < nb) (na9 : na ≤ 1024) (nb9 : nb ≤ 1024)
    (a0 : w.cell? ⟨ga, 0, none⟩ = some (.string ma)) (a1 : w.cell? ⟨ga, 1, none⟩ = some (.int .u64 ia)) (b0 : w.cell? ⟨gb, 0, none⟩ = some (.string mb)) (b1 : w.cell? ⟨gb, 1, none⟩ = some (.int .u64 ib))
    (h1 : (ma.toList == mb.toList) = true) (h2 : (ia == ib) = false) (hne : na ≠ nb) :
    Calls Yba.prog 8 #[.slice an nn cn, .slice (some ⟨ga, 0, none⟩) na ca, .slice (some ⟨gb, 0, none⟩) nb cb, .int .i64 fa, .int .i64 fb, .bool false] w fun e w' => e = .returned (.bool (decide (nb < na))) ∧ Below w.heap.size w w' := by
  have na0' : (0 : Int) < (na : Int) := by omega
  have nb0' : (0 : Int) < (nb : Int) := by omega
  have na1 : ga ≠ w.heap.size := by omega
  have nb1 : gb ≠ w.heap.size := by omega
  have fin2 : ∀ o1 o2, Below w.heap.size w ((w.alloc o1).alloc o2) := fun o1 o2 => B1 (A1 w o1) o2
  have fin : ∀ o1 o2, Below w.heap.size w ((w.alloc o1).alloc o2).drew := fun o1 o2 => (B1 (A1 w o1) o2).drew
  have hne' : ((na : Int) != (nb : Int)) = true := by simp; omega
  go_enter Yba.func8, Yba.ntmps8
  go_wp2
  go_region
  all_goals go_wp2
  all_goals go_ret
  all_goals exact ⟨rfl, fin _ _⟩
set_option maxRecDepth 100000 in
set_option maxHeartbeats 2000000 in
theorem model_formed2 (an : Option Addr) (cn nn ga na ca gb nb cb : Nat) (fa fb : Int) (ma mb : ByteArray) (ia ib : Int) (w : World) (hga : ga < w.heap.size) (hgb : gb < w.heap.size) (na0 : 0 < na) (nb0 : 0 < nb) (na9 : na ≤ 1024) (nb9 : nb ≤ 1024)
    (a0 : w.cell? ⟨ga, 0, none⟩ = some (.string ma)) (a1 : w.cell? ⟨ga, 1, none⟩ = some (.int .u64 ia)) (b0 : w.cell? ⟨gb, 0, none⟩ = some (.string mb)) (b1 : w.cell? ⟨gb, 1, none⟩ = some (.int .u64 ib))
    (h1 : (ma.toList == mb.toList) = true) (h2 : (ia == ib) = false) (hl : na = nb) (hne : fa ≠ fb) :
    Calls Yba.prog 8 #[.slice an nn cn, .slice (some ⟨ga, 0, none⟩) na ca, .slice (some ⟨gb, 0, none⟩) nb cb, .int .i64 fa, .int .i64 fb, .bool false] w fun e w' => e = .returned (.bool (decide (fa < fb))) ∧ Below w.heap.size w w' := by
  have na0' : (0 : Int) < (na : Int) := by omega
  have nb0' : (0 : Int) < (nb : Int) := by omega
  have na1 : ga ≠ w.heap.size := by omega
  have nb1 : gb ≠ w.heap.size := by omega
  have fin2 : ∀ o1 o2, Below w.heap.size w ((w.alloc o1).alloc o2) := fun o1 o2 => B1 (A1 w o1) o2
  have fin : ∀ o1 o2, Below w.heap.size w ((w.alloc o1).alloc o2).drew := fun o1 o2 => (B1 (A1 w o1) o2).drew
  subst hl
  have hne' : (fa != fb) = true := by simpa using hne
  have hl' : ((na : Int) != (na : Int)) = false := by simp
  go_enter Yba.func8, Yba.ntmps8
  go_wp2
  go_region
  all_goals go_wp2
  all_goals go_ret
  all_goals exact ⟨rfl, fin _ _⟩
set_option maxRecDepth 100000 in
set_option maxHeartbeats 2000000 in
theorem model_pos2 (an : Option Addr) (cn nn ga na ca gb nb cb : Nat) (fa fb : Int) (ma mb : ByteArray) (ia ib : Int) (w : World) (hga : ga < w.heap.size) (hgb : gb < w.heap.size) (na0 : 0 < na) (nb0 : 0 < nb) (na9 : na ≤ 1024) (nb9 : nb ≤ 1024)
    (a0 : w.cell? ⟨ga, 0, none⟩ = some (.string ma)) (a1 : w.cell? ⟨ga, 1, none⟩ = some (.int .u64 ia)) (b0 : w.cell? ⟨gb, 0, none⟩ = some (.string mb)) (b1 : w.cell? ⟨gb, 1, none⟩ = some (.int .u64 ib))
    (h1 : (ma.toList == mb.toList) = true) (h2 : (ia == ib) = false) (hl : na = nb) (hf : fa = fb) (pa pb : Int) (PA : ∀ W, Below w.heap.size w W → Calls Yba.prog 13 #[.slice an nn cn, .string ma] W fun e w' => e = .returned (.int .i64 pa) ∧ w' = W) (PB : ∀ W, Below w.heap.size w W → Calls Yba.prog 13 #[.slice an nn cn, .string mb] W fun e w' => e = .returned (.int .i64 pb) ∧ w' = W) (hne : pa ≠ pb) :
    Calls Yba.prog 8 #[.slice an nn cn, .slice (some ⟨ga, 0, none⟩) na ca, .slice (some ⟨gb, 0, none⟩) nb cb, .int .i64 fa, .int .i64 fb, .bool false] w fun e w' => e = .returned (.bool (decide (pa < pb))) ∧ Below w.heap.size w w' := by
  have na0' : (0 : Int) < (na : Int) := by omega
  have nb0' : (0 : Int) < (nb : Int) := by omega
  have na1 : ga ≠ w.heap.size := by omega
  have nb1 : gb ≠ w.heap.size := by omega
  have fin2 : ∀ o1 o2, Below w.heap.size w ((w.alloc o1).alloc o2) := fun o1 o2 => B1 (A1 w o1) o2
  have fin : ∀ o1 o2, Below w.heap.size w ((w.alloc o1).alloc o2).drew := fun o1 o2 => (B1 (A1 w o1) o2).drew
  subst hl hf
  have hf' : (fa != fa) = false := by simp
  have hl' : ((na : Int) != (na : Int)) = false := by simp
  have hne' : (pa != pb) = true := by simpa using hne
  go_enter Yba.func8, Yba.ntmps8
  go_wp2
  go_region
  all_goals go_wp2
  all_goals go_quiet (first | (go_at_call_of 13 (Value.string ma); refine (PA _ (below_drewN (fin2 _ _) _)).mono ?_; rintro e w1 ⟨rfl, rfl⟩; exact ⟨rfl, _, rfl⟩) | (go_at_call_of 13 (Value.string mb); refine (PB _ (below_drewN (fin2 _ _) _)).mono ?_; rintro e w1 ⟨rfl, rfl⟩; exact ⟨rfl, _, rfl⟩))
  all_goals go_wp2
  all_goals go_ret
  all_goals exact ⟨rfl, below_drewN (fin2 _ _) _⟩
set_option maxRecDepth 100000 in
set_option maxHeartbeats 2000000 in
theorem model_inc2 (an : Option Addr) (cn nn ga na ca gb nb cb : Nat) (fa fb : Int) (ma mb : ByteArray) (ia ib : Int) (w : World) (hga : ga < w.heap.size) (hgb : gb < w.heap.size) (na0 : 0 < na) (nb0 : 0 < nb) (na9 : na ≤ 1024) (nb9 : nb ≤ 1024)
    (a0 : w.cell? ⟨ga, 0, none⟩ = some (.string ma)) (a1 : w.cell? ⟨ga, 1, none⟩ = some (.int .u64 ia)) (b0 : w.cell? ⟨gb, 0, none⟩ = some (.string mb)) (b1 : w.cell? ⟨gb, 1, none⟩ = some (.int .u64 ib))
    (h1 : (ma.toList == mb.toList) = true) (h2 : (ia == ib) = false) (hl : na = nb) (hf : fa = fb) (pa pb : Int) (PA : ∀ W, Below w.heap.size w W → Calls Yba.prog 13 #[.slice an nn cn, .string ma] W fun e w' => e = .returned (.int .i64 pa) ∧ w' = W) (PB : ∀ W, Below w.heap.size w W → Calls Yba.prog 13 #[.slice an nn cn, .string mb] W fun e w' => e = .returned (.int .i64 pb) ∧ w' = W) (hne : pa = pb) :
    Calls Yba.prog 8 #[.slice an nn cn, .slice (some ⟨ga, 0, none⟩) na ca, .slice (some ⟨gb, 0, none⟩) nb cb, .int .i64 fa, .int .i64 fb, .bool false] w fun e w' => e = .returned (.bool (decide (ia < ib))) ∧ Below w.heap.size w w' := by
  have na0' : (0 : Int) < (na : Int) := by omega
  have nb0' : (0 : Int) < (nb : Int) := by omega
  have na1 : ga ≠ w.heap.size := by omega
  have nb1 : gb ≠ w.heap.size := by omega
  have fin2 : ∀ o1 o2, Below w.heap.size w ((w.alloc o1).alloc o2) := fun o1 o2 => B1 (A1 w o1) o2
  have fin : ∀ o1 o2, Below w.heap.size w ((w.alloc o1).alloc o2).drew := fun o1 o2 => (B1 (A1 w o1) o2).drew
  subst hl hf
  have hf' : (fa != fa) = false := by simp
  have hl' : ((na : Int) != (na : Int)) = false := by simp
  subst hne
  have hp' : (pa != pa) = false := by simp
  go_enter Yba.func8, Yba.ntmps8
  go_wp2
  go_region
  all_goals go_wp2
  all_goals go_quiet (first | (go_at_call_of 13 (Value.string ma); refine (PA _ (below_drewN (fin2 _ _) _)).mono ?_; rintro e w1 ⟨rfl, rfl⟩; exact ⟨rfl, _, rfl⟩) | (go_at_call_of 13 (Value.string mb); refine (PB _ (below_drewN (fin2 _ _) _)).mono ?_; rintro e w1 ⟨rfl, rfl⟩; exact ⟨rfl, _, rfl⟩))
  all_goals go_wp2
  all_goals go_ret
  all_goals exact ⟨rfl, below_drewN (fin2 _ _) _⟩

/-- zzs3625amodel AT A VIEW b THAT IS THERE: the plain function. -/
theorem model_any (an : Option Addr) (cn ga na ca gb nb cb : Nat) (ns : List ByteArray) (fa fb : Int) (ma mb : ByteArray) (ia ib : Int) (w : World) (hN : StrsAt w an ns) (ln : ns.length ≤ 1024) (hga : ga < w.heap.size) (hgb : gb < w.heap.size) (na0 : 0 < na) (nb0 : 0 < nb) (na9 : na ≤ 1024) (nb9 : nb ≤ 1024)
    (a0 : w.cell? ⟨ga, 0, none⟩ = some (.string ma)) (a1 : w.cell? ⟨ga, 1, none⟩ = some (.int .u64 ia)) (b0 : w.cell? ⟨gb, 0, none⟩ = some (.string mb)) (b1 : w.cell? ⟨gb, 1, none⟩ = some (.int .u64 ib)) :
    Calls Yba.prog 8 #[.slice an ns.length cn, .slice (some ⟨ga, 0, none⟩) na ca, .slice (some ⟨gb, 0, none⟩) nb cb, .int .i64 fa, .int .i64 fb, .bool false] w fun e w' => e = .returned (.bool (beatsP ns na nb fa fb ma mb ia ib)) ∧ Below w.heap.size w w' := by
  unfold beatsP sameM
  cases h1 : (ma.toList == mb.toList) with
  | true =>
    cases h2 : (ia == ib) with
    | true => simpa using model_same an cn ns.length ga na ca gb nb cb fa fb ma mb ia ib w hga hgb na0 nb0 na9 nb9 a0 a1 b0 b1 h1 h2
    | false =>
      rw [if_neg (by simp)]
      by_cases h3 : na ≠ nb
      · rw [if_pos h3]; exact model_len2 an cn ns.length ga na ca gb nb cb fa fb ma mb ia ib w hga hgb na0 nb0 na9 nb9 a0 a1 b0 b1 h1 h2 h3
      · rw [if_neg h3]
        have h3' : na = nb := by omega
        by_cases h4 : fa ≠ fb
        · rw [if_pos h4]; exact model_formed2 an cn ns.length ga na ca gb nb cb fa fb ma mb ia ib w hga hgb na0 nb0 na9 nb9 a0 a1 b0 b1 h1 h2 h3' h4
        · rw [if_neg h4]
          have h4' : fa = fb := by omega
          have PA : ∀ W, Below w.heap.size w W → Calls Yba.prog 13 #[.slice an ns.length cn, .string ma] W fun e w' => e = .returned (.int .i64 (pos ns ma)) ∧ w' = W := fun W hW => pos13 an cn ns ma W (hN.on hW) ln
          have PB : ∀ W, Below w.heap.size w W → Calls Yba.prog 13 #[.slice an ns.length cn, .string mb] W fun e w' => e = .returned (.int .i64 (pos ns mb)) ∧ w' = W := fun W hW => pos13 an cn ns mb W (hN.on hW) ln
          by_cases h5 : pos ns ma ≠ pos ns mb
          · rw [if_pos h5]; exact model_pos2 an cn ns.length ga na ca gb nb cb fa fb ma mb ia ib w hga hgb na0 nb0 na9 nb9 a0 a1 b0 b1 h1 h2 h3' h4' _ _ PA PB h5
          · rw [if_neg h5]; exact model_inc2 an cn ns.length ga na ca gb nb cb fa fb ma mb ia ib w hga hgb na0 nb0 na9 nb9 a0 a1 b0 b1 h1 h2 h3' h4' _ _ PA PB (by omega)
  | false =>
      rw [if_neg (by simp)]
      by_cases h3 : na ≠ nb
      · rw [if_pos h3]; exact model_len1 an cn ns.length ga na ca gb nb cb fa fb ma mb ia ib w hga hgb na0 nb0 na9 nb9 a0 a1 b0 b1 h1 h3
      · rw [if_neg h3]
        have h3' : na = nb := by omega
        by_cases h4 : fa ≠ fb
        · rw [if_pos h4]; exact model_formed1 an cn ns.length ga na ca gb nb cb fa fb ma mb ia ib w hga hgb na0 nb0 na9 nb9 a0 a1 b0 b1 h1 h3' h4
        · rw [if_neg h4]
          have h4' : fa = fb := by omega
          have PA : ∀ W, Below w.heap.size w W → Calls Yba.prog 13 #[.slice an ns.length cn, .string ma] W fun e w' => e = .returned (.int .i64 (pos ns ma)) ∧ w' = W := fun W hW => pos13 an cn ns ma W (hN.on hW) ln
          have PB : ∀ W, Below w.heap.size w W → Calls Yba.prog 13 #[.slice an ns.length cn, .string mb] W fun e w' => e = .returned (.int .i64 (pos ns mb)) ∧ w' = W := fun W hW => pos13 an cn ns mb W (hN.on hW) ln
          by_cases h5 : pos ns ma ≠ pos ns mb
          · rw [if_pos h5]; exact model_pos1 an cn ns.length ga na ca gb nb cb fa fb ma mb ia ib w hga hgb na0 nb0 na9 nb9 a0 a1 b0 b1 h1 h3' h4' _ _ PA PB h5
          · rw [if_neg h5]; exact model_inc1 an cn ns.length ga na ca gb nb cb fa fb ma mb ia ib w hga hgb na0 nb0 na9 nb9 a0 a1 b0 b1 h1 h3' h4' _ _ PA PB (by omega)
end Go.Proofs.Ybulkbway
