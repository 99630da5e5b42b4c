/-
  zzs3625apos, zzs3625amodel, slices.Equal at member and at Node, walked.
-/
import Derived.Test.YbulkbwayOrder
import Derived.RegionTactic
import Derived.ChangeAlike
import Derived.Deep.RegionWith
namespace Go.Proofs.Ybulkbway
open Go.RowKit
set_option linter.unusedVariables false

set_option maxHeartbeats 400000 in
theorem pos13 (an : Option Addr) (cn : Nat) (ns : List ByteArray) (nm : ByteArray) (w : World) (hN : StrsAt w an ns) (ln : ns.length ≤ 1024) :
    Calls Yba.prog 13 #[.slice an ns.length cn, .string nm] w fun e w' => e = .returned (.int .i64 (pos ns nm)) ∧ w' = w := by
  obtain ⟨nn, hnn⟩ : ∃ nn, nn = ns.length := ⟨_, rfl⟩
  rw [← hnn] at ln ⊢
  have HL : Hid (nn = ns.length) := hnn
  clear hnn
  go_enter Yba.func13, Yba.ntmps13
  go_wp2
  go_loop [5] (fun i => ∃ k : Nat, k ≤ nn ∧ i = .int .i64 k ∧ Hid (∀ j, j < k → ((ns.getD j ByteArray.empty).toList == nm.toList) = false)) (fun i => nn - (intOf i).toNat)
  case atStart => exact ⟨0, Nat.zero_le _, rfl, fun j hj => absurd hj (Nat.not_lt_zero _)⟩
  case round =>
    obtain ⟨k, hk, rfl, HA⟩ := hrel
    by_cases hlt : k < nn
    · obtain ⟨bn, on, rfl, hbn, hcn⟩ := hN (by intro h; rw [HL.out, h] at hlt; simp at hlt)
      have hks : k < ns.length := by rw [← HL.out]; exact hlt
      have qn := hcn k hks
      obtain ⟨x, hx⟩ : ∃ x, x = ns.getD k ByteArray.empty := ⟨_, rfl⟩
      rw [← hx] at qn
      have HX : Hid (x = ns.getD k ByteArray.empty) := hx
      clear hx hcn
      cases hq : (x.toList == nm.toList) with
      | true =>
        go_wp2
        go_ret
        refine ⟨?_, rfl⟩
        rw [pos_hit ns nm k hks (by rw [← getD_lt ns k hks, ← HX.out]; exact hq) HA.out]
        rfl
      | false =>
        go_wp2
        go_round
        case rel =>
          refine ⟨k + 1, by omega, by go_num, (show Hid _ from fun j hj => ?_)⟩
          by_cases e : j = k
          · subst e; rw [← HX.out]; exact hq
          · exact HA.out j (by omega)
        case measure => simp [intOf]; omega
    · have e : k = nn := by omega
      subst e
      go_wp2
      go_ret
      refine ⟨?_, rfl⟩
      rw [pos_miss ns nm (by rw [← HL.out]; exact HA.out)]
      rfl

/-- '!=' at a member that is the same. -/
theorem neq_equalM (a : ByteArray) (i : Int) (w : World) : Sem.run Yba.prog (binOp .neq 32 (.agg #[.string a, .int .u64 i]) (.agg #[.string a, .int .u64 i])) w = .ok (.bool false) w := by
  have u9 := Yba.underlying9
  have a9 := Yba.isAgg9
  have z9 := Yba.sizeOf9
  have u30 := Yba.underlying30
  have a30 := Yba.isAgg30
  have z30 := Yba.sizeOf30
  have hS : Yba.prog.underlying 32 = some (.struct (Yba.prog.fieldsOf 32)) := by kernel_rfl
  have hp : Yba.prog.stoodInHeld 32 = false := by kernel_rfl
  rw [run_neq_struct, show (10000 : Nat) = 9999 + 1 from rfl, run_equalIn_agg w 9999 32 _ _ hS hp]
  simp only [Program.fieldsOf, Yba.underlying32]
  go_simp
theorem guard_equalM (x y : Operand) (a : ByteArray) (i : Int) (w : World) : Sem.run Yba.prog (eqGuard .neq 32 x y (.agg #[.string a, .int .u64 i]) (.agg #[.string a, .int .u64 i])) w = .ok () w :=
  run_eqGuard_agg w _ _ _ _ _ _ (by kernel_rfl)
/-- '!=' at a Node that is the same. -/
theorem neq_equalN (a b : ByteArray) (w : World) : Sem.run Yba.prog (binOp .neq 50 (.agg #[.string a, .string b]) (.agg #[.string a, .string b])) w = .ok (.bool false) w := by
  have u9 := Yba.underlying9
  have a9 := Yba.isAgg9
  have z9 := Yba.sizeOf9
  have hS : Yba.prog.underlying 50 = some (.struct (Yba.prog.fieldsOf 50)) := by kernel_rfl
  have hp : Yba.prog.stoodInHeld 50 = false := by kernel_rfl
  rw [run_neq_struct, show (10000 : Nat) = 9999 + 1 from rfl, run_equalIn_agg w 9999 50 _ _ hS hp]
  simp only [Program.fieldsOf, Yba.underlying50]
  go_simp
theorem guard_equalN (x y : Operand) (a b : ByteArray) (w : World) : Sem.run Yba.prog (eqGuard .neq 50 x y (.agg #[.string a, .string b]) (.agg #[.string a, .string b])) w = .ok () w :=
  run_eqGuard_agg w _ _ _ _ _ _ (by kernel_rfl)

set_option maxRecDepth 100000 in
set_option maxHeartbeats 1000000 in
/-- slices.Equal at two rows that hold the same: true. -/
theorem equalM (g h c d : Nat) (ms : List (ByteArray × Int)) (w : World) (G : MemsAt w g ms) (K : MemsAt w h ms) (hl : ms.length ≤ 1024) :
    Calls Yba.prog 9 #[.slice (some ⟨g, 0, none⟩) ms.length c, .slice (some ⟨h, 0, none⟩) ms.length d] w fun e w' => e = .returned (.bool true) ∧ ∃ q, w' = w.drewN q := by
  obtain ⟨nn, hnn⟩ : ∃ nn, nn = ms.length := ⟨_, rfl⟩
  rw [← hnn] at hl ⊢
  have HL : Hid (nn = ms.length) := hnn
  clear hnn
  go_enter Yba.func9, Yba.ntmps9
  go_wp2
  go_loopw [5, 13] (fun _ i wr => ∃ k q : Nat, k ≤ nn ∧ i = .int .i64 k ∧ wr = w.drewN q) (fun _ i _ => nn - (intOf i).toNat)
  case atStart => exact ⟨0, 0, Nat.zero_le _, rfl, rfl⟩
  case round =>
    obtain ⟨k, q, hk, rfl, hw⟩ := hrel
    by_cases hlt : k < nn
    · have hks : k < ms.length := by rw [← HL.out]; exact hlt
      obtain ⟨g0, g1⟩ := G.2 k hks
      obtain ⟨k0, k1⟩ := K.2 k hks
      generalize ms.getD k (ghost, 0) = x at g0 g1 k0 k1
      rw [← World.cell?_drewN (n := q), ← hw] at g0 g1 k0 k1
      have HW : Hid (wr = w.drewN q) := hw
      clear hw
      have hne := neq_equalM x.1 x.2
      have hgd := fun a b => guard_equalM a b x.1 x.2
      go_wp2_with fail
      go_quiet (fail)
      go_wp2
      go_roundw
      case rel => exact ⟨k + 1, q + nq, by omega, by go_num, by rw [HW.out, World.drewN_drewN]⟩
      case measure => simp [intOf]; omega
    · have e : k = nn := by omega
      subst e
      go_wp2
      go_ret
      exact ⟨rfl, q, rfl⟩

set_option maxRecDepth 100000 in
set_option maxHeartbeats 1000000 in
/-- slices.Equal at two rows that hold the same: true. -/
theorem equalN (g h c d : Nat) (ns : List ByteArray) (ad : ByteArray) (w : World) (G : NodesAt w g ns ad) (K : NodesAt w h ns ad) (hl : ns.length ≤ 1024) :
    Calls Yba.prog 10 #[.slice (some ⟨g, 0, none⟩) ns.length c, .slice (some ⟨h, 0, none⟩) ns.length d] w fun e w' => e = .returned (.bool true) ∧ ∃ q, w' = w.drewN q := by
  obtain ⟨nn, hnn⟩ : ∃ nn, nn = ns.length := ⟨_, rfl⟩
  rw [← hnn] at hl ⊢
  have HL : Hid (nn = ns.length) := hnn
  clear hnn
  go_enter Yba.func10, Yba.ntmps10
  go_wp2
  go_loopw [5, 13] (fun _ i wr => ∃ k q : Nat, k ≤ nn ∧ i = .int .i64 k ∧ wr = w.drewN q) (fun _ i _ => nn - (intOf i).toNat)
  case atStart => exact ⟨0, 0, Nat.zero_le _, rfl, rfl⟩
  case round =>
    obtain ⟨k, q, hk, rfl, hw⟩ := hrel
    by_cases hlt : k < nn
    · have hks : k < ns.length := by rw [← HL.out]; exact hlt
      obtain ⟨g0, g1⟩ := G.2 k hks
      obtain ⟨k0, k1⟩ := K.2 k hks
      generalize ns.getD k ByteArray.empty = x at g0 g1 k0 k1
      rw [← World.cell?_drewN (n := q), ← hw] at g0 g1 k0 k1
      have HW : Hid (wr = w.drewN q) := hw
      clear hw
      have hne := neq_equalN x ad
      have hgd := fun a b => guard_equalN a b x ad
      go_wp2_with fail
      go_quiet (fail)
      go_wp2
      go_roundw
      case rel => exact ⟨k + 1, q + nq, by omega, by go_num, by rw [HW.out, World.drewN_drewN]⟩
      case measure => simp [intOf]; omega
    · have e : k = nn := by omega
      subst e
      go_wp2
      go_ret
      exact ⟨rfl, q, rfl⟩

end Go.Proofs.Ybulkbway
