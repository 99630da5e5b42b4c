/-
  LawS3630CAllBytes: proved.
-/
import Derived.Test.YbulkbwdqRows
import Derived.WalkKit
import Derived.ProofKit
import Derived.OpenShut
import Derived.ShutString
namespace Go.Proofs.Ybulkbwdq.lawS3630CAllBytes
open Go.ChangeShapes Go.WideShapes Go.ChangeAt Go.RowKit
open Go.ChangeMaps (open_string shut_string)
set_option linter.unusedVariables false      -- a walk need not use every 'w<i>' (that an integer argument fits its kind)

theorem own : ownKnob Yba.prog.godebug = none := by kernel_rfl

/-! ### STEP 1: THE WALK: the Go text returns true. 'Grown w w'': the world has at most new blocks (Derived/RowKit3.lean). Part the cases AHEAD of 'go_enter' where a test parts the walk; take each callee by a contract of your own. -/
set_option maxRecDepth 100000 in
theorem walk  (w : World) :
    Calls Yba.prog 5 #[] w fun e w' => e = .returned (.bool true) ∧ Grown w w' := by
  go_enter Yba.func5, Yba.ntmps5
  go_wp2
  go_loop [1, 2] (fun pr i => ∃ (k : Nat) (p : Int), k ≤ 256 ∧ i = .int .i64 k ∧ pr = .int .i32 p ∧ -1 ≤ p ∧ p < 1114112 + (k : Int) ∧ ((k : Int) ≤ 128 → p < k)) (fun _ i => 256 - (intOf i).toNat)
  case atStart => exact ⟨0, -1, by omega, rfl, rfl, by omega, by omega, fun _ => by omega⟩
  case round =>
    obtain ⟨k, p, hk, rfl, rfl, h1, h2, h3⟩ := hrel
    by_cases hlt : k < 256
    · by_cases h : k < 128
      · have h4 := h3 (by omega)
        have h5 : ¬ (k : Int) ≤ p := by omega
        have hx : (!(decide (1114111 < (k : Int)) == decide (128 ≤ (k : Int)))) = false := by rw [decide_eq_false (show ¬ 1114111 < (k : Int) by omega), decide_eq_false (show ¬ 128 ≤ (k : Int) by omega)]; rfl
        clear h3
        go_wp2
        all_goals
          go_round
          case rel => exact ⟨k + 1, k, by omega, by go_num, by go_num, by omega, by omega, fun _ => by omega⟩
          case measure => simp [intOf]; omega
      · have h5 : ¬ 1114112 + (k : Int) ≤ p := by omega
        have hx : (!decide (1114111 < 1114112 + (k : Int))) = false := by rw [decide_eq_true (show 1114111 < 1114112 + (k : Int) by omega)]; rfl
        clear h3
        go_wp2
        all_goals
          go_round
          case rel => exact ⟨k + 1, 1114112 + k, by omega, by go_num, by go_num, by omega, by omega, fun _ => by omega⟩
          case measure => simp [intOf]; omega
    · go_wp2
      go_ret
      exact ⟨rfl, Grown.refl _⟩

/-! ### THE ROW's STEP: WRITTEN OUT: LEAVE IT -/
set_option maxRecDepth 100000 in
theorem lifted (os : Os) (started : os.Started) (H : Type) (enc : TypeId × Value → H) :
    ReturnsInHanded {} Yba.checked os 5 .any (Rows.lawS3630CAllBytesSpec.pre6 enc Yba.prog Yba.f5 Rows.lawS3630CAllBytesRow.domain false) (Rows.lawS3630CAllBytesSpec.post enc Yba.prog Yba.f5 false true false false) := by
  refine returnsInHanded_of_change (C := Yba.checked) own started (by kernel_rfl) Yba.func5
    (ChangeSpec.witness6 (enc := enc) (C := Yba.checked) false ⟨#[], #[], []⟩ 8 (by kernel_rfl) (by kernel_rfl) (by kernel_rfl) (by kernel_rfl)) ?_
  intro W base args ds gs before hval0 hW hcnd _
  have hval : ∀ (j : Nat) t v, Yba.f5.params[j]? = some t → args[j]? = some v → Value.okWide Yba.prog W .any base t v := hval0
  have hW' := hW
  obtain ⟨p, q, hA0, hV, rfl, hfz, hnd⟩ := hW
  have hA : DataW.TrodAll enc Yba.prog W 0 (fun _ => true) true Yba.f5.params.toList args.toList ds p := hA0
  rw [Yba.params5] at hA hval
  obtain ⟨rfl, rfl, rfl⟩ := trodAll_none hA
  obtain ⟨rfl, rfl⟩ := trodVars_none hV
  clear hA0 hval0
  simp only [List.append_nil] at hW'
  refine (walk  W).mono fun e W' ⟨he, hg⟩ => ?_
  subst he
  exact ⟨_, rfl, post_of_same (pa := []) (pv := []) hW' (fun _ _ _ => (trodAll_cons_mk (shut_bool Yba.underlying4 _) trodAll_mk0)) (fun sp _ => rfl) (fun _ _ => rfl) rfl
    (hg.frame _) hg.2.1 (ok_one (by kernel_rfl) rfl (okWide_bool_mk Yba.underlying4 _))⟩

theorem over : Rows.lawS3630CAllBytesRow.holds Yba.pinned (OpenSpec.ofChange Rows.lawS3630CAllBytesSpec) :=
  OpenClaim.holds_of_wide 5 Yba.f5 rfl rfl rfl rfl rfl rfl rfl ⟨rfl, rfl, rfl, rfl, rfl⟩ rfl rfl rfl rfl rfl (by kernel_rfl) Yba.func5 (by kernel_rfl)
    (of_decide_eq_true (by kernel_rfl)) (by unfold Func.isWrapper; first | (rw [if_pos (by decide +kernel)]; kernel_rfl) | (rw [if_neg (by decide +kernel)]; exact ⟨rfl, rfl⟩))
    (fun os started H enc _ => lifted os started H enc)

/-- ████ THE STATEMENT ████ -/
theorem proved : Rows.LawS3630CAllBytesSaid :=
  over
end Go.Proofs.Ybulkbwdq.lawS3630CAllBytes
