/-
  LawS3638CExactSaid, PROVED.
-/
import Derived.Test.YbulkbwhyOr
import Derived.ProofKit
import Derived.OpenShut
import Derived.ChangeOld
import Derived.Below
namespace Go.Proofs.Ybulkbwhy
open Go.ChangeShapes Go.WideShapes Go.ChangeAt Go.RowKit
set_option linter.unusedVariables false

theorem own4 : ownKnob Yba.prog.godebug = Option.none := by kernel_rfl

theorem exact_walk (a0 a1 a2 a4 a5 a6 : Int) (x3 x7 : Nat) (w : World) (w0 : (Lit.int .u8 a0).wf = true) (w1 : (Lit.int .i64 a1).wf = true) (w2 : (Lit.int .u64 a2).wf = true) (w3 : (Lit.float .f64 x3).wf = true) (w4 : (Lit.int .u8 a4).wf = true) (w5 : (Lit.int .i64 a5).wf = true) (w6 : (Lit.int .u64 a6).wf = true) (w7 : (Lit.float .f64 x7).wf = true) :
    Calls Yba.prog 4 #[.int .u8 a0, .int .i64 a1, .int .u64 a2, .float .f64 x3, .int .u8 a4, .int .i64 a5, .int .u64 a6, .float .f64 x7] w fun e w' => e = .returned (.bool true) ∧ Below w.heap.size w w' := by
  have u8 : ∀ a : Int, (Lit.int .u8 a).wf = true → ∃ k : Nat, a = k ∧ k < 256 := fun a h => by
    simp only [Lit.wf, Bool.and_eq_true, decide_eq_true_eq] at h
    have e1 : IntKind.u8.min = 0 := by decide
    have e2 : IntKind.u8.max = 255 := by decide
    exact ⟨a.toNat, by omega, by omega⟩
  have u64 : ∀ a : Int, (Lit.int .u64 a).wf = true → ∃ k : Nat, a = k ∧ k < 18446744073709551616 := fun a h => by
    simp only [Lit.wf, Bool.and_eq_true, decide_eq_true_eq] at h
    have e1 : IntKind.u64.min = 0 := by decide
    have e2 : IntKind.u64.max = 18446744073709551615 := by decide
    exact ⟨a.toNat, by omega, by omega⟩
  have i64 : ∀ a : Int, (Lit.int .i64 a).wf = true → -9223372036854775808 ≤ a ∧ a ≤ 9223372036854775807 := fun a h => by
    simp only [Lit.wf, Bool.and_eq_true, decide_eq_true_eq] at h
    have e1 : IntKind.i64.min = -9223372036854775808 := by decide
    have e2 : IntKind.i64.max = 9223372036854775807 := by decide
    omega
  have f64 : ∀ x : Nat, (Lit.float .f64 x).wf = true → x < 18446744073709551616 := fun x h => by
    simpa [Lit.wf] using h
  obtain ⟨k1, rfl, hk1⟩ := u8 a0 w0
  obtain ⟨u1, rfl, hu1⟩ := u64 a2 w2
  obtain ⟨k2, rfl, hk2⟩ := u8 a4 w4
  obtain ⟨u2, rfl, hu2⟩ := u64 a6 w6
  obtain ⟨p0, p1, p2, p3, c1, T1, e1, S1⟩ := side_ex k1 u1 x3 a1 hk1 hu1 (f64 x3 w3) (i64 a1 w1).1 (i64 a1 w1).2
  obtain ⟨q0, q1, q2, q3, c2, T2, e2, S2⟩ := side_ex k2 u2 x7 a5 hk2 hu2 (f64 x7 w7) (i64 a5 w5).1 (i64 a5 w5).2
  exact law4 k1 u1 x3 k2 u2 x7 a1 a5 p0 p1 q0 q1 p2 p3 q2 q3 c1 T1 e1 c2 T2 e2 (ans c1 T1 e1 c2 T2 e2).1 (ans c1 T1 e1 c2 T2 e2).2 w S1.make S2.make (fun W => order_ans S1.kind S2.kind W) (fun W v u hv hu => ccmp_ans S1.kind S2.kind W v u hv hu)

set_option maxRecDepth 100000 in
theorem exact_lifted (os : Os) (started : os.Started) (H : Type) (enc : TypeId × Value → H) :
    ReturnsInHanded {} Yba.checked os 4 .any (Rows.lawS3638CExactSpec.pre6 enc Yba.prog Yba.f4 Rows.lawS3638CExactRow.domain false) (Rows.lawS3638CExactSpec.post enc Yba.prog Yba.f4 false true false false) := by
  refine returnsInHanded_of_change (C := Yba.checked) own4 started (by kernel_rfl) Yba.func4
    (ChangeSpec.witness6 (enc := enc) (C := Yba.checked) false ⟨#[], #[.int .u8 0, .int .i64 0, .int .u64 0, .float .f64 0, .int .u8 0, .int .i64 0, .int .u64 0, .float .f64 0], []⟩ 8 (by kernel_rfl) (by kernel_rfl) (by kernel_rfl) (by kernel_rfl)) ?_
  intro W base args ds gs before hval0 hW hcnd _
  have hval : ∀ (j : Nat) t v, Yba.f4.params[j]? = some t → args[j]? = some v → Value.okWide Yba.prog W .any base t v := hval0
  have hW' := hW
  obtain ⟨p, q, hA0, hV, rfl, hfz, hnd⟩ := hW
  have hA : DataW.TrodAll enc Yba.prog W 0 (fun _ => true) true Yba.f4.params.toList args.toList ds p := hA0
  rw [Yba.params4] at hA hval
  obtain ⟨v0, vs0, d0, ds0, p0, q0, hargs, rfl, rfl, h0, r0⟩ := trodAll_cons hA
  obtain ⟨v1, vs1, d1, ds1, p1, q1, rfl, rfl, rfl, h1, r1⟩ := trodAll_cons r0
  obtain ⟨v2, vs2, d2, ds2, p2, q2, rfl, rfl, rfl, h2, r2⟩ := trodAll_cons r1
  obtain ⟨v3, vs3, d3, ds3, p3, q3, rfl, rfl, rfl, h3, r3⟩ := trodAll_cons r2
  obtain ⟨v4, vs4, d4, ds4, p4, q4, rfl, rfl, rfl, h4, r4⟩ := trodAll_cons r3
  obtain ⟨v5, vs5, d5, ds5, p5, q5, rfl, rfl, rfl, h5, r5⟩ := trodAll_cons r4
  obtain ⟨v6, vs6, d6, ds6, p6, q6, rfl, rfl, rfl, h6, r6⟩ := trodAll_cons r5
  obtain ⟨v7, vs7, d7, ds7, p7, q7, rfl, rfl, rfl, h7, r7⟩ := trodAll_cons r6
  obtain ⟨rfl, rfl, rfl⟩ := trodAll_nil r7
  obtain rfl : args = #[v0, v1, v2, v3, v4, v5, v6, v7] := by cases args; simp_all
  obtain ⟨rfl, rfl⟩ := trodVars_none hV
  obtain ⟨a0, rfl, rfl, rfl, w0⟩ := open_int Yba.underlying5 (hval 0 5 v0 rfl rfl) h0
  obtain ⟨a1, rfl, rfl, rfl, w1⟩ := open_int Yba.underlying2 (hval 1 2 v1 rfl rfl) h1
  obtain ⟨a2, rfl, rfl, rfl, w2⟩ := open_int Yba.underlying52 (hval 2 52 v2 rfl rfl) h2
  obtain ⟨x3, rfl, rfl, rfl, w3⟩ := open_float Yba.underlying53 (hval 3 53 v3 rfl rfl) h3
  obtain ⟨a4, rfl, rfl, rfl, w4⟩ := open_int Yba.underlying5 (hval 4 5 v4 rfl rfl) h4
  obtain ⟨a5, rfl, rfl, rfl, w5⟩ := open_int Yba.underlying2 (hval 5 2 v5 rfl rfl) h5
  obtain ⟨a6, rfl, rfl, rfl, w6⟩ := open_int Yba.underlying52 (hval 6 52 v6 rfl rfl) h6
  obtain ⟨x7, rfl, rfl, rfl, w7⟩ := open_float Yba.underlying53 (hval 7 53 v7 rfl rfl) h7
  clear hA0 hval0
  refine (exact_walk a0 a1 a2 a4 a5 a6 x3 x7 W w0 w1 w2 w3 w4 w5 w6 w7).mono fun e W' ⟨he, bel⟩ => ?_
  subst he
  exact ⟨_, rfl, _, _, _, [], _, [], hW', trodAll_mk1 (shut_bool Yba.underlying4 _), (trodAll_cons_mk (shut_int Yba.underlying5 w0) (trodAll_cons_mk (shut_int Yba.underlying2 w1) (trodAll_cons_mk (shut_int Yba.underlying52 w2) (trodAll_cons_mk (shut_float Yba.underlying53 w3) (trodAll_cons_mk (shut_int Yba.underlying5 w4) (trodAll_cons_mk (shut_int Yba.underlying2 w5) (trodAll_cons_mk (shut_int Yba.underlying52 w6) (trodAll_cons_mk (shut_float Yba.underlying53 w7) trodAll_mk0)))))))), rfl, bel.frame _, fun h => by cases h⟩

theorem exact_over : Rows.lawS3638CExactRow.holds Yba.pinned (OpenSpec.ofChange Rows.lawS3638CExactSpec) :=
  OpenClaim.holds_of_wide 4 Yba.f4 rfl rfl rfl rfl rfl rfl rfl ⟨rfl, rfl, rfl, rfl, rfl⟩ rfl rfl rfl rfl rfl (by kernel_rfl) Yba.func4 (by kernel_rfl)
    (of_decide_eq_true (by kernel_rfl)) (by unfold Func.isWrapper; first | (rw [if_pos (by decide +kernel)]; kernel_rfl) | (rw [if_neg (by decide +kernel)]; exact ⟨rfl, rfl⟩))
    (fun os started H enc _ => exact_lifted os started H enc)

/-- THE STATEMENT -/
theorem exact_proved : Rows.LawS3638CExactSaid := exact_over
end Go.Proofs.Ybulkbwhy
