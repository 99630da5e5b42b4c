/-
  LawS3628CExactSaid, PROVED.
-/
import Derived.Test.YbulkbwcoLaw
import Derived.ProofKit
import Derived.OpenShut
import Derived.ShutString
import Derived.ChangeOld
import Derived.Below
import Derived.Deep.Grids
namespace Go.Proofs.Ybulkbwco
open Go.ChangeShapes Go.WideShapes Go.ChangeAt Go.RowKit
open Go.ChangeMaps (open_string shut_string)
open Go.WideMaps Go.WideElems
set_option linter.unusedVariables false

theorem own : ownKnob Yba.prog.godebug = none := by kernel_rfl
theorem laidOut : laidOutB Yba.prog = true := by kernel_rfl

/-- A []string that came in: what the walk is told of it. -/
theorem strs_view {H : Type} {enc : TypeId × Value → H} {W : World} {a : Option Addr} {len cap : Nat} {x : DataW H × List MemPlace}
    (h : ∃ n, DataW.trod enc Yba.prog W 0 (fun _ => true) true n 22 (Value.cells (.slice a len cap)).toList = some x) : ∃ ns : List ByteArray, len = ns.length ∧ StrsAt W a ns ∧ (∀ s ∈ ns, s.size ≤ maxLen) ∧ len ≤ maxLen := by
  obtain ⟨fuel, hf⟩ := h
  rcases open_strings Yba.underlying22 Yba.underlying9 (by kernel_rfl) hf with ⟨hcs, _⟩ | ⟨x, l, c, ss, hcs, _, hl, hm, hz, _, hcell, hw⟩
  · simp [Value.cells] at hcs
    obtain ⟨rfl, rfl, rfl⟩ := hcs
    exact ⟨[], rfl, fun h => absurd rfl h, fun s hs => by simp at hs, Nat.zero_le _⟩
  · simp [Value.cells] at hcs
    obtain ⟨rfl, rfl, rfl⟩ := hcs
    simp only [if_true] at hz
    have hle : len ≤ ss.length := by omega
    refine ⟨ss.take len, by simp; omega, fun hne => ?_, fun s hs => hw s (List.mem_of_mem_take hs), by omega⟩
    have h0 : 0 < len := by
      rcases Nat.eq_zero_or_pos len with e | e
      · subst e; simp at hne
      · exact e
    obtain ⟨b, off, spot⟩ := x
    have hspot : spot = none := by simpa [Addr.add] using World.cell?_spot (hcell 0 (by omega))
    subst hspot
    refine ⟨b, off, rfl, World.block_lt_of_cell? W _ (hcell 0 (by omega)), fun j hj => ?_⟩
    have hj' : j < len := by simp at hj; omega
    rw [show (ss.take len).getD j ByteArray.empty = ss.getD j ByteArray.empty by simp [List.getD, hj'], ← add_plain]
    exact hcell j (by omega)

/-- A slice of integers that came in. -/
theorem ints_view {H : Type} {enc : TypeId × Value → H} {W : World} {a : Option Addr} {len cap : Nat} {x : DataW H × List MemPlace} {t e : TypeId} {k : IntKind} (ht : Yba.prog.underlying t = some (.slice e)) (he : Yba.prog.underlying e = some (.int k)) (hc : Yba.prog.cellsOf e = 1)
    (h : ∃ n, DataW.trod enc Yba.prog W 0 (fun _ => true) true n t (Value.cells (.slice a len cap)).toList = some x) : ∃ zs : List Int, len = zs.length ∧ IntsAt k W a zs ∧ (∀ n ∈ zs, (Lit.int k n).wf = true) ∧ len ≤ maxLen := by
  obtain ⟨fuel, hf⟩ := h
  rcases open_ints ht he hc hf with ⟨hcs, _⟩ | ⟨x, l, c, ss, hcs, _, hl, hm, hz, _, hcell, hw⟩
  · simp [Value.cells] at hcs
    obtain ⟨rfl, rfl, rfl⟩ := hcs
    exact ⟨[], rfl, fun h => absurd rfl h, fun n hn => by simp at hn, Nat.zero_le _⟩
  · simp [Value.cells] at hcs
    obtain ⟨rfl, rfl, rfl⟩ := hcs
    simp only [if_true] at hz
    have hle : len ≤ ss.length := by omega
    refine ⟨ss.take len, by simp; omega, fun hne => ?_, fun n hn => hw n (List.mem_of_mem_take hn), by omega⟩
    have h0 : 0 < len := by
      rcases Nat.eq_zero_or_pos len with e | e
      · subst e; simp at hne
      · exact e
    obtain ⟨b, off, spot⟩ := x
    have hspot : spot = none := by simpa [Addr.add] using World.cell?_spot (hcell 0 (by omega))
    subst hspot
    refine ⟨b, off, rfl, World.block_lt_of_cell? W _ (hcell 0 (by omega)), fun j hj => ?_⟩
    have hj' : j < len := by simp at hj; omega
    rw [show (ss.take len).getD j 0 = ss.getD j 0 by simp [List.getD, hj'], ← add_plain]
    exact hcell j (by omega)

/-- A slice of bools that came in. -/
theorem bools_view {H : Type} {enc : TypeId × Value → H} {W : World} {a : Option Addr} {len cap : Nat} {x : DataW H × List MemPlace}
    (h : ∃ n, DataW.trod enc Yba.prog W 0 (fun _ => true) true n 24 (Value.cells (.slice a len cap)).toList = some x) : ∃ zs : List Bool, len = zs.length ∧ BoolsAt W a zs ∧ len ≤ maxLen := by
  obtain ⟨fuel, hf⟩ := h
  rcases Go.Deep.open_bools Yba.underlying24 Yba.underlying4 (by kernel_rfl) hf with ⟨hcs, _⟩ | ⟨x, l, c, bs, hcs, _, hl, hm, _, hcell⟩
  · simp [Value.cells] at hcs
    obtain ⟨rfl, rfl, rfl⟩ := hcs
    exact ⟨[], rfl, fun h => absurd rfl h, Nat.zero_le _⟩
  · simp [Value.cells] at hcs
    obtain ⟨rfl, rfl, rfl⟩ := hcs
    refine ⟨(List.range len).map bs, by simp, fun hne => ?_, by omega⟩
    have h0 : 0 < len := by
      rcases Nat.eq_zero_or_pos len with e | e
      · subst e; simp at hne
      · exact e
    obtain ⟨b, off, spot⟩ := x
    have hspot : spot = none := by simpa [Addr.add] using World.cell?_spot (hcell 0 (by omega))
    subst hspot
    refine ⟨b, off, rfl, World.block_lt_of_cell? W _ (hcell 0 (by omega)), fun j hj => ?_⟩
    have hj' : j < len := by simpa using hj
    rw [show ((List.range len).map bs).getD j false = bs j by simp [List.getD, hj'], ← add_plain]
    exact hcell j (by omega)

theorem i64s_of {zs : List Int} (h : ∀ n ∈ zs, (Lit.int .i64 n).wf = true) : ∀ j, -9223372036854775808 ≤ zs.getD j 0 ∧ zs.getD j 0 ≤ 9223372036854775807 := by
  intro j
  have := range_i64 h j
  simpa [List.getD] using this

set_option maxRecDepth 100000 in
theorem exact_lifted (os : Os) (started : os.Started) (H : Type) (enc : TypeId × Value → H) :
    ReturnsInHanded {} Yba.checked os 3 .any (Rows.lawS3628CExactSpec.pre6 enc Yba.prog Yba.f3 Rows.lawS3628CExactRow.domain false) (Rows.lawS3628CExactSpec.post enc Yba.prog Yba.f3 false true false false) := by
  refine returnsInHanded_of_change (C := Yba.checked) own started (by kernel_rfl) Yba.func3
    (ChangeSpec.witness6 (enc := enc) (C := Yba.checked) false ⟨#[], #[.slice none 0 0, .slice none 0 0, .slice none 0 0, .slice none 0 0], []⟩ 8 (by kernel_rfl) (by kernel_rfl) (by kernel_rfl) (by kernel_rfl)) ?_
  intro W base args ds gs before hval0 hW hcnd _
  have hval : ∀ (j : Nat) t v, Yba.f3.params[j]? = some t → args[j]? = some v → Value.okWide Yba.prog W .any base t v := hval0
  have hW' := hW
  obtain ⟨p, q, hA0, hV, rfl, hfz, hnd⟩ := hW
  have hA : DataW.TrodAll enc Yba.prog W 0 (fun _ => true) true Yba.f3.params.toList args.toList ds p := hA0
  rw [Yba.params3] at hA hval
  obtain ⟨v0, vs0, d0, ds0, p0, q0, hargs, rfl, rfl, h0, r0⟩ := trodAll_cons hA
  obtain ⟨v1, vs1, d1, ds1, p1, q1, rfl, rfl, rfl, h1, r1⟩ := trodAll_cons r0
  obtain ⟨v2, vs2, d2, ds2, p2, q2, rfl, rfl, rfl, h2, r2⟩ := trodAll_cons r1
  obtain ⟨v3, vs3, d3, ds3, p3, q3, rfl, rfl, rfl, h3, r3⟩ := trodAll_cons r2
  obtain ⟨rfl, rfl, rfl⟩ := trodAll_nil r3
  obtain rfl : args = #[v0, v1, v2, v3] := by cases args; simp_all
  obtain ⟨rfl, rfl⟩ := trodVars_none hV
  obtain ⟨a0, len0, cap0, rfl⟩ := okWide_slice Yba.underlying22 (hval 0 22 v0 rfl rfl)
  obtain ⟨a1, len1, cap1, rfl⟩ := okWide_slice Yba.underlying23 (hval 1 23 v1 rfl rfl)
  obtain ⟨a2, len2, cap2, rfl⟩ := okWide_slice Yba.underlying24 (hval 2 24 v2 rfl rfl)
  obtain ⟨a3, len3, cap3, rfl⟩ := okWide_slice Yba.underlying22 (hval 3 22 v3 rfl rfl)
  have lt0 : ∀ x ∈ p0, x.block < W.heap.size := by obtain ⟨m, hm⟩ := h0; exact DataW.trod_lt m _ _ _ hm
  have lt1 : ∀ x ∈ p1, x.block < W.heap.size := by obtain ⟨m, hm⟩ := h1; exact DataW.trod_lt m _ _ _ hm
  have lt2 : ∀ x ∈ p2, x.block < W.heap.size := by obtain ⟨m, hm⟩ := h2; exact DataW.trod_lt m _ _ _ hm
  have lt3 : ∀ x ∈ p3, x.block < W.heap.size := by obtain ⟨m, hm⟩ := h3; exact DataW.trod_lt m _ _ _ hm
  obtain ⟨vs, rfl, hN, wv, lv⟩ := strs_view h0
  obtain ⟨ps, rfl, hP, wP, lp⟩ := ints_view Yba.underlying23 Yba.underlying2 (by kernel_rfl) h1
  obtain ⟨js, rfl, hJ, lj⟩ := bools_view h2
  obtain ⟨xs, rfl, hX, wx, lx⟩ := strs_view h3
  clear hA0 hval0
  unfold maxLen at lv lp lj lx
  refine (law_any a0 a1 a2 a3 cap0 cap1 cap2 cap3 vs ps js xs W hN hP hJ hX wv wx (i64s_of wP) (by omega) (by omega) (by omega) (by omega)).mono fun e W' ⟨he, bel⟩ => ?_
  subst he
  exact ⟨_, rfl, _, _, _, [], _, [], hW', trodAll_mk1 (shut_bool Yba.underlying4 _), (trodAll_cons_mk (Below.trod laidOut (by kernel_rfl) (of_decide_eq_true (by kernel_rfl)) h0 bel lt0)
    (trodAll_cons_mk (Below.trod laidOut (by kernel_rfl) (of_decide_eq_true (by kernel_rfl)) h1 bel lt1) (trodAll_cons_mk (Below.trod laidOut (by kernel_rfl) (of_decide_eq_true (by kernel_rfl)) h2 bel lt2)
    (trodAll_cons_mk (Below.trod laidOut (by kernel_rfl) (of_decide_eq_true (by kernel_rfl)) h3 bel lt3) trodAll_mk0)))), rfl, bel.frame _, fun h => by cases h⟩

theorem exact_over : Rows.lawS3628CExactRow.holds Yba.pinned (OpenSpec.ofChange Rows.lawS3628CExactSpec) :=
  OpenClaim.holds_of_wide 3 Yba.f3 rfl rfl rfl rfl rfl rfl rfl ⟨rfl, rfl, rfl, rfl, rfl⟩ rfl rfl rfl rfl rfl (by kernel_rfl) Yba.func3 (by kernel_rfl)
    (of_decide_eq_true (by kernel_rfl)) (by unfold Func.isWrapper; first | (rw [if_pos (by decide +kernel)]; kernel_rfl) | (rw [if_neg (by decide +kernel)]; exact ⟨rfl, rfl⟩))
    (fun os started H enc _ => exact_lifted os started H enc)

/-- THE STATEMENT -/
theorem exact_proved : Rows.LawS3628CExactSaid := exact_over
end Go.Proofs.Ybulkbwco
