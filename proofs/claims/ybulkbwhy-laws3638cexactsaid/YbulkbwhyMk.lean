/-
  zzs3638cmake and the constructors, walked.
-/
import Derived.Test.YbulkbwhyFo
import Derived.Test.YbulkbwhyBm
namespace Go.Proofs.Ybulkbwhy
open Go.RowKit
set_option linter.unusedVariables false
attribute [local go_sem] run_store_float

theorem size55 : (Yba.prog.info? 55).map (·.size) = some 4 := by kernel_rfl
theorem size58 : (Yba.prog.info? 58).map (·.size) = some 3 := by kernel_rfl
theorem results_cells2 {P : Program} {fn : Func} {p q : Tmp} {ty ty' : TypeId} (h : fn.results = #[.cell p ty, .cell q ty']) (tmps : Array Value) (w : World) (g : Nat) (t : TypeId) (cs : Array Value) (fr : Nat × Nat) (d : TypeDesc)
    (hp : tmps.getD p undef = .pointer (some ⟨g, 0, Option.none⟩)) (hg : w.heap[g]? = some (.cells cs t fr))
    (hu : P.underlying ty = some d) (hd : (match d with | .struct _ | .array _ _ => true | _ => false) = true) (hi : (P.info? ty).map (·.size) = some cs.size)
    (g' : Nat) (t' : TypeId) (cs' : Array Value) (fr' : Nat × Nat) (d' : TypeDesc)
    (hp' : tmps.getD q undef = .pointer (some ⟨g', 0, Option.none⟩)) (hg' : w.heap[g']? = some (.cells cs' t' fr'))
    (hu' : P.underlying ty' = some d') (hd' : (match d' with | .struct _ | .array _ _ => true | _ => false) = true) (hi' : (P.info? ty').map (·.size) = some cs'.size) :
    (results fn tmps).run P w = .ok (.tuple #[.agg cs, .agg cs']) w := by
  have e1 : tmps[p]?.getD undef = .pointer (some ⟨g, 0, Option.none⟩) := by simpa using hp
  have e2 : tmps[q]?.getD undef = .pointer (some ⟨g', 0, Option.none⟩) := by simpa using hp'
  simp [results, h, e1, e2, asAddr, run_loadVar_row w g t ty cs fr d hg hu hd hi, run_loadVar_row w g' t' ty' cs' fr' d' hg' hu' hd' hi']

set_option maxRecDepth 100000 in
theorem unsigned12 (u : Nat) (w : World) : Calls Yba.prog 12 #[.int .u64 (u : Int)] w fun e w' => e = .returned (numE false u) ∧ Below w.heap.size w w' := by
  unfold numE
  have hB : ∀ o, (w.alloc o).heap[w.heap.size]? = some o := heap_new w
  have b0 : ∀ o, Below w.heap.size w (w.alloc o) := fun o => (Below.refl _ w).alloc (Nat.le_refl _) o
  go_enter Yba.func12, Yba.ntmps12
  go_wp2
  refine bodyPost_ret (results_cell_row rfl _ _ w.heap.size 55 _ (0, 0) _ rfl (hB _) Yba.underlying55 rfl size55) rfl ?_
  exact ⟨rfl, b0 _⟩
set_option maxRecDepth 100000 in
theorem floating15 (x : Nat) (w : World) : Calls Yba.prog 15 #[.float .f64 x] w fun e w' => e = .returned (numF x) ∧ Below w.heap.size w w' := by
  unfold numF
  have hB : ∀ o, (w.alloc o).heap[w.heap.size]? = some o := heap_new w
  have b0 : ∀ o, Below w.heap.size w (w.alloc o) := fun o => (Below.refl _ w).alloc (Nat.le_refl _) o
  go_enter Yba.func15, Yba.ntmps15
  go_wp2
  refine bodyPost_ret (results_cell_row rfl _ _ w.heap.size 55 _ (0, 0) _ rfl (hB _) Yba.underlying55 rfl size55) rfl ?_
  exact ⟨rfl, b0 _⟩
set_option maxRecDepth 100000 in
theorem signed10 (i : Int) (h0 : -9223372036854775808 ≤ i) (h1 : i ≤ 9223372036854775807) (w : World) : Calls Yba.prog 10 #[.int .i64 i] w fun e w' => e = .returned (numE (decide (i < 0)) i.natAbs) ∧ Below w.heap.size w w' := by
  unfold numE
  have hB : ∀ o, (w.alloc o).heap[w.heap.size]? = some o := heap_new w
  have b0 : ∀ o, Below w.heap.size w (w.alloc o) := fun o => (Below.refl _ w).alloc (Nat.le_refl _) o
  by_cases h : i < 0
  · rw [decide_eq_true h]
    have e : IntKind.u64.wrap (wrap64 (-i)) = ((i.natAbs : Nat) : Int) := by rw [IntKind.wrap_u64]; unfold wrap64; omega
    go_enter Yba.func10, Yba.ntmps10
    go_wp2
    refine bodyPost_ret (results_cell_row rfl _ _ w.heap.size 55 _ (0, 0) _ rfl (hB _) Yba.underlying55 rfl size55) rfl ?_
    exact ⟨rfl, b0 _⟩
  · rw [decide_eq_false h]
    have e : IntKind.u64.wrap i = ((i.natAbs : Nat) : Int) := by rw [IntKind.wrap_u64]; omega
    go_enter Yba.func10, Yba.ntmps10
    go_wp2
    refine bodyPost_ret (results_cell_row rfl _ _ w.heap.size 55 _ (0, 0) _ rfl (hB _) Yba.underlying55 rfl size55) rfl ?_
    exact ⟨rfl, b0 _⟩

theorem cells4 (w : World) (p : Nat) (a b c d : Value) (t : TypeId) (hp : w.heap[p]? = some (.cells #[a, b, c, d] t (0, 0))) : (w.cell? ⟨p, 0, Option.none⟩ = some a ∧ w.cell? ⟨p, 1, Option.none⟩ = some b ∧ w.cell? ⟨p, 2, Option.none⟩ = some c ∧ w.cell? ⟨p, 3, Option.none⟩ = some d) ∧ w.frozen? ⟨p, 0, Option.none⟩ = false ∧ w.frozen? ⟨p, 1, Option.none⟩ = false ∧ w.frozen? ⟨p, 2, Option.none⟩ = false ∧ w.frozen? ⟨p, 3, Option.none⟩ = false := by
  simp [World.cell?, World.frozen?, hp]
theorem cells3 (w : World) (p : Nat) (a b c : Value) (t : TypeId) (hp : w.heap[p]? = some (.cells #[a, b, c] t (0, 0))) : (w.cell? ⟨p, 0, Option.none⟩ = some a ∧ w.cell? ⟨p, 1, Option.none⟩ = some b ∧ w.cell? ⟨p, 2, Option.none⟩ = some c) ∧ w.frozen? ⟨p, 0, Option.none⟩ = false ∧ w.frozen? ⟨p, 1, Option.none⟩ = false ∧ w.frozen? ⟨p, 2, Option.none⟩ = false := by
  simp [World.cell?, World.frozen?, hp]
def put4 (w : World) (p : Nat) (a b c d : Value) : World := (((w.setCell ⟨p, 0, Option.none⟩ a).setCell ⟨p, 1, Option.none⟩ b).setCell ⟨p, 2, Option.none⟩ c).setCell ⟨p, 3, Option.none⟩ d
def put3 (w : World) (p : Nat) (a b c : Value) : World := ((w.setCell ⟨p, 0, Option.none⟩ a).setCell ⟨p, 1, Option.none⟩ b).setCell ⟨p, 2, Option.none⟩ c
theorem heap_put4 (w : World) (p : Nat) (a b c d a' b' c' d' : Value) (t : TypeId) (hp : w.heap[p]? = some (.cells #[a, b, c, d] t (0, 0))) : (put4 w p a' b' c' d').heap[p]? = some (.cells #[a', b', c', d'] t (0, 0)) := by
  simp [put4, World.setCell, Array.getElem?_modify, hp]
theorem heap_put3 (w : World) (p : Nat) (a b c a' b' c' : Value) (t : TypeId) (hp : w.heap[p]? = some (.cells #[a, b, c] t (0, 0))) : (put3 w p a' b' c').heap[p]? = some (.cells #[a', b', c'] t (0, 0)) := by
  simp [put3, World.setCell, Array.getElem?_modify, hp]
theorem far_put4 (w : World) (p q : Nat) (a b c d : Value) (h : q ≠ p) : (put4 w p a b c d).heap[q]? = w.heap[q]? := by
  unfold put4
  rw [Below.heap_setCell _ _ _ _ h, Below.heap_setCell _ _ _ _ h, Below.heap_setCell _ _ _ _ h, Below.heap_setCell _ _ _ _ h]
theorem far_put3 (w : World) (p q : Nat) (a b c : Value) (h : q ≠ p) : (put3 w p a b c).heap[q]? = w.heap[q]? := by
  unfold put3
  rw [Below.heap_setCell _ _ _ _ h, Below.heap_setCell _ _ _ _ h, Below.heap_setCell _ _ _ _ h]
theorem below_put4 {B : Nat} {w0 w : World} (hb : Below B w0 w) (p : Nat) (hp : B ≤ p) (a b c d : Value) : Below B w0 (put4 w p a b c d) := (((hb.setCell (p := ⟨p, 0, Option.none⟩) hp a).setCell (p := ⟨p, 1, Option.none⟩) hp b).setCell (p := ⟨p, 2, Option.none⟩) hp c).setCell (p := ⟨p, 3, Option.none⟩) hp d
theorem below_put3 {B : Nat} {w0 w : World} (hb : Below B w0 w) (p : Nat) (hp : B ≤ p) (a b c : Value) : Below B w0 (put3 w p a b c) := ((hb.setCell (p := ⟨p, 0, Option.none⟩) hp a).setCell (p := ⟨p, 1, Option.none⟩) hp b).setCell (p := ⟨p, 2, Option.none⟩) hp c
/-- The two results, as they are made. -/
def o55 : Obj := .cells #[.bool false, .bool false, .int .u64 0, .float .f64 0] 55
def o58 : Obj := .cells #[.int .i64 0, .pointer Option.none, .int .i64 0] 58
def W0 (w : World) : World := (w.alloc o55).alloc o58
structure Res (w0 w : World) : Prop where
  r : w.heap[w0.heap.size]? = some (.cells #[.bool false, .bool false, .int .u64 0, .float .f64 0] 55 (0, 0))
  s : w.heap[w0.heap.size + 1]? = some (.cells #[.int .i64 0, .pointer Option.none, .int .i64 0] 58 (0, 0))
  bel : Below w0.heap.size w0 w
  sz : w0.heap.size + 2 ≤ w.heap.size
theorem Res.start (w : World) : Res w (W0 w) := ⟨heap_new1 w _ _, heap_new2 w _ _, two_new w _ _, by simp [W0]⟩
theorem Res.step {w0 w w' : World} {B : Nat} (h : Res w0 w) (hb : Below B w w') (hB : w0.heap.size + 2 ≤ B) : Res w0 w' :=
  ⟨(hb.block _ (by omega)).trans h.r, (hb.block _ (by omega)).trans h.s, h.bel.trans (hb.mono (by omega)), Nat.le_trans h.sz hb.size⟩

/-- A plain exact value: its kind, its number, its place. -/
def valV (cls : Int) (p : Option Addr) (e : Int) : Value := .agg #[.int .i64 cls, .pointer p, .int .i64 e]
/-- What is known of it. -/
structure ValAt (w : World) (v : Value) (cls T e : Int) : Prop where
  shape : ∃ p, v = valV cls p e ∧ (cls = 0 → ∃ q, p = some ⟨q, 0, Option.none⟩ ∧ IntW w q T)
structure Fin7 (w w2 w9 : World) (a b c d x y z : Value) : Prop where
  r : w9.heap[w.heap.size]? = some (.cells #[a, b, c, d] 55 (0, 0))
  s : w9.heap[w.heap.size + 1]? = some (.cells #[x, y, z] 58 (0, 0))
  bel : Below w.heap.size w w9
  int : ∀ q T, IntW w2 q T → IntW w9 q T
theorem fin7 {w w2 : World} (R : Res w w2) (a b c d x y z : Value) : Fin7 w w2 (put3 (put4 w2 w.heap.size a b c d) (w.heap.size + 1) x y z) a b c d x y z := by
  have hk : ∀ (q : Nat) (C : Array Value) (t : TypeId), t ≠ 55 → t ≠ 58 → w2.heap[q]? = some (.cells C t (0, 0)) → (put3 (put4 w2 w.heap.size a b c d) (w.heap.size + 1) x y z).heap[q]? = some (.cells C t (0, 0)) := by
    intro q C t h1 h2 hq
    have e1 : q ≠ w.heap.size := fun e => by
      rw [e, R.r] at hq
      cases hq
      exact h1 rfl
    have e2 : q ≠ w.heap.size + 1 := fun e => by
      rw [e, R.s] at hq
      cases hq
      exact h2 rfl
    rw [far_put3 _ _ _ _ _ _ e2, far_put4 _ _ _ _ _ _ _ e1]
    exact hq
  refine ⟨?_, ?_, below_put3 (below_put4 R.bel _ (Nat.le_refl _) _ _ _ _) _ (by omega) _ _ _, fun q T hq => ?_⟩
  · rw [far_put3 _ _ _ _ _ _ (by omega)]
    exact heap_put4 _ _ _ _ _ _ _ _ _ _ _ R.r
  · exact heap_put3 _ _ _ _ _ _ _ _ _ ((far_put4 _ _ _ _ _ _ _ (by omega)).trans R.s)
  · obtain ⟨v, h1, h2⟩ := hq
    refine ⟨v, hk q _ 70 (by decide) (by decide) h1, ?_⟩
    rcases h2 with h2 | ⟨h3, h4, g, h5, h6⟩
    · exact .inl h2
    · exact .inr ⟨h3, h4, g, h5, hk g _ 82 (by decide) (by decide) h6⟩
set_option maxRecDepth 100000 in
set_option maxHeartbeats 1000000 in
theorem make0 (k : Nat) (hk : k < 256) (h3 : k % 3 = 0) (i : Int) (h0 : -9223372036854775808 ≤ i) (h1 : i ≤ 9223372036854775807) (u x : Nat) (w : World) : Calls Yba.prog 7 #[.int .u8 (k : Int), .int .i64 i, .int .u64 (u : Int), .float .f64 x] w fun e w' => ∃ v, e = .returned (.tuple #[numE (decide (i < 0)) i.natAbs, v]) ∧ ValAt w' v 0 i 0 ∧ Below w.heap.size w w' := by
  have e3 : (k : Int) % 3 = 0 := by omega
  have c10 := fun W => signed10 i h0 h1 W
  have c11 := fun W => newInt11 i h0 h1 W
  have R0 := Res.start w
  unfold W0 o55 o58 at R0
  unfold numE at *
  generalize decide (i < 0) = sg at *
  generalize i.natAbs = mg at *
  go_enter Yba.func7, Yba.ntmps7
  go_wp2_with (first
    | (go_at_call 10; refine (c10 _).mono ?_; rintro e w1 ⟨rfl, b1⟩; have R1 := R0.step b1 R0.sz)
    | (go_at_call 11; refine (c11 _).mono ?_; rintro e w2 ⟨p, rfl, I2, b2⟩; have R2 := R1.step b2 R1.sz; obtain ⟨⟨x0, x1, x2, x3⟩, y0, y1, y2, y3⟩ := cells4 _ _ _ _ _ _ _ R2.r; obtain ⟨⟨z0, z1, z2⟩, t0, t1, t2⟩ := cells3 _ _ _ _ _ _ R2.s))
  have F := fin7 R2 (.bool true) (.bool sg) (.int .u64 (mg : Int)) (.float .f64 0) (.int .i64 0) (.pointer (some ⟨p, 0, Option.none⟩)) (.int .i64 0)
  refine bodyPost_ret (results_cells2 rfl _ _ w.heap.size 55 _ (0, 0) _ rfl F.r Yba.underlying55 rfl size55 (w.heap.size + 1) 58 _ (0, 0) _ rfl F.s Yba.underlying58 rfl size58) rfl ?_
  exact ⟨_, rfl, ⟨_, rfl, fun _ => ⟨p, rfl, F.int _ _ I2⟩⟩, F.bel⟩
set_option maxRecDepth 100000 in
set_option maxHeartbeats 1000000 in
theorem make1 (k : Nat) (hk : k < 256) (h3 : k % 3 = 1) (i : Int) (u x : Nat) (hu : u < 18446744073709551616) (w : World) : Calls Yba.prog 7 #[.int .u8 (k : Int), .int .i64 i, .int .u64 (u : Int), .float .f64 x] w fun e w' => ∃ v, e = .returned (.tuple #[numE false u, v]) ∧ ValAt w' v 0 (u : Int) 0 ∧ Below w.heap.size w w' := by
  have e3 : (k : Int) % 3 = 1 := by omega
  have c12 := fun W => unsigned12 u W
  have c13 := fun W p hp => setUint13 u hu W p hp
  have R0 := Res.start w
  unfold W0 o55 o58 at R0
  unfold numE at *
  clear hu
  go_enter Yba.func7, Yba.ntmps7
  go_wp2_with (first
    | (go_at_call 12; refine (c12 _).mono ?_; rintro e w1 ⟨rfl, b1⟩; have R1 := R0.step b1 R0.sz; have H70 := heap_new w1 (.cells #[.bool false, .slice Option.none 0 0] 70); have R1' := R1.step ((Below.refl w1.heap.size w1).alloc (Nat.le_refl _) (.cells #[.bool false, .slice Option.none 0 0] 70)) R1.sz)
    | (go_at_call 13; refine (c13 _ _ H70).mono ?_; rintro e w2 ⟨rfl, I2, b2⟩; have R2 := R1'.step (b2 _ (Nat.le_refl _) (by simp)) R1.sz; obtain ⟨⟨x0, x1, x2, x3⟩, y0, y1, y2, y3⟩ := cells4 _ _ _ _ _ _ _ R2.r; obtain ⟨⟨z0, z1, z2⟩, t0, t1, t2⟩ := cells3 _ _ _ _ _ _ R2.s))
  have F := fin7 R2 (.bool true) (.bool false) (.int .u64 (u : Int)) (.float .f64 0) (.int .i64 0) (.pointer (some ⟨w1.heap.size, 0, Option.none⟩)) (.int .i64 0)
  refine bodyPost_ret (results_cells2 rfl _ _ w.heap.size 55 _ (0, 0) _ rfl F.r Yba.underlying55 rfl size55 (w.heap.size + 1) 58 _ (0, 0) _ rfl F.s Yba.underlying58 rfl size58) rfl ?_
  exact ⟨_, rfl, ⟨_, rfl, fun _ => ⟨_, rfl, F.int _ _ I2⟩⟩, F.bel⟩

/-- The three fields of a word. -/
structure Fld (x ng ex fr : Nat) : Prop where
  eq : x = ng * 9223372036854775808 + ex * 4503599627370496 + fr
  n : ng ≤ 1
  e : ex < 2048
  f : fr < 4503599627370496
theorem fld_ex (x : Nat) (hx : x < 18446744073709551616) : ∃ ng ex fr, Fld x ng ex fr := ⟨x / 9223372036854775808, x / 4503599627370496 % 2048, x % 4503599627370496, by omega, by omega, by omega, by omega⟩
theorem fld_bits {x ng ex fr : Nat} (h : Fld x ng ex fr) : bits .and .u64 ((x : Int) / 4503599627370496) 2047 = (ex : Int) ∧ bits .and .u64 (x : Int) 4503599627370495 = (fr : Int) ∧ (x : Int) / 9223372036854775808 = (ng : Int) := by
  obtain ⟨h1, h2, h3, h4⟩ := h
  refine ⟨?_, ?_, by omega⟩
  · rw [show (x : Int) / 4503599627370496 = ((x / 4503599627370496 : Nat) : Int) by omega]
    have e := u64_and_nat (x / 4503599627370496) 2047 (by omega) (by decide)
    rw [show (2047 : Nat) = 2 ^ 11 - 1 by decide, Nat.and_two_pow_sub_one_eq_mod] at e
    rw [show ((2 ^ 11 - 1 : Nat) : Int) = 2047 by decide] at e
    rw [e]
    omega
  · have e := u64_and_nat x 4503599627370495 (by omega) (by decide)
    rw [show (4503599627370495 : Nat) = 2 ^ 52 - 1 by decide, Nat.and_two_pow_sub_one_eq_mod] at e
    rw [show ((2 ^ 52 - 1 : Nat) : Int) = 4503599627370495 by decide] at e
    rw [e]
    omega
theorem fr_or (fr : Nat) (h : fr < 4503599627370496) : bits .or .u64 (fr : Int) 4503599627370496 = ((fr + 4503599627370496 : Nat) : Int) := by
  have e := u64_or_nat fr 4503599627370496 (by omega) (by decide)
  have e2 : fr ||| 4503599627370496 = fr + 4503599627370496 := by
    have := Nat.two_pow_add_eq_or_of_lt (i := 52) (b := fr) h 1
    rw [Nat.or_comm]
    simp at this
    omega
  rw [e2] at e
  exact e
end Go.Proofs.Ybulkbwhy
