/-
  zzs3638cmake at floats, walked.
-/
import Derived.Test.YbulkbwhyMk
namespace Go.Proofs.Ybulkbwhy
open Go.RowKit
set_option linter.unusedVariables false
attribute [local go_sem] run_store_float

set_option maxRecDepth 100000 in
set_option maxHeartbeats 1000000 in
theorem make2c (k : Nat) (hk : k < 256) (h3 : k % 3 = 2) (i : Int) (u x : Nat) (ng fr : Nat) (hf : Fld x ng 2047 fr) (w : World) : Calls Yba.prog 7 #[.int .u8 (k : Int), .int .i64 i, .int .u64 (u : Int), .float .f64 x] w fun e w' => ∃ v, e = .returned (.tuple #[numF x, v]) ∧ ValAt w' v (if fr = 0 then (if ng = 1 then -1 else 1) else 2) 0 0 ∧ Below w.heap.size w w' := by
  have e3 : (k : Int) % 3 = 2 := by omega
  obtain ⟨e4, e5, e6⟩ := fld_bits hf
  have h14 := bits14 x
  have c15 := fun W => floating15 x W
  have R0 := Res.start w
  unfold W0 o55 o58 at R0
  unfold numF at *
  by_cases hfr : fr = 0
  · subst hfr
    rw [if_pos rfl]
    by_cases hng : ng = 1
    · subst hng
      rw [if_pos rfl]
      clear hf
      go_enter Yba.func7, Yba.ntmps7
      go_wp2_with (first
        | (go_at_call 15; refine (c15 _).mono ?_; rintro e w1 ⟨rfl, b1⟩; have R1 := R0.step b1 R0.sz; obtain ⟨⟨x0, x1, x2, x3⟩, y0, y1, y2, y3⟩ := cells4 _ _ _ _ _ _ _ R1.r; obtain ⟨⟨z0, z1, z2⟩, t0, t1, t2⟩ := cells3 _ _ _ _ _ _ R1.s))
      have F := fin7 R1 (.bool false) (.bool false) (.int .u64 0) (.float .f64 x) (.int .i64 (-1)) (.pointer Option.none) (.int .i64 0)
      refine bodyPost_ret (results_cells2 rfl _ _ w.heap.size 55 _ (0, 0) _ rfl F.r Yba.underlying55 rfl size55 (w.heap.size + 1) 58 _ (0, 0) _ rfl F.s Yba.underlying58 rfl size58) rfl ?_
      exact ⟨_, rfl, ⟨_, rfl, fun h => by omega⟩, F.bel⟩
    · rw [if_neg hng]
      have hb : ((ng : Int) == 1) = false := by simp; omega
      clear hf
      go_enter Yba.func7, Yba.ntmps7
      go_wp2_with (first
        | (go_at_call 15; refine (c15 _).mono ?_; rintro e w1 ⟨rfl, b1⟩; have R1 := R0.step b1 R0.sz; obtain ⟨⟨x0, x1, x2, x3⟩, y0, y1, y2, y3⟩ := cells4 _ _ _ _ _ _ _ R1.r; obtain ⟨⟨z0, z1, z2⟩, t0, t1, t2⟩ := cells3 _ _ _ _ _ _ R1.s))
      have F := fin7 R1 (.bool false) (.bool false) (.int .u64 0) (.float .f64 x) (.int .i64 (1)) (.pointer Option.none) (.int .i64 0)
      refine bodyPost_ret (results_cells2 rfl _ _ w.heap.size 55 _ (0, 0) _ rfl F.r Yba.underlying55 rfl size55 (w.heap.size + 1) 58 _ (0, 0) _ rfl F.s Yba.underlying58 rfl size58) rfl ?_
      exact ⟨_, rfl, ⟨_, rfl, fun h => by omega⟩, F.bel⟩
  · rw [if_neg hfr]
    have hb : ((fr : Int) != 0) = true := by simp; omega
    clear hf
    go_enter Yba.func7, Yba.ntmps7
    go_wp2_with (first
      | (go_at_call 15; refine (c15 _).mono ?_; rintro e w1 ⟨rfl, b1⟩; have R1 := R0.step b1 R0.sz; obtain ⟨⟨x0, x1, x2, x3⟩, y0, y1, y2, y3⟩ := cells4 _ _ _ _ _ _ _ R1.r; obtain ⟨⟨z0, z1, z2⟩, t0, t1, t2⟩ := cells3 _ _ _ _ _ _ R1.s))
    have F := fin7 R1 (.bool false) (.bool false) (.int .u64 0) (.float .f64 x) (.int .i64 (2)) (.pointer Option.none) (.int .i64 0)
    refine bodyPost_ret (results_cells2 rfl _ _ w.heap.size 55 _ (0, 0) _ rfl F.r Yba.underlying55 rfl size55 (w.heap.size + 1) 58 _ (0, 0) _ rfl F.s Yba.underlying58 rfl size58) rfl ?_
    exact ⟨_, rfl, ⟨_, rfl, fun h => by omega⟩, F.bel⟩
set_option maxRecDepth 100000 in
set_option maxHeartbeats 1000000 in
theorem make2sp (k : Nat) (hk : k < 256) (h3 : k % 3 = 2) (i : Int) (u x fr : Nat) (hf : Fld x 0 0 fr) (w : World) : Calls Yba.prog 7 #[.int .u8 (k : Int), .int .i64 i, .int .u64 (u : Int), .float .f64 x] w fun e w' => ∃ v, e = .returned (.tuple #[numF x, v]) ∧ ValAt w' v 0 (((fr : Nat) : Int)) (-1074) ∧ Below w.heap.size w w' := by
  have e3 : (k : Int) % 3 = 2 := by omega
  obtain ⟨e4, e5, e6⟩ := fld_bits hf
  have h14 := bits14 x
  have c15 := fun W => floating15 x W
  have c13 := fun W p hp => setUint13 (fr) (by have := hf.f; omega) W p hp
  have c16 := fun W p hI => neg16 (fr) W p hI
  have R0 := Res.start w
  unfold W0 o55 o58 at R0
  have H70 := heap_new ((w.alloc (.cells #[.bool false, .bool false, .int .u64 0, .float .f64 0] 55)).alloc (.cells #[.int .i64 0, .pointer Option.none, .int .i64 0] 58)) (.cells #[.bool false, .slice Option.none 0 0] 70)
  have R0' := R0.step ((Below.refl _ _).alloc (Nat.le_refl _) (.cells #[.bool false, .slice Option.none 0 0] 70)) R0.sz
  simp only [World.size_alloc] at H70
  unfold numF at *
  clear hf
  go_enter Yba.func7, Yba.ntmps7
  go_wp2_with (first
    | (go_at_call 13; refine (c13 _ _ H70).mono ?_; rintro e w2 ⟨rfl, I2, b2⟩; have R2 := R0'.step (b2 _ (Nat.le_refl _) (by simp)) (by simp))
    | (go_at_call 15; refine (c15 _).mono ?_; rintro e w4 ⟨rfl, b4⟩; have R4 := R2.step b4 R2.sz; have I4 := I2.keep b4; obtain ⟨⟨x0, x1, x2, x3⟩, y0, y1, y2, y3⟩ := cells4 _ _ _ _ _ _ _ R4.r; obtain ⟨⟨z0, z1, z2⟩, t0, t1, t2⟩ := cells3 _ _ _ _ _ _ R4.s))
  have F := fin7 R4 (.bool false) (.bool false) (.int .u64 0) (.float .f64 x) (.int .i64 0) (.pointer (some ⟨w.heap.size + 2, 0, Option.none⟩)) (.int .i64 (-1074))
  refine bodyPost_ret (results_cells2 rfl _ _ w.heap.size 55 _ (0, 0) _ rfl F.r Yba.underlying55 rfl size55 (w.heap.size + 1) 58 _ (0, 0) _ rfl F.s Yba.underlying58 rfl size58) rfl ?_
  exact ⟨_, rfl, ⟨_, rfl, fun _ => ⟨_, rfl, F.int _ _ I4⟩⟩, F.bel⟩
set_option maxRecDepth 100000 in
set_option maxHeartbeats 1000000 in
theorem make2sm (k : Nat) (hk : k < 256) (h3 : k % 3 = 2) (i : Int) (u x fr : Nat) (hf : Fld x 1 0 fr) (w : World) : Calls Yba.prog 7 #[.int .u8 (k : Int), .int .i64 i, .int .u64 (u : Int), .float .f64 x] w fun e w' => ∃ v, e = .returned (.tuple #[numF x, v]) ∧ ValAt w' v 0 (-((fr : Nat) : Int)) (-1074) ∧ Below w.heap.size w w' := by
  have e3 : (k : Int) % 3 = 2 := by omega
  obtain ⟨e4, e5, e6⟩ := fld_bits hf
  have h14 := bits14 x
  have c15 := fun W => floating15 x W
  have c13 := fun W p hp => setUint13 (fr) (by have := hf.f; omega) W p hp
  have c16 := fun W p hI => neg16 (fr) W p hI
  have R0 := Res.start w
  unfold W0 o55 o58 at R0
  have H70 := heap_new ((w.alloc (.cells #[.bool false, .bool false, .int .u64 0, .float .f64 0] 55)).alloc (.cells #[.int .i64 0, .pointer Option.none, .int .i64 0] 58)) (.cells #[.bool false, .slice Option.none 0 0] 70)
  have R0' := R0.step ((Below.refl _ _).alloc (Nat.le_refl _) (.cells #[.bool false, .slice Option.none 0 0] 70)) R0.sz
  simp only [World.size_alloc] at H70
  unfold numF at *
  clear hf
  go_enter Yba.func7, Yba.ntmps7
  go_wp2_with (first
    | (go_at_call 13; refine (c13 _ _ H70).mono ?_; rintro e w2 ⟨rfl, I2, b2⟩; have R2 := R0'.step (b2 _ (Nat.le_refl _) (by simp)) (by simp))
    | (go_at_call 16; refine (c16 _ _ I2).mono ?_; rintro e w3 ⟨rfl, I3, b3⟩; have R3 := R2.step (b3 (w.heap.size + 2) (by simp) R2.sz) (Nat.le_refl _))
    | (go_at_call 15; refine (c15 _).mono ?_; rintro e w4 ⟨rfl, b4⟩; have R4 := R3.step b4 R3.sz; have I4 := I3.keep b4; obtain ⟨⟨x0, x1, x2, x3⟩, y0, y1, y2, y3⟩ := cells4 _ _ _ _ _ _ _ R4.r; obtain ⟨⟨z0, z1, z2⟩, t0, t1, t2⟩ := cells3 _ _ _ _ _ _ R4.s))
  have F := fin7 R4 (.bool false) (.bool false) (.int .u64 0) (.float .f64 x) (.int .i64 0) (.pointer (some ⟨w.heap.size + 2, 0, Option.none⟩)) (.int .i64 (-1074))
  refine bodyPost_ret (results_cells2 rfl _ _ w.heap.size 55 _ (0, 0) _ rfl F.r Yba.underlying55 rfl size55 (w.heap.size + 1) 58 _ (0, 0) _ rfl F.s Yba.underlying58 rfl size58) rfl ?_
  exact ⟨_, rfl, ⟨_, rfl, fun _ => ⟨_, rfl, F.int _ _ I4⟩⟩, F.bel⟩
set_option maxRecDepth 100000 in
set_option maxHeartbeats 1000000 in
theorem make2np (k : Nat) (hk : k < 256) (h3 : k % 3 = 2) (i : Int) (u x fr : Nat) (ex : Nat) (hx0 : 0 < ex) (hx1 : ex < 2047) (hf : Fld x 0 ex fr) (w : World) : Calls Yba.prog 7 #[.int .u8 (k : Int), .int .i64 i, .int .u64 (u : Int), .float .f64 x] w fun e w' => ∃ v, e = .returned (.tuple #[numF x, v]) ∧ ValAt w' v 0 (((fr + 4503599627370496 : Nat) : Int)) ((ex : Int) - 1075) ∧ Below w.heap.size w w' := by
  have e3 : (k : Int) % 3 = 2 := by omega
  obtain ⟨e4, e5, e6⟩ := fld_bits hf
  have h14 := bits14 x
  have c15 := fun W => floating15 x W
  have c13 := fun W p hp => setUint13 (fr + 4503599627370496) (by have := hf.f; omega) W p hp
  have c16 := fun W p hI => neg16 (fr + 4503599627370496) W p hI
  have R0 := Res.start w
  unfold W0 o55 o58 at R0
  have H70 := heap_new ((w.alloc (.cells #[.bool false, .bool false, .int .u64 0, .float .f64 0] 55)).alloc (.cells #[.int .i64 0, .pointer Option.none, .int .i64 0] 58)) (.cells #[.bool false, .slice Option.none 0 0] 70)
  have R0' := R0.step ((Below.refl _ _).alloc (Nat.le_refl _) (.cells #[.bool false, .slice Option.none 0 0] 70)) R0.sz
  simp only [World.size_alloc] at H70
  unfold numF at *
  have ez : ((ex : Int) == 0) = false := by simp; omega
  have em : ((ex : Int) == 2047) = false := by simp; omega
  have eo := fr_or fr hf.f
  clear hf
  go_enter Yba.func7, Yba.ntmps7
  go_wp2_with (first
    | (go_at_call 13; refine (c13 _ _ H70).mono ?_; rintro e w2 ⟨rfl, I2, b2⟩; have R2 := R0'.step (b2 _ (Nat.le_refl _) (by simp)) (by simp))
    | (go_at_call 15; refine (c15 _).mono ?_; rintro e w4 ⟨rfl, b4⟩; have R4 := R2.step b4 R2.sz; have I4 := I2.keep b4; obtain ⟨⟨x0, x1, x2, x3⟩, y0, y1, y2, y3⟩ := cells4 _ _ _ _ _ _ _ R4.r; obtain ⟨⟨z0, z1, z2⟩, t0, t1, t2⟩ := cells3 _ _ _ _ _ _ R4.s))
  have F := fin7 R4 (.bool false) (.bool false) (.int .u64 0) (.float .f64 x) (.int .i64 0) (.pointer (some ⟨w.heap.size + 2, 0, Option.none⟩)) (.int .i64 ((ex : Int) - 1075))
  refine bodyPost_ret (results_cells2 rfl _ _ w.heap.size 55 _ (0, 0) _ rfl F.r Yba.underlying55 rfl size55 (w.heap.size + 1) 58 _ (0, 0) _ rfl F.s Yba.underlying58 rfl size58) rfl ?_
  exact ⟨_, rfl, ⟨_, rfl, fun _ => ⟨_, rfl, F.int _ _ I4⟩⟩, F.bel⟩
set_option maxRecDepth 100000 in
set_option maxHeartbeats 1000000 in
theorem make2nm (k : Nat) (hk : k < 256) (h3 : k % 3 = 2) (i : Int) (u x fr : Nat) (ex : Nat) (hx0 : 0 < ex) (hx1 : ex < 2047) (hf : Fld x 1 ex fr) (w : World) : Calls Yba.prog 7 #[.int .u8 (k : Int), .int .i64 i, .int .u64 (u : Int), .float .f64 x] w fun e w' => ∃ v, e = .returned (.tuple #[numF x, v]) ∧ ValAt w' v 0 (-((fr + 4503599627370496 : Nat) : Int)) ((ex : Int) - 1075) ∧ Below w.heap.size w w' := by
  have e3 : (k : Int) % 3 = 2 := by omega
  obtain ⟨e4, e5, e6⟩ := fld_bits hf
  have h14 := bits14 x
  have c15 := fun W => floating15 x W
  have c13 := fun W p hp => setUint13 (fr + 4503599627370496) (by have := hf.f; omega) W p hp
  have c16 := fun W p hI => neg16 (fr + 4503599627370496) W p hI
  have R0 := Res.start w
  unfold W0 o55 o58 at R0
  have H70 := heap_new ((w.alloc (.cells #[.bool false, .bool false, .int .u64 0, .float .f64 0] 55)).alloc (.cells #[.int .i64 0, .pointer Option.none, .int .i64 0] 58)) (.cells #[.bool false, .slice Option.none 0 0] 70)
  have R0' := R0.step ((Below.refl _ _).alloc (Nat.le_refl _) (.cells #[.bool false, .slice Option.none 0 0] 70)) R0.sz
  simp only [World.size_alloc] at H70
  unfold numF at *
  have ez : ((ex : Int) == 0) = false := by simp; omega
  have em : ((ex : Int) == 2047) = false := by simp; omega
  have eo := fr_or fr hf.f
  clear hf
  go_enter Yba.func7, Yba.ntmps7
  go_wp2_with (first
    | (go_at_call 13; refine (c13 _ _ H70).mono ?_; rintro e w2 ⟨rfl, I2, b2⟩; have R2 := R0'.step (b2 _ (Nat.le_refl _) (by simp)) (by simp))
    | (go_at_call 16; refine (c16 _ _ I2).mono ?_; rintro e w3 ⟨rfl, I3, b3⟩; have R3 := R2.step (b3 (w.heap.size + 2) (by simp) R2.sz) (Nat.le_refl _))
    | (go_at_call 15; refine (c15 _).mono ?_; rintro e w4 ⟨rfl, b4⟩; have R4 := R3.step b4 R3.sz; have I4 := I3.keep b4; obtain ⟨⟨x0, x1, x2, x3⟩, y0, y1, y2, y3⟩ := cells4 _ _ _ _ _ _ _ R4.r; obtain ⟨⟨z0, z1, z2⟩, t0, t1, t2⟩ := cells3 _ _ _ _ _ _ R4.s))
  have F := fin7 R4 (.bool false) (.bool false) (.int .u64 0) (.float .f64 x) (.int .i64 0) (.pointer (some ⟨w.heap.size + 2, 0, Option.none⟩)) (.int .i64 ((ex : Int) - 1075))
  refine bodyPost_ret (results_cells2 rfl _ _ w.heap.size 55 _ (0, 0) _ rfl F.r Yba.underlying55 rfl size55 (w.heap.size + 1) 58 _ (0, 0) _ rfl F.s Yba.underlying58 rfl size58) rfl ?_
  exact ⟨_, rfl, ⟨_, rfl, fun _ => ⟨_, rfl, F.int _ _ I4⟩⟩, F.bel⟩
end Go.Proofs.Ybulkbwhy
