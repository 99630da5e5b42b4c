/-
  The small functions over floats and uint64, walked.
-/
import Derived.Test.YbulkbwhyRows
import Derived.WalkKit
import Derived.Laws.Cover2
import Derived.Laws.Twins
import Derived.Laws.BitsAllLaws
namespace Go.Proofs.Ybulkbwhy
open Go.RowKit
set_option linter.unusedVariables false

def Hid (p : Prop) : Prop := p
theorem Hid.out {p : Prop} (h : Hid p) : p := h
/-- The order of two words. -/
def fo (x y : Nat) : Option Ordering := Ieee.double.order x y
def isN (x : Nat) : Bool := fo x x != some .eq
def sgO : Option Ordering → Int
  | some .lt => -1
  | some .gt => 1
  | _ => 0
def sgn (a b : Int) : Int := if a < b then -1 else if b < a then 1 else 0

set_option maxRecDepth 100000 in
theorem nan19 (x : Nat) (w : World) : Calls Yba.prog 19 #[.float .f64 x] w fun e w' => e = .returned (.bool (isN x)) ∧ w' = w := by
  go_enter Yba.func19, Yba.ntmps19
  go_wp2
  go_ret
  exact ⟨rfl, rfl⟩
set_option maxRecDepth 100000 in
theorem nan34 (x : Nat) (w : World) : Calls Yba.prog 34 #[.float .f64 x] w fun e w' => e = .returned (.bool (isN x)) ∧ w' = w := by
  go_enter Yba.func34, Yba.ntmps34
  go_wp2
  go_ret
  exact ⟨rfl, rfl⟩
set_option maxRecDepth 100000 in
theorem nan40 (x : Int) (w : World) : Calls Yba.prog 40 #[.int .u64 x] w fun e w' => e = .returned (.bool false) ∧ w' = w := by
  go_enter Yba.func40, Yba.ntmps40
  go_wp2
  go_ret
  simp
theorem bits14 (x : Nat) (w : World) : (callFunc 14 #[.float .f64 x]).run Yba.prog w = .ok (.value (.int .u64 (x : Int))) w := by
  rw [run_callFunc_extern Yba.func14 (by kernel_rfl) (by kernel_rfl) (by kernel_rfl) (e := Extern.MathFloatBits.float64bits) (by kernel_rfl)]
  rfl
theorem from43 (x : Nat) (w : World) : (callFunc 43 #[.int .u64 (x : Int)]).run Yba.prog w = .ok (.value (.float .f64 x)) w := by
  rw [run_callFunc_extern Yba.func43 (by kernel_rfl) (by kernel_rfl) (by kernel_rfl) (e := Extern.MathFloatBits.float64frombits) (by kernel_rfl)]
  rfl
/-- What archTrunc gives where x is no NaN. -/
def truncB (x : Nat) : Nat := Ieee.double.write ((Ieee.double.read x).integral .zero)
theorem entry_num (x : Nat) (w : World) (hx : (Ieee.double.read x).isNaN = false) : (Extern.MathFloor.toIntegral "math.archTrunc" .zero #[.float .f64 x]).run Yba.prog w = .ok (.float .f64 (truncB x)) w := by
  have hd : FloatKind.f64.decode x = Ieee.double.read x := rfl
  delta Extern.MathFloor.toIntegral truncB
  conv => lhs; arg 2; whnf
  rw [hd]
  cases h : Ieee.double.read x with
  | nan s t => rw [h] at hx; cases hx
  | number s m i => rfl
  | infinity s => rfl
theorem trunc41 (x : Nat) (w : World) (hx : (Ieee.double.read x).isNaN = false) : (callFunc 41 #[.float .f64 x]).run Yba.prog w = .ok (.value (.float .f64 (truncB x))) w := by
  rw [run_callFunc_extern Yba.func41 (by kernel_rfl) (by kernel_rfl) (by kernel_rfl) (e := Extern.MathFloor.toIntegral "math.archTrunc" .zero) (by kernel_rfl), entry_num x w hx]
  rfl
set_option maxRecDepth 100000 in
theorem trunc32 (x : Nat) (w : World) (hx : (Ieee.double.read x).isNaN = false) : Calls Yba.prog 32 #[.float .f64 x] w fun e w' => e = .returned (.float .f64 (truncB x)) ∧ w' = w := by
  have h := trunc41 x w hx
  clear hx
  go_enter Yba.func32, Yba.ntmps32
  go_wp2
  go_ret
  exact ⟨rfl, rfl⟩

set_option maxRecDepth 100000 in
theorem cmp31 (a b : Int) (w : World) : Calls Yba.prog 31 #[.int .u64 a, .int .u64 b] w fun e w' => e = .returned (.int .i64 (sgn a b)) ∧ w' = w := by
  have h1 : ∀ x, Calls Yba.prog 40 #[.int .u64 x] w fun e w' => e = .returned (.bool false) ∧ w' = w := fun x => nan40 x w
  unfold sgn
  go_enter Yba.func31, Yba.ntmps31
  by_cases hl : a < b
  · go_wp2_with (first | (go_at_call 40; refine (h1 _).mono ?_; rintro e w1 ⟨rfl, rfl⟩))
    go_ret
    simp
  · by_cases hg : b < a
    · go_wp2_with (first | (go_at_call 40; refine (h1 _).mono ?_; rintro e w1 ⟨rfl, rfl⟩))
      go_ret
      simp
    · go_wp2_with (first | (go_at_call 40; refine (h1 _).mono ?_; rintro e w1 ⟨rfl, rfl⟩))
      go_ret
      simp
set_option maxRecDepth 100000 in
theorem cmp20 (x y : Nat) (w : World) (hx : isN x = false) (hy : isN y = false) : Calls Yba.prog 20 #[.float .f64 x, .float .f64 y] w fun e w' => e = .returned (.int .i64 (sgO (fo x y))) ∧ w' = w := by
  have h1 : ∀ W, Calls Yba.prog 34 #[.float .f64 x] W fun e w' => e = .returned (.bool false) ∧ w' = W := fun W => by have := nan34 x W; rw [hx] at this; exact this
  have h2 : ∀ W, Calls Yba.prog 34 #[.float .f64 y] W fun e w' => e = .returned (.bool false) ∧ w' = W := fun W => by have := nan34 y W; rw [hy] at this; exact this
  clear hx hy
  go_enter Yba.func20, Yba.ntmps20
  have ho : FloatKind.f64.format.order x y = fo x y := rfl
  generalize fo x y = o at ho ⊢
  cases o with
  | none =>
    go_wp2_with (first | (go_at_call 34; first | (refine (h1 _).mono ?_; rintro e w1 ⟨rfl, rfl⟩) | (refine (h2 _).mono ?_; rintro e w1 ⟨rfl, rfl⟩)))
    go_ret
    exact ⟨rfl, rfl⟩
  | some o =>
    cases o <;> (go_wp2_with (first | (go_at_call 34; first | (refine (h1 _).mono ?_; rintro e w1 ⟨rfl, rfl⟩) | (refine (h2 _).mono ?_; rintro e w1 ⟨rfl, rfl⟩))); go_ret; exact ⟨rfl, rfl⟩)
set_option maxRecDepth 100000 in
theorem abs33 (x : Nat) (w : World) (hx : x < 18446744073709551616) : Calls Yba.prog 33 #[.float .f64 x] w fun e w' => e = .returned (.float .f64 (x % 9223372036854775808)) ∧ w' = w := by
  have h1 := bits14 x
  have h2 := from43 (x % 9223372036854775808)
  have h3 : bits .andNot .u64 (x : Int) 9223372036854775808 = ((x % 9223372036854775808 : Nat) : Int) := by
    have e := u64_andNot_nat x 9223372036854775808 hx (by decide)
    rw [show (18446744073709551615 - 9223372036854775808 : Nat) = 2 ^ 63 - 1 by decide, Nat.and_two_pow_sub_one_eq_mod] at e
    exact e
  generalize x % 9223372036854775808 = y at *
  go_enter Yba.func33, Yba.ntmps33
  go_wp2
  go_ret
  exact ⟨rfl, rfl⟩
end Go.Proofs.Ybulkbwhy
