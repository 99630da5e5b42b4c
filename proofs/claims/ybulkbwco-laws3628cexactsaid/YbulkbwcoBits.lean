/-
  math/bits.Add, Sub and the twins of math/big's assembly, at this dump.
-/
import Derived.Test.YbulkbwcoRows
import Derived.WalkKit
import Derived.WalkSpells
import Derived.WalkLawsBesides
import Derived.Laws.Externs
import Derived.Laws.Twins
namespace Go.Proofs.Ybulkbwco
open Go.RowKit
set_option linter.unusedVariables false

def addLo (x y c : Int) : Int := (x + y + c) % 18446744073709551616
def addHi (x y c : Int) : Int := (x + y + c) / 18446744073709551616
def subLo (x y c : Int) : Int := (x - y - c) % 18446744073709551616
def subHi (x y c : Int) : Int := if x < y + c then 1 else 0

theorem add53 (x y c : Int) (hx : 0 ≤ x) (hy : 0 ≤ y) (hc0 : 0 ≤ c) (hc : c ≤ 1) (w : World) : (callFunc 53 #[.int .u64 x, .int .u64 y, .int .u64 c]).run Yba.prog w =
    .ok (.value (.tuple #[.int .u64 (addLo x y c), .int .u64 (addHi x y c)])) w := by
  rw [run_callFunc_extern Yba.func53 (by kernel_rfl) (by kernel_rfl) (by kernel_rfl) (e := add64Entry) (by kernel_rfl), run_add64 x y c hx hy hc0 hc]
  rfl
def sub64Entry : Array Value → Sem Value := fun args => do
  let (x, y, b) ← Extern.MathBitsCarry.three "Sub64" args
  pure (Extern.MathBitsCarry.pair ((x + Extern.MathBitsCarry.m64 - y - b) % Extern.MathBitsCarry.m64) (if x < y + b then 1 else 0))
theorem run_sub64 (x y b : Nat) (hb : b ≤ 1) (w : World) :
    (sub64Entry #[.int .u64 x, .int .u64 y, .int .u64 b]).run Yba.prog w =
      .ok (.tuple #[.int .u64 (((x + 18446744073709551616 - y - b) % 18446744073709551616 : Nat) : Int), .int .u64 ((if x < y + b then 1 else 0 : Nat) : Int)]) w := by
  have : b = 0 ∨ b = 1 := by omega
  rcases this with rfl | rfl <;> rfl
theorem sub55 (x y b : Int) (hx : 0 ≤ x) (hy : 0 ≤ y) (hy' : y < 18446744073709551616) (hb0 : 0 ≤ b) (hb : b ≤ 1) (w : World) : (callFunc 55 #[.int .u64 x, .int .u64 y, .int .u64 b]).run Yba.prog w =
    .ok (.value (.tuple #[.int .u64 (subLo x y b), .int .u64 (subHi x y b)])) w := by
  obtain ⟨x, rfl⟩ := Int.eq_ofNat_of_zero_le hx
  obtain ⟨y, rfl⟩ := Int.eq_ofNat_of_zero_le hy
  obtain ⟨b, rfl⟩ := Int.eq_ofNat_of_zero_le hb0
  have e1 : (((x + 18446744073709551616 - y - b) % 18446744073709551616 : Nat) : Int) = ((x : Int) - y - b) % 18446744073709551616 := by omega
  have e2 : ((if x < y + b then 1 else 0 : Nat) : Int) = if (x : Int) < y + b then 1 else 0 := by split <;> split <;> omega
  unfold subLo subHi
  rw [← e1, ← e2, run_callFunc_extern Yba.func55 (by kernel_rfl) (by kernel_rfl) (by kernel_rfl) (e := sub64Entry) (by kernel_rfl), run_sub64 x y b (by omega)]
  rfl

/-- math/bits.Add. -/
theorem add41 (x y c : Int) (hx : 0 ≤ x) (hy : 0 ≤ y) (hc0 : 0 ≤ c) (hc : c ≤ 1) (w : World) :
    Calls Yba.prog 41 #[.int .u64 x, .int .u64 y, .int .u64 c] w fun e w' => e = .returned (.tuple #[.int .u64 (addLo x y c), .int .u64 (addHi x y c)]) ∧ w' = w := by
  have h := add53 x y c hx hy hc0 hc
  generalize addLo x y c = l at h ⊢
  generalize addHi x y c = m at h ⊢
  go_enter Yba.func41, Yba.ntmps41
  go_wp2
  go_ret2
  exact ⟨rfl, rfl⟩
/-- math/bits.Sub. -/
theorem sub44 (x y c : Int) (hx : 0 ≤ x) (hy : 0 ≤ y) (hy' : y < 18446744073709551616) (hc0 : 0 ≤ c) (hc : c ≤ 1) (w : World) :
    Calls Yba.prog 44 #[.int .u64 x, .int .u64 y, .int .u64 c] w fun e w' => e = .returned (.tuple #[.int .u64 (subLo x y c), .int .u64 (subHi x y c)]) ∧ w' = w := by
  have h := sub55 x y c hx hy hy' hc0 hc
  clear hy'
  generalize subLo x y c = l at h ⊢
  generalize subHi x y c = m at h ⊢
  go_enter Yba.func44, Yba.ntmps44
  go_wp2
  go_ret2
  exact ⟨rfl, rfl⟩

theorem addVV_enters (args : Array Value) (w : World) : (callFunc 38 args).run Yba.prog w = .ok (.enter 15 args) w :=
  run_callFunc_twin (twin := Yba.f15.name) Yba.func38 (by kernel_rfl) (by kernel_rfl) (by kernel_rfl) (by kernel_rfl) Yba.func15 (by kernel_rfl) (by kernel_rfl) (by kernel_rfl) args w
theorem subVV_enters (args : Array Value) (w : World) : (callFunc 42 args).run Yba.prog w = .ok (.enter 16 args) w :=
  run_callFunc_twin (twin := Yba.f16.name) Yba.func42 (by kernel_rfl) (by kernel_rfl) (by kernel_rfl) (by kernel_rfl) Yba.func16 (by kernel_rfl) (by kernel_rfl) (by kernel_rfl) args w
end Go.Proofs.Ybulkbwco
