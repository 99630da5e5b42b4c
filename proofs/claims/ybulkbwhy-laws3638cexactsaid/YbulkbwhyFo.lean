/-
  orderIntegers, orderIntegerAndFloat, orderNumbers, walked.
-/
import Derived.Test.YbulkbwhyFw
import Derived.Laws.FloatArith
namespace Go.Proofs.Ybulkbwhy
open Go.RowKit
set_option linter.unusedVariables false

theorem run_store_float (P : Program) (w : World) (a : Addr) (m : Mode) (k : FloatKind) (b : Nat) : (store a (.float k b) m).run P w = stored P w a (.float k b) m := run_store P w a _ m rfl
attribute [local go_sem] run_store_float

def numE (neg : Bool) (mag : Nat) : Value := .agg #[.bool true, .bool neg, .int .u64 (mag : Int), .float .f64 0]
def numF (x : Nat) : Value := .agg #[.bool false, .bool false, .int .u64 0, .float .f64 x]
def oi (n1 : Bool) (m1 : Nat) (n2 : Bool) (m2 : Nat) : Int := if n1 = n2 then (if n1 = true then -(sgn m1 m2) else sgn m1 m2) else (if n1 = true then -1 else 1)
theorem sgn_range (a b : Int) : -1 ≤ sgn a b ∧ sgn a b ≤ 1 := by
  unfold sgn
  split
  · omega
  · split <;> omega
theorem oi_range (n1 : Bool) (m1 : Nat) (n2 : Bool) (m2 : Nat) : -1 ≤ oi n1 m1 n2 m2 ∧ oi n1 m1 n2 m2 ≤ 1 := by
  have := sgn_range m1 m2
  unfold oi
  split
  · split <;> omega
  · split <;> omega

set_option maxRecDepth 100000 in
theorem oi17 (n1 : Bool) (m1 : Nat) (x1 : Nat) (n2 : Bool) (m2 x2 : Nat) (w : World) : Calls Yba.prog 17 #[.agg #[.bool true, .bool n1, .int .u64 (m1 : Int), .float .f64 x1], .agg #[.bool true, .bool n2, .int .u64 (m2 : Int), .float .f64 x2]] w fun e w' => e = .returned (.int .i64 (oi n1 m1 n2 m2)) ∧ Below w.heap.size w w' := by
  have h1 := fun W => cmp31 (m1 : Int) (m2 : Int) W
  have hr := sgn_range m1 m2
  unfold oi
  generalize sgn m1 m2 = s at *
  have b0 : ∀ o1 o2, Below w.heap.size w ((w.alloc o1).alloc o2) := fun o1 o2 => ((Below.refl _ w).alloc (Nat.le_refl _) o1).alloc (by simp) o2
  go_enter Yba.func17, Yba.ntmps17
  cases n1 <;> cases n2
  all_goals
    go_wp2_with (first | (go_at_call 31; refine (h1 _).mono ?_; rintro e w1 ⟨rfl, rfl⟩))
    go_ret
    refine ⟨?_, b0 _ _⟩
    simp

def cUp : Nat := 4895412794951729152
def cDn : Nat := 14118784831806504960
def geB (x : Nat) : Bool := fo x cUp == some .gt || fo x cUp == some .eq
def leB (x : Nat) : Bool := fo x cDn == some .lt || fo x cDn == some .eq
def wholeT (x : Nat) : Int := (floatToIntVal .f64 (truncB x % 9223372036854775808) .u64).getD 0
def oif (neg : Bool) (mag x : Nat) : Int × Bool :=
  if isN x = true then (0, false) else if geB x = true then (-1, true) else if leB x = true then (1, true) else
  if oi neg mag (fo (truncB x) 0 == some .lt) (wholeT x).toNat = 0 then (sgO (fo (truncB x) x), true) else (oi neg mag (fo (truncB x) 0 == some .lt) (wholeT x).toNat, true)
/-- What is asked of the whole part. -/
structure Whole (x : Nat) : Prop where
  nn : (Ieee.double.read x).isNaN = false
  val : floatToIntVal .f64 (truncB x % 9223372036854775808) .u64 = some (wholeT x)
  pos : 0 ≤ wholeT x
  ok : isN (truncB x) = false
  lt : truncB x < 18446744073709551616

theorem two_then {w w' : World} {o1 o2 : Obj} (h : Below ((w.alloc o1).alloc o2).heap.size ((w.alloc o1).alloc o2) w') : Below w.heap.size w w' := (((Below.refl _ w).alloc (Nat.le_refl _) o1).alloc (by simp) o2).trans (h.mono (by simp; omega))
theorem two (w : World) (o1 o2 : Obj) : Below w.heap.size w ((w.alloc o1).alloc o2) := ((Below.refl _ w).alloc (Nat.le_refl _) o1).alloc (by simp) o2

set_option maxRecDepth 100000 in
set_option maxHeartbeats 2000000 in
theorem oif18 (neg : Bool) (mag x : Nat) (w : World) (hW : isN x = false → geB x = false → leB x = false → Whole x) : Calls Yba.prog 18 #[numE neg mag, .float .f64 x] w fun e w' => e = .returned (.tuple #[.int .i64 (oif neg mag x).1, .bool (oif neg mag x).2]) ∧ Below w.heap.size w w' := by
  have b0 : ∀ o1, Below w.heap.size w (w.alloc o1) := fun o1 => (Below.refl _ w).alloc (Nat.le_refl _) o1
  have h19 := fun W => nan19 x W
  have hg : (FloatKind.f64.format.order x 4895412794951729152 == some .gt || FloatKind.f64.format.order x 4895412794951729152 == some .eq) = geB x := rfl
  have hl : (FloatKind.f64.format.order x 14118784831806504960 == some .lt || FloatKind.f64.format.order x 14118784831806504960 == some .eq) = leB x := rfl
  unfold oif numE
  by_cases hN : isN x = true
  · rw [if_pos hN]
    rw [hN] at h19
    clear hg hl hW
    go_enter Yba.func18, Yba.ntmps18
    go_wp2_with (first | (go_at_call 19; refine (h19 _).mono ?_; rintro e w1 ⟨rfl, rfl⟩))
    go_ret2
    exact ⟨rfl, b0 _⟩
  · have hN' : isN x = false := by simpa using hN
    rw [if_neg hN]
    rw [hN'] at h19
    by_cases hG : geB x = true
    · rw [if_pos hG]
      rw [hG] at hg
      clear hl hW hN hN'
      go_enter Yba.func18, Yba.ntmps18
      go_wp2_with (first | (go_at_call 19; refine (h19 _).mono ?_; rintro e w1 ⟨rfl, rfl⟩))
      go_ret2
      exact ⟨rfl, b0 _⟩
    · have hG' : geB x = false := by simpa using hG
      rw [if_neg hG]
      rw [hG'] at hg
      by_cases hL : leB x = true
      · rw [if_pos hL]
        rw [hL] at hl
        clear hW hN hN' hG hG'
        go_enter Yba.func18, Yba.ntmps18
        go_wp2_with (first | (go_at_call 19; refine (h19 _).mono ?_; rintro e w1 ⟨rfl, rfl⟩))
        go_ret2
        exact ⟨rfl, b0 _⟩
      · have hL' : leB x = false := by simpa using hL
        rw [if_neg hL]
        rw [hL'] at hl
        have HW : Hid (Whole x) := hW hN' hG' hL'
        have h32 := fun W => trunc32 x W HW.out.nn
        have h33 := fun W => abs33 (truncB x) W HW.out.lt
        have h20 := fun W => cmp20 (truncB x) x W HW.out.ok hN'
        have hcv := fun W => run_convert_float_int (P := Yba.prog) W 53 52 .f64 .u64 (truncB x % 9223372036854775808) (wholeT x) (by kernel_rfl) Yba.underlying52 HW.out.val
        obtain ⟨T, HT⟩ : ∃ T : Nat, Hid (wholeT x = (T : Int)) := ⟨(wholeT x).toNat, show wholeT x = _ by have := HW.out.pos; omega⟩
        rw [HT.out, Int.toNat_natCast]
        have hcv' := hcv
        simp only [HT.out] at hcv'
        have hlt : (FloatKind.f64.format.order (truncB x) 0 == some .lt) = (fo (truncB x) 0 == some .lt) := rfl
        generalize (fo (truncB x) 0 == some .lt) = ng at *
        have h17 := fun W => oi17 neg mag 0 ng T 0 W
        have hr := oi_range neg mag ng T
        clear hcv hW hN hN' hG hG' hL hL' HW HT
        generalize sgO (fo (truncB x) x) = so at *
        generalize oi neg mag ng T = sg at *
        generalize truncB x = t at *
        generalize t % 9223372036854775808 = u at *
        go_enter Yba.func18, Yba.ntmps18
        by_cases hz : sg = 0
        · subst hz
          go_wp2_with (first
            | (go_at_call 19; refine (h19 _).mono ?_; rintro e w1 ⟨rfl, rfl⟩)
            | (go_at_call 32; refine (h32 _).mono ?_; rintro e w1 ⟨rfl, rfl⟩)
            | (go_at_call 33; refine (h33 _).mono ?_; rintro e w1 ⟨rfl, rfl⟩)
            | (go_at_call 17; refine (h17 _).mono ?_; rintro e w7 ⟨rfl, hb7⟩)
            | (go_at_call 20; refine (h20 _).mono ?_; rintro e w1 ⟨rfl, rfl⟩))
          go_ret2
          exact ⟨by simp, two_then hb7⟩
        · go_wp2_with (first
            | (go_at_call 19; refine (h19 _).mono ?_; rintro e w1 ⟨rfl, rfl⟩)
            | (go_at_call 32; refine (h32 _).mono ?_; rintro e w1 ⟨rfl, rfl⟩)
            | (go_at_call 33; refine (h33 _).mono ?_; rintro e w1 ⟨rfl, rfl⟩)
            | (go_at_call 17; refine (h17 _).mono ?_; rintro e w7 ⟨rfl, hb7⟩)
            | (go_at_call 20; refine (h20 _).mono ?_; rintro e w1 ⟨rfl, rfl⟩))
          go_ret2
          exact ⟨by simp, two_then hb7⟩

set_option maxRecDepth 100000 in
theorem on_ee (n1 : Bool) (m1 : Nat) (n2 : Bool) (m2 : Nat) (w : World) : Calls Yba.prog 8 #[numE n1 m1, numE n2 m2] w fun e w' => e = .returned (.tuple #[.int .i64 (oi n1 m1 n2 m2), .bool true]) ∧ Below w.heap.size w w' := by
  have h17 := fun W => oi17 n1 m1 0 n2 m2 0 W
  generalize oi n1 m1 n2 m2 = s at *
  unfold numE
  go_enter Yba.func8, Yba.ntmps8
  go_wp2_with (first | (go_at_call 17; refine (h17 _).mono ?_; rintro e w7 ⟨rfl, hb7⟩))
  go_ret2
  exact ⟨rfl, two_then hb7⟩
set_option maxRecDepth 100000 in
theorem on_ef (n1 : Bool) (m1 x : Nat) (w : World) (hW : isN x = false → geB x = false → leB x = false → Whole x) : Calls Yba.prog 8 #[numE n1 m1, numF x] w fun e w' => e = .returned (.tuple #[.int .i64 (oif n1 m1 x).1, .bool (oif n1 m1 x).2]) ∧ Below w.heap.size w w' := by
  have h18 := fun W => oif18 n1 m1 x W hW
  clear hW
  generalize (oif n1 m1 x).1 = s at *
  generalize (oif n1 m1 x).2 = b at *
  unfold numE at *
  unfold numF
  go_enter Yba.func8, Yba.ntmps8
  go_wp2_with (first | (go_at_call 18; refine (h18 _).mono ?_; rintro e w7 ⟨rfl, hb7⟩))
  go_ret2
  exact ⟨rfl, two_then hb7⟩
theorem oif_range (neg : Bool) (mag x : Nat) : -1 ≤ (oif neg mag x).1 ∧ (oif neg mag x).1 ≤ 1 := by
  have h := oi_range neg mag (fo (truncB x) 0 == some .lt) (wholeT x).toNat
  unfold oif
  split
  · simp
  · split
    · simp
    · split
      · simp
      · split
        · unfold sgO
          split <;> simp
        · exact h
set_option maxRecDepth 100000 in
theorem on_fe (n1 : Bool) (m1 x : Nat) (w : World) (hW : isN x = false → geB x = false → leB x = false → Whole x) : Calls Yba.prog 8 #[numF x, numE n1 m1] w fun e w' => e = .returned (.tuple #[.int .i64 (-(oif n1 m1 x).1), .bool (oif n1 m1 x).2]) ∧ Below w.heap.size w w' := by
  have h18 := fun W => oif18 n1 m1 x W hW
  have hr := oif_range n1 m1 x
  clear hW
  generalize (oif n1 m1 x).1 = s at *
  generalize (oif n1 m1 x).2 = b at *
  unfold numE at *
  unfold numF
  go_enter Yba.func8, Yba.ntmps8
  go_wp2_with (first | (go_at_call 18; refine (h18 _).mono ?_; rintro e w7 ⟨rfl, hb7⟩))
  go_ret2
  exact ⟨by simp, two_then hb7⟩
def off (x y : Nat) : Int × Bool := if isN x = true ∨ isN y = true then (0, false) else (sgO (fo x y), true)
set_option maxRecDepth 100000 in
theorem on_ff (x y : Nat) (w : World) : Calls Yba.prog 8 #[numF x, numF y] w fun e w' => e = .returned (.tuple #[.int .i64 (off x y).1, .bool (off x y).2]) ∧ Below w.heap.size w w' := by
  have h1 := fun W => nan19 x W
  have h2 := fun W => nan19 y W
  unfold off numF
  cases hx : isN x with
  | true =>
    rw [hx] at h1
    simp only [true_or, if_true]
    clear hx h2
    go_enter Yba.func8, Yba.ntmps8
    go_wp2_with (first | (go_at_call 19; refine (h1 _).mono ?_; rintro e w1 ⟨rfl, rfl⟩))
    go_ret2
    exact ⟨rfl, two w _ _⟩
  | false =>
    rw [hx] at h1
    cases hy : isN y with
    | true =>
      rw [hy] at h2
      simp only [or_true, if_true]
      clear hx hy
      go_enter Yba.func8, Yba.ntmps8
      go_wp2_with (first | (go_at_call 19; first | (refine (h1 _).mono ?_; rintro e w1 ⟨rfl, rfl⟩) | (refine (h2 _).mono ?_; rintro e w1 ⟨rfl, rfl⟩)))
      go_ret2
      exact ⟨rfl, two w _ _⟩
    | false =>
      rw [hy] at h2
      have h3 := fun W => cmp20 x y W hx hy
      rw [if_neg (by simp)]
      clear hx hy
      generalize sgO (fo x y) = s at *
      go_enter Yba.func8, Yba.ntmps8
      go_wp2_with (first | (go_at_call 19; first | (refine (h1 _).mono ?_; rintro e w1 ⟨rfl, rfl⟩) | (refine (h2 _).mono ?_; rintro e w1 ⟨rfl, rfl⟩)) | (go_at_call 20; refine (h3 _).mono ?_; rintro e w1 ⟨rfl, rfl⟩))
      go_ret2
      exact ⟨rfl, two w _ _⟩
end Go.Proofs.Ybulkbwhy
