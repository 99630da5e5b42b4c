/-
  nat.add, walked at the sizes that a sum of int64s meets.
-/
import Derived.Test.YbulkbwcoNat3
namespace Go.Proofs.Ybulkbwco
open Go.RowKit
set_option linter.unusedVariables false

theorem add_00 (ao bo co : Option Addr) (c d e0 lz : Nat) (w : World) (hc : c ≤ 1000) (hz : ao = none → c = 0) :
    Calls Yba.prog 22 #[.slice ao lz c, .slice bo 0 d, .slice co 0 e0] w fun e w' => e = .returned (.slice ao 0 c) ∧ w' = w := by
  go_enter Yba.func22, Yba.ntmps22
  go_wp2
  go_ret
  exact ⟨rfl, rfl⟩
theorem add_x0 (g c n bo' : Nat) (bo : Option Addr) (d : Nat) (cur : Array Value) (cs : List Value) (w : World) (hr : Row w g cur) (hs : cur.size = c) (hn : cs.length = n) (hn0 : 0 < n) (hnc : n ≤ c) (hc : c ≤ 1000)
    (hx : ∀ j v, cs[j]? = some v → w.cell? ⟨g, j, none⟩ = some v) (h1 : ∀ v ∈ cs, v.oneCell' = true) :
    Calls Yba.prog 22 #[.slice (some ⟨g, 0, none⟩) n c, .slice (some ⟨g, 0, none⟩) n c, .slice bo 0 d] w fun e w' => e = .returned (.slice (some ⟨g, 0, none⟩) n c) ∧ w' = w.setRow g (cs ++ cur.toList.drop n).toArray := by
  have hS := set_fit g n c g n c cur cs w hr hs hn hnc hc hx h1
  have hn' : ((n : Int) == 0) = false := by simp; omega
  clear hx hn hs hr
  generalize w.setRow g (cs ++ cur.toList.drop n).toArray = wr at hS ⊢
  go_enter Yba.func22, Yba.ntmps22
  go_wp2_with fail
  refine hS.mono ?_
  rintro e w' ⟨rfl, rfl⟩
  go_wp2
  go_ret
  exact ⟨rfl, rfl⟩
/-- one word + nothing: set; nothing + one word: the same. -/
theorem add_set (ao : Option Addr) (lz c : Nat) (bo : Option Addr) (dx h d g' c' : Nat) (w : World) (R : World → Prop)
    (hS : Calls Yba.prog 36 #[.slice ao lz c, .slice (some ⟨h, 0, none⟩) 1 d] w fun e w' => e = .returned (.slice (some ⟨g', 0, none⟩) 1 c') ∧ R w') :
    Calls Yba.prog 22 #[.slice ao lz c, .slice (some ⟨h, 0, none⟩) 1 d, .slice bo 0 dx] w fun e w' => e = .returned (.slice (some ⟨g', 0, none⟩) 1 c') ∧ R w' := by
  go_enter Yba.func22, Yba.ntmps22
  go_wp2_with fail
  refine hS.mono ?_
  rintro e w' ⟨rfl, hR⟩
  go_wp2
  go_ret
  exact ⟨rfl, hR⟩
theorem add_01 (ao : Option Addr) (lz c : Nat) (bo : Option Addr) (dx h d g' c' : Nat) (w : World) (R : World → Prop)
    (hS : Calls Yba.prog 36 #[.slice ao lz c, .slice (some ⟨h, 0, none⟩) 1 d] w fun e w' => e = .returned (.slice (some ⟨g', 0, none⟩) 1 c') ∧ R w') :
    Calls Yba.prog 22 #[.slice ao lz c, .slice bo 0 dx, .slice (some ⟨h, 0, none⟩) 1 d] w fun e w' => e = .returned (.slice (some ⟨g', 0, none⟩) 1 c') ∧ R w' := by
  have h10 := add_set ao lz c bo dx h d g' c' w R hS
  clear hS
  go_enter Yba.func22, Yba.ntmps22
  go_wp2_with fail
  refine h10.mono ?_
  rintro e w' ⟨rfl, hR⟩
  go_wp2
  go_ret
  exact ⟨rfl, hR⟩

theorem at_set (c : Array Value) (i : Nat) (v : Value) (h : i < c.size) : (c.setIfInBounds i v)[i]? = some v := by simp [h]
theorem at_other (c : Array Value) (i j : Nat) (v : Value) (h : i ≠ j) : (c.setIfInBounds i v)[j]? = c[j]? := by simp [h]

set_option maxRecDepth 100000 in
set_option maxHeartbeats 1000000 in
theorem add_11_fit (g c h d : Nat) (a b v1 : Int) (w : World) (cur : Array Value) (hr : Row w g cur) (hs : cur.size = c) (hc2 : 2 ≤ c) (hc : c ≤ 1000) (hd : 1 ≤ d) (ha : 0 ≤ a) (hb : 0 ≤ b) (hne : g ≠ h)
    (h0 : cur[0]? = some (.int .u64 a)) (h1 : cur[1]? = some (.int .u64 v1)) (hy : w.cell? ⟨h, 0, none⟩ = some (.int .u64 b)) (m : Nat) (hm : (addHi a b 0 = 0 ∧ (addLo a b 0 == 0) = false ∧ m = 1) ∨ ((addHi a b 0 == 0) = false ∧ m = 2)) :
    Calls Yba.prog 22 #[.slice (some ⟨g, 0, none⟩) 1 c, .slice (some ⟨g, 0, none⟩) 1 c, .slice (some ⟨h, 0, none⟩) 1 d] w fun e w' => e = .returned (.slice (some ⟨g, 0, none⟩) m c) ∧
      Row w' g ((cur.setIfInBounds 0 (.int .u64 (addLo a b 0))).setIfInBounds 1 (.int .u64 (addHi a b 0))) ∧ Turned w w' (fun k => k = g) := by
  have hc1 : (1 : Int) ≤ (c : Int) := by omega
  have hd1 : (1 : Int) ≤ (d : Int) := by omega
  have cM := make_fit (some ⟨g, 0, none⟩) 1 c 2 w hc2 hc
  have cV := fun W (hr : Row W g cur) (hy : W.cell? ⟨h, 0, none⟩ = some (.int .u64 b)) => addVV1 g 0 c g 0 c h 0 d a b a W ha hb (by rw [hr.cell]; exact h0) hy (by rw [hr.cell]; exact h0) (hr.free 0)
  have hE := addVV_enters
  generalize addLo a b 0 = lo at cV hm ⊢
  generalize addHi a b 0 = hi at cV hm ⊢
  go_enter Yba.func22, Yba.ntmps22
  go_wp2_with fail
  refine cM.mono ?_
  rintro e w' ⟨rfl, rfl⟩
  go_wp2_with fail
  go_region_held3 (fun w' => w'.cell? ⟨h, 0, none⟩ = some (.int .u64 b)) (first | go_keep | (simp [hy2])) (first | (go_at_call 15; refine (cV _ ?_ ?_).mono ?_; exact hr.drewN 1; exact hy; rintro e w2 ⟨rfl, q, hq⟩))
  have R3 : Row ((w'.setCell ⟨g, 0, none⟩ (.int .u64 lo)).drewN (1 + q)) g (cur.setIfInBounds 0 (.int .u64 lo)) := (hr.set 0 _).drewN _
  have T3 : Turned w' ((w'.setCell ⟨g, 0, none⟩ (.int .u64 lo)).drewN (1 + q)) (fun k => k = g) := ((Turned.refl w' (fun k => k = g)).setCell ⟨g, 0, none⟩ _ (.inl rfl)).drewN _
  clear hq cV hE cM
  generalize ((w'.setCell ⟨g, 0, none⟩ (.int .u64 lo)).drewN (1 + q)) = w3 at R3 T3 ⊢
  have k1 : w3.cell? ⟨g, 1, none⟩ = some (.int .u64 v1) := by rw [R3.cell]; simp [h1]
  have f1 := R3.free 1
  have R4 := R3.set 1 (.int .u64 hi)
  have T4 := T3.setCell ⟨g, 1, none⟩ (.int .u64 hi) (.inl rfl)
  have s2 : 2 ≤ cur.size := by omega
  have cN : Calls Yba.prog 40 #[.slice (some ⟨g, 0, none⟩) 2 c] (w3.setCell ⟨g, 1, none⟩ (.int .u64 hi)) fun e w' => e = .returned (.slice (some ⟨g, 0, none⟩) m c) ∧ w' = (w3.setCell ⟨g, 1, none⟩ (.int .u64 hi)) := by
    rcases hm with ⟨e1, e2, rfl⟩ | ⟨e1, rfl⟩
    · subst e1
      refine norm_any g 2 1 c _ (by omega) hc2 hc (fun j h1 h2 => ?_) (fun _ => ⟨lo, ?_, e2⟩)
      · obtain rfl : j = 1 := by omega
        rw [R4.cell]; exact at_set _ _ _ (by simp; omega)
      · rw [R4.cell, at_other _ _ _ _ (by omega)]; exact at_set _ _ _ (by omega)
    · exact norm_any g 2 2 c _ (by omega) hc2 hc (fun j h1 h2 => by omega) (fun _ => ⟨hi, by rw [R4.cell]; exact at_set _ _ _ (by simp; omega), e1⟩)
  have HR : Hid (Row (w3.setCell ⟨g, 1, none⟩ (.int .u64 hi)) g ((cur.setIfInBounds 0 (.int .u64 lo)).setIfInBounds 1 (.int .u64 hi)) ∧ Turned w' (w3.setCell ⟨g, 1, none⟩ (.int .u64 hi)) (fun k => k = g)) := ⟨R4, T4⟩
  clear R3 T3 R4 T4 hr hy hm h0 h1 hs s2
  go_wp2_with fail
  refine cN.mono ?_
  rintro e w4 ⟨rfl, rfl⟩
  go_wp2
  go_ret
  exact ⟨rfl, HR.out.1, HR.out.2⟩

set_option maxRecDepth 100000 in
set_option maxHeartbeats 1000000 in
theorem add_11_new (g c h d : Nat) (a b : Int) (w : World) (hg : g < w.heap.size) (hh : h < w.heap.size) (hc1 : 1 ≤ c) (hc2 : c < 2) (hd : 1 ≤ d) (ha : 0 ≤ a) (hb : 0 ≤ b)
    (hx : w.cell? ⟨g, 0, none⟩ = some (.int .u64 a)) (hy : w.cell? ⟨h, 0, none⟩ = some (.int .u64 b)) (m : Nat) (hm : (addHi a b 0 = 0 ∧ (addLo a b 0 == 0) = false ∧ m = 1) ∨ ((addHi a b 0 == 0) = false ∧ m = 2)) :
    Calls Yba.prog 22 #[.slice (some ⟨g, 0, none⟩) 1 c, .slice (some ⟨g, 0, none⟩) 1 c, .slice (some ⟨h, 0, none⟩) 1 d] w fun e w' => e = .returned (.slice (some ⟨w.heap.size, 0, none⟩) m 6) ∧
      Row w' w.heap.size #[.int .u64 (addLo a b 0), .int .u64 (addHi a b 0), .int .u64 0, .int .u64 0, .int .u64 0, .int .u64 0] ∧ Below w.heap.size w w' := by
  have hc1' : (1 : Int) ≤ (c : Int) := by omega
  have hd1 : (1 : Int) ≤ (d : Int) := by omega
  have cM := make_two (some ⟨g, 0, none⟩) 1 c w hc2
  have hxa : (w.alloc (.cells #[.int .u64 0, .int .u64 0, .int .u64 0, .int .u64 0, .int .u64 0, .int .u64 0] 67)).cell? ⟨g, 0, none⟩ = some (.int .u64 a) := by rw [World.cell?_alloc_lt (h := hg)]; exact hx
  have hya : (w.alloc (.cells #[.int .u64 0, .int .u64 0, .int .u64 0, .int .u64 0, .int .u64 0, .int .u64 0] 67)).cell? ⟨h, 0, none⟩ = some (.int .u64 b) := by rw [World.cell?_alloc_lt (h := hh)]; exact hy
  have ra := Row.new w #[.int .u64 0, .int .u64 0, .int .u64 0, .int .u64 0, .int .u64 0, .int .u64 0]
  have ba' : Below w.heap.size w (w.alloc (.cells #[.int .u64 0, .int .u64 0, .int .u64 0, .int .u64 0, .int .u64 0, .int .u64 0] 67)) := (Below.refl _ w).alloc (Nat.le_refl _) _
  generalize w.alloc (.cells #[.int .u64 0, .int .u64 0, .int .u64 0, .int .u64 0, .int .u64 0, .int .u64 0] 67) = wa at cM hxa hya ra ba'
  have cV := addVV1 w.heap.size 0 6 g 0 c h 0 d a b 0 wa.drew ha hb hxa hya (ra.cell 0) (ra.free 0)
  have hE := addVV_enters
  generalize addLo a b 0 = lo at cV hm ⊢
  generalize addHi a b 0 = hi at cV hm ⊢
  clear hg hh
  generalize w.heap.size = N at cV cM ra ba' ⊢
  go_enter Yba.func22, Yba.ntmps22
  go_wp2_with fail
  refine cM.mono ?_
  rintro e w' ⟨rfl, rfl⟩
  go_wp2_with fail
  go_region_held3 (fun _ => True) (trivial) (first | (go_at_call 15; refine cV.mono ?_; rintro e w2 ⟨rfl, q, hq⟩))
  have R3 : Row ((w'.setCell ⟨N, 0, none⟩ (.int .u64 lo)).drewN (1 + q)) N #[.int .u64 lo, .int .u64 0, .int .u64 0, .int .u64 0, .int .u64 0, .int .u64 0] := (ra.set 0 (.int .u64 lo)).drewN _
  have T3 : Below N w ((w'.setCell ⟨N, 0, none⟩ (.int .u64 lo)).drewN (1 + q)) := below_drewN (ba'.setCell (Nat.le_refl _) _) _
  clear hq cV hE cM
  generalize ((w'.setCell ⟨N, 0, none⟩ (.int .u64 lo)).drewN (1 + q)) = w3 at R3 T3 ⊢
  have k1 : w3.cell? ⟨N, 1, none⟩ = some (.int .u64 0) := R3.cell 1
  have f1 := R3.free 1
  have R4 : Row (w3.setCell ⟨N, 1, none⟩ (.int .u64 hi)) N #[.int .u64 lo, .int .u64 hi, .int .u64 0, .int .u64 0, .int .u64 0, .int .u64 0] := R3.set 1 (.int .u64 hi)
  have T4 := T3.setCell (p := ⟨N, 1, none⟩) (Nat.le_refl _) (.int .u64 hi)
  have cN : Calls Yba.prog 40 #[.slice (some ⟨N, 0, none⟩) 2 6] (w3.setCell ⟨N, 1, none⟩ (.int .u64 hi)) fun e w' => e = .returned (.slice (some ⟨N, 0, none⟩) m 6) ∧ w' = (w3.setCell ⟨N, 1, none⟩ (.int .u64 hi)) := by
    rcases hm with ⟨e1, e2, rfl⟩ | ⟨e1, rfl⟩
    · subst e1
      refine norm_any N 2 1 6 _ (by omega) (by omega) (by omega) (fun j h1 h2 => ?_) (fun _ => ⟨lo, R4.cell 0, e2⟩)
      obtain rfl : j = 1 := by omega
      exact R4.cell 1
    · exact norm_any N 2 2 6 _ (by omega) (by omega) (by omega) (fun j h1 h2 => by omega) (fun _ => ⟨hi, R4.cell 1, e1⟩)
  have HR : Hid (Row (w3.setCell ⟨N, 1, none⟩ (.int .u64 hi)) N #[.int .u64 lo, .int .u64 hi, .int .u64 0, .int .u64 0, .int .u64 0, .int .u64 0] ∧ Below N w (w3.setCell ⟨N, 1, none⟩ (.int .u64 hi))) := ⟨R4, T4⟩
  clear R3 T3 R4 T4 hm hxa hya ra ba' hx hy
  go_wp2_with fail
  refine cN.mono ?_
  rintro e w4 ⟨rfl, rfl⟩
  go_wp2
  go_ret
  exact ⟨rfl, HR.out.1, HR.out.2⟩
end Go.Proofs.Ybulkbwco
