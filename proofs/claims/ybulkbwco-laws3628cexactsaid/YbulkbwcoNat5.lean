/-
  nat.add at two words and one, nat.sub, walked.
-/
import Derived.Test.YbulkbwcoNat4
namespace Go.Proofs.Ybulkbwco
open Go.RowKit
set_option linter.unusedVariables false

set_option maxRecDepth 100000 in
set_option maxHeartbeats 1000000 in
theorem add_21 (g h d : Nat) (a0 a1 b v2 : Int) (w : World) (cur : Array Value) (hr : Row w g cur) (hs : cur.size = 6) (hd : 1 ≤ d) (ha0 : 0 ≤ a0) (ha1 : 0 ≤ a1) (hb : 0 ≤ b) (hne : g ≠ h)
    (h0 : cur[0]? = some (.int .u64 a0)) (h1 : cur[1]? = some (.int .u64 a1)) (h2 : cur[2]? = some (.int .u64 v2)) (hy : w.cell? ⟨h, 0, none⟩ = some (.int .u64 b))
    (k0 : 0 ≤ addHi a0 b 0) (k1 : addHi a0 b 0 ≤ 1) (k2 : addHi a1 (addHi a0 b 0) 0 = 0) (k3 : (addLo a1 (addHi a0 b 0) 0 == 0) = false) :
    Calls Yba.prog 22 #[.slice (some ⟨g, 0, none⟩) 2 6, .slice (some ⟨g, 0, none⟩) 2 6, .slice (some ⟨h, 0, none⟩) 1 d] w fun e w' => e = .returned (.slice (some ⟨g, 0, none⟩) 2 6) ∧
      Row w' g (((cur.setIfInBounds 0 (.int .u64 (addLo a0 b 0))).setIfInBounds 1 (.int .u64 (addLo a1 (addHi a0 b 0) 0))).setIfInBounds 2 (.int .u64 0)) ∧ Turned w w' (fun k => k = g) := by
  have hd1 : (1 : Int) ≤ (d : Int) := by omega
  have s3 : 3 ≤ cur.size := by omega
  have cM := make_fit (some ⟨g, 0, none⟩) 2 6 3 w (by omega) (by omega)
  have cV := addVV1 g 0 6 g 0 6 h 0 d a0 b a0 w.drew ha0 hb ((hr.cell 0).trans h0) hy ((hr.cell 0).trans h0) (hr.free 0)
  have hE := addVV_enters
  have cW := fun W (R : Row W g (cur.setIfInBounds 0 (.int .u64 (addLo a0 b 0)))) => addVW1_same g 1 5 5 a1 (addHi a0 b 0) W ha1 k0 k1 k2 (by rw [R.cell, at_other _ _ _ _ (by omega)]; exact h1) (R.free 1)
  generalize addLo a1 (addHi a0 b 0) 0 = l1 at cW k3 ⊢
  clear k2 k0 k1
  generalize addLo a0 b 0 = l0 at cV cW ⊢
  generalize addHi a0 b 0 = hi at cV cW ⊢
  go_enter Yba.func22, Yba.ntmps22
  go_wp2_with fail
  refine cM.mono ?_
  rintro e w' ⟨rfl, rfl⟩
  go_wp2_with fail
  go_region_held3 (fun _ => True) (trivial) (first | (go_at_call 15; refine cV.mono ?_; rintro e w2 ⟨rfl, q, hq⟩))
  have R3 : Row ((w'.setCell ⟨g, 0, none⟩ (.int .u64 l0)).drewN (1 + q)) g (cur.setIfInBounds 0 (.int .u64 l0)) := (hr.set 0 _).drewN _
  have T3 : Turned w' ((w'.setCell ⟨g, 0, none⟩ (.int .u64 l0)).drewN (1 + q)) (fun k => k = g) := ((Turned.refl w' (fun k => k = g)).setCell ⟨g, 0, none⟩ _ (.inl rfl)).drewN _
  clear hq cV hE cM
  generalize ((w'.setCell ⟨g, 0, none⟩ (.int .u64 l0)).drewN (1 + q)) = w3 at R3 T3 ⊢
  have cW' := cW w3.drew (R3.drewN 1)
  clear cW
  go_wp2_with fail
  go_region_held3 (fun _ => True) (trivial) (first | (go_at_call 39; refine cW'.mono ?_; rintro e w4 ⟨rfl, q4, hq⟩))
  have R4 : Row ((w3.setCell ⟨g, 1, none⟩ (.int .u64 l1)).drewN (1 + q4)) g ((cur.setIfInBounds 0 (.int .u64 l0)).setIfInBounds 1 (.int .u64 l1)) := (R3.set 1 _).drewN _
  have T4 : Turned w' ((w3.setCell ⟨g, 1, none⟩ (.int .u64 l1)).drewN (1 + q4)) (fun k => k = g) := (T3.setCell ⟨g, 1, none⟩ _ (.inl rfl)).drewN _
  clear hq cW' R3 T3
  generalize ((w3.setCell ⟨g, 1, none⟩ (.int .u64 l1)).drewN (1 + q4)) = w5 at R4 T4 ⊢
  have e2 : w5.cell? ⟨g, 2, none⟩ = some (.int .u64 v2) := by rw [R4.cell, at_other _ _ _ _ (by omega), at_other _ _ _ _ (by omega)]; exact h2
  have f2 := R4.free 2
  have R5 := R4.set 2 (.int .u64 0)
  have T5 := T4.setCell ⟨g, 2, none⟩ (.int .u64 0) (.inl rfl)
  have cN : Calls Yba.prog 40 #[.slice (some ⟨g, 0, none⟩) 3 6] (w5.setCell ⟨g, 2, none⟩ (.int .u64 0)) fun e w' => e = .returned (.slice (some ⟨g, 0, none⟩) 2 6) ∧ w' = (w5.setCell ⟨g, 2, none⟩ (.int .u64 0)) := by
    refine norm_any g 3 2 6 _ (by omega) (by omega) (by omega) (fun j h1 h2 => ?_) (fun _ => ⟨l1, ?_, k3⟩)
    · obtain rfl : j = 2 := by omega
      rw [R5.cell]; exact at_set _ _ _ (by simp; omega)
    · rw [R5.cell, at_other _ _ _ _ (by omega)]; exact at_set _ _ _ (by simp; omega)
  have HR : Hid (Row (w5.setCell ⟨g, 2, none⟩ (.int .u64 0)) g (((cur.setIfInBounds 0 (.int .u64 l0)).setIfInBounds 1 (.int .u64 l1)).setIfInBounds 2 (.int .u64 0)) ∧ Turned w' (w5.setCell ⟨g, 2, none⟩ (.int .u64 0)) (fun k => k = g)) := ⟨R5, T5⟩
  clear R4 T4 R5 T5 hr hy h0 h1 h2 hs s3 k3
  go_wp2_with fail
  refine cN.mono ?_
  rintro e w4 ⟨rfl, rfl⟩
  go_wp2
  go_ret
  exact ⟨rfl, HR.out.1, HR.out.2⟩

/-! ### nat.sub -/
theorem sub_set (ao : Option Addr) (lz c : Nat) (bo : Option Addr) (dx h d n g' c' : Nat) (w : World) (R : World → Prop) (hn : 0 < n) (hn' : n ≤ 1000)
    (hS : Calls Yba.prog 36 #[.slice ao lz c, .slice (some ⟨h, 0, none⟩) n d] w fun e w' => e = .returned (.slice (some ⟨g', 0, none⟩) n c') ∧ R w') :
    Calls Yba.prog 23 #[.slice ao lz c, .slice (some ⟨h, 0, none⟩) n d, .slice bo 0 dx] w fun e w' => e = .returned (.slice (some ⟨g', 0, none⟩) n c') ∧ R w' := by
  have hn0 : ((n : Int) == 0) = false := by simp; omega
  go_enter Yba.func23, Yba.ntmps23
  go_wp2_with fail
  refine hS.mono ?_
  rintro e w' ⟨rfl, hR⟩
  go_wp2
  go_ret
  exact ⟨rfl, hR⟩

set_option maxRecDepth 100000 in
set_option maxHeartbeats 1000000 in
theorem sub_11_x (g c h d : Nat) (a b : Int) (w : World) (cur : Array Value) (hr : Row w g cur) (hs : cur.size = c) (hc1 : 1 ≤ c) (hc : c ≤ 1000) (hd : 1 ≤ d) (ha : 0 ≤ a) (hb : 0 ≤ b) (hb' : b < 18446744073709551616)
    (h0 : cur[0]? = some (.int .u64 a)) (hy : w.cell? ⟨h, 0, none⟩ = some (.int .u64 b)) (k0 : subHi a b 0 = 0) (m : Nat) (hm : (subLo a b 0 = 0 ∧ m = 0) ∨ ((subLo a b 0 == 0) = false ∧ m = 1)) :
    Calls Yba.prog 23 #[.slice (some ⟨g, 0, none⟩) 1 c, .slice (some ⟨g, 0, none⟩) 1 c, .slice (some ⟨h, 0, none⟩) 1 d] w fun e w' => e = .returned (.slice (some ⟨g, 0, none⟩) m c) ∧
      Row w' g (cur.setIfInBounds 0 (.int .u64 (subLo a b 0))) ∧ Turned w w' (fun k => k = g) := by
  have hc1' : (1 : Int) ≤ (c : Int) := by omega
  have hd1 : (1 : Int) ≤ (d : Int) := by omega
  have cM := make_fit (some ⟨g, 0, none⟩) 1 c 1 w hc1 hc
  have hg0 : w.cell? ⟨g, 0, none⟩ = some (.int .u64 a) := (hr.cell 0).trans h0
  have cV := subVV1 g 0 c g 0 c h 0 d a b a w.drew ha hb hb' hg0 hy hg0 (hr.free 0)
  have hE := subVV_enters
  have hs1 : 0 < cur.size := by omega
  clear hb'
  generalize subLo a b 0 = lo at cV hm ⊢
  rw [k0] at cV
  clear k0
  go_enter Yba.func23, Yba.ntmps23
  go_wp2_with fail
  refine cM.mono ?_
  rintro e w' ⟨rfl, rfl⟩
  go_wp2_with fail
  go_region_held3 (fun _ => True) (trivial) (first | (go_at_call 16; refine cV.mono ?_; rintro e w2 ⟨rfl, q, hq⟩))
  have R3 : Row ((w'.setCell ⟨g, 0, none⟩ (.int .u64 lo)).drewN (1 + q)) g (cur.setIfInBounds 0 (.int .u64 lo)) := (hr.set 0 _).drewN _
  have T3 : Turned w' ((w'.setCell ⟨g, 0, none⟩ (.int .u64 lo)).drewN (1 + q)) (fun k => k = g) := ((Turned.refl w' (fun k => k = g)).setCell ⟨g, 0, none⟩ _ (.inl rfl)).drewN _
  clear hq cV hE cM
  generalize ((w'.setCell ⟨g, 0, none⟩ (.int .u64 lo)).drewN (1 + q)) = w3 at R3 T3 ⊢
  have cN : Calls Yba.prog 40 #[.slice (some ⟨g, 0, none⟩) 1 c] w3 fun e w' => e = .returned (.slice (some ⟨g, 0, none⟩) m c) ∧ w' = w3 := by
    have hl : w3.cell? ⟨g, 0, none⟩ = some (.int .u64 lo) := by rw [R3.cell]; exact at_set _ _ _ hs1
    rcases hm with ⟨e1, rfl⟩ | ⟨e1, rfl⟩
    · subst e1
      refine norm_any g 1 0 c _ (by omega) hc1 hc (fun j h1 h2 => ?_) (fun h => by omega)
      obtain rfl : j = 0 := by omega
      exact hl
    · exact norm_any g 1 1 c _ (by omega) hc1 hc (fun j h1 h2 => by omega) (fun _ => ⟨lo, hl, e1⟩)
  clear hr hy hm h0 hs hs1 hg0
  go_wp2_with fail
  refine cN.mono ?_
  rintro e w4 ⟨rfl, rfl⟩
  go_wp2
  go_ret
  exact ⟨rfl, R3, T3⟩

set_option maxRecDepth 100000 in
set_option maxHeartbeats 1000000 in
theorem sub_11_y (g c h d : Nat) (a b : Int) (w : World) (cur : Array Value) (hr : Row w g cur) (hs : cur.size = c) (hc1 : 1 ≤ c) (hc : c ≤ 1000) (hd : 1 ≤ d) (ha : 0 ≤ a) (hb : 0 ≤ b) (hb' : a < 18446744073709551616)
    (h0 : cur[0]? = some (.int .u64 a)) (hy : w.cell? ⟨h, 0, none⟩ = some (.int .u64 b)) (k0 : subHi b a 0 = 0) (m : Nat) (hm : (subLo b a 0 = 0 ∧ m = 0) ∨ ((subLo b a 0 == 0) = false ∧ m = 1)) :
    Calls Yba.prog 23 #[.slice (some ⟨g, 0, none⟩) 1 c, .slice (some ⟨h, 0, none⟩) 1 d, .slice (some ⟨g, 0, none⟩) 1 c] w fun e w' => e = .returned (.slice (some ⟨g, 0, none⟩) m c) ∧
      Row w' g (cur.setIfInBounds 0 (.int .u64 (subLo b a 0))) ∧ Turned w w' (fun k => k = g) := by
  have hc1' : (1 : Int) ≤ (c : Int) := by omega
  have hd1 : (1 : Int) ≤ (d : Int) := by omega
  have cM := make_fit (some ⟨g, 0, none⟩) 1 c 1 w hc1 hc
  have hg0 : w.cell? ⟨g, 0, none⟩ = some (.int .u64 a) := (hr.cell 0).trans h0
  have cV := subVV1 g 0 c h 0 d g 0 c b a a w.drew hb ha hb' hy hg0 hg0 (hr.free 0)
  have hE := subVV_enters
  have hs1 : 0 < cur.size := by omega
  clear hb'
  generalize subLo b a 0 = lo at cV hm ⊢
  rw [k0] at cV
  clear k0
  go_enter Yba.func23, Yba.ntmps23
  go_wp2_with fail
  refine cM.mono ?_
  rintro e w' ⟨rfl, rfl⟩
  go_wp2_with fail
  go_region_held3 (fun _ => True) (trivial) (first | (go_at_call 16; refine cV.mono ?_; rintro e w2 ⟨rfl, q, hq⟩))
  have R3 : Row ((w'.setCell ⟨g, 0, none⟩ (.int .u64 lo)).drewN (1 + q)) g (cur.setIfInBounds 0 (.int .u64 lo)) := (hr.set 0 _).drewN _
  have T3 : Turned w' ((w'.setCell ⟨g, 0, none⟩ (.int .u64 lo)).drewN (1 + q)) (fun k => k = g) := ((Turned.refl w' (fun k => k = g)).setCell ⟨g, 0, none⟩ _ (.inl rfl)).drewN _
  clear hq cV hE cM
  generalize ((w'.setCell ⟨g, 0, none⟩ (.int .u64 lo)).drewN (1 + q)) = w3 at R3 T3 ⊢
  have cN : Calls Yba.prog 40 #[.slice (some ⟨g, 0, none⟩) 1 c] w3 fun e w' => e = .returned (.slice (some ⟨g, 0, none⟩) m c) ∧ w' = w3 := by
    have hl : w3.cell? ⟨g, 0, none⟩ = some (.int .u64 lo) := by rw [R3.cell]; exact at_set _ _ _ hs1
    rcases hm with ⟨e1, rfl⟩ | ⟨e1, rfl⟩
    · subst e1
      refine norm_any g 1 0 c _ (by omega) hc1 hc (fun j h1 h2 => ?_) (fun h => by omega)
      obtain rfl : j = 0 := by omega
      exact hl
    · exact norm_any g 1 1 c _ (by omega) hc1 hc (fun j h1 h2 => by omega) (fun _ => ⟨lo, hl, e1⟩)
  clear hr hy hm h0 hs hs1 hg0
  go_wp2_with fail
  refine cN.mono ?_
  rintro e w4 ⟨rfl, rfl⟩
  go_wp2
  go_ret
  exact ⟨rfl, R3, T3⟩

set_option maxRecDepth 100000 in
set_option maxHeartbeats 1000000 in
theorem sub_21 (g h d : Nat) (a0 a1 b : Int) (w : World) (cur : Array Value) (hr : Row w g cur) (hs : cur.size = 6) (hd : 1 ≤ d) (ha0 : 0 ≤ a0) (ha1 : 0 ≤ a1) (hb : 0 ≤ b) (hb' : b < 18446744073709551616)
    (h0 : cur[0]? = some (.int .u64 a0)) (h1 : cur[1]? = some (.int .u64 a1)) (hy : w.cell? ⟨h, 0, none⟩ = some (.int .u64 b))
    (k0 : 0 ≤ subHi a0 b 0) (k1 : subHi a0 b 0 ≤ 1) (k2 : subHi a1 (subHi a0 b 0) 0 = 0) (m : Nat) (hm : (subLo a1 (subHi a0 b 0) 0 = 0 ∧ (subLo a0 b 0 == 0) = false ∧ m = 1) ∨ ((subLo a1 (subHi a0 b 0) 0 == 0) = false ∧ m = 2)) :
    Calls Yba.prog 23 #[.slice (some ⟨g, 0, none⟩) 2 6, .slice (some ⟨g, 0, none⟩) 2 6, .slice (some ⟨h, 0, none⟩) 1 d] w fun e w' => e = .returned (.slice (some ⟨g, 0, none⟩) m 6) ∧
      Row w' g ((cur.setIfInBounds 0 (.int .u64 (subLo a0 b 0))).setIfInBounds 1 (.int .u64 (subLo a1 (subHi a0 b 0) 0))) ∧ Turned w w' (fun k => k = g) := by
  have hd1 : (1 : Int) ≤ (d : Int) := by omega
  have s2 : 2 ≤ cur.size := by omega
  have cM := make_fit (some ⟨g, 0, none⟩) 2 6 2 w (by omega) (by omega)
  have cV := subVV1 g 0 6 g 0 6 h 0 d a0 b a0 w.drew ha0 hb hb' ((hr.cell 0).trans h0) hy ((hr.cell 0).trans h0) (hr.free 0)
  have hE := subVV_enters
  have cW := fun W (R : Row W g (cur.setIfInBounds 0 (.int .u64 (subLo a0 b 0)))) => subVW1_same g 1 5 5 a1 (subHi a0 b 0) W ha1 k0 k1 k2 (by rw [R.cell, at_other _ _ _ _ (by omega)]; exact h1) (R.free 1)
  generalize subLo a1 (subHi a0 b 0) 0 = l1 at cW hm ⊢
  clear k2 k0 k1 hb'
  generalize subLo a0 b 0 = l0 at cV cW hm ⊢
  generalize subHi a0 b 0 = hi at cV cW ⊢
  go_enter Yba.func23, Yba.ntmps23
  go_wp2_with fail
  refine cM.mono ?_
  rintro e w' ⟨rfl, rfl⟩
  go_wp2_with fail
  go_region_held3 (fun _ => True) (trivial) (first | (go_at_call 16; refine cV.mono ?_; rintro e w2 ⟨rfl, q, hq⟩))
  have R3 : Row ((w'.setCell ⟨g, 0, none⟩ (.int .u64 l0)).drewN (1 + q)) g (cur.setIfInBounds 0 (.int .u64 l0)) := (hr.set 0 _).drewN _
  have T3 : Turned w' ((w'.setCell ⟨g, 0, none⟩ (.int .u64 l0)).drewN (1 + q)) (fun k => k = g) := ((Turned.refl w' (fun k => k = g)).setCell ⟨g, 0, none⟩ _ (.inl rfl)).drewN _
  clear hq cV hE cM
  generalize ((w'.setCell ⟨g, 0, none⟩ (.int .u64 l0)).drewN (1 + q)) = w3 at R3 T3 ⊢
  have cW' := cW w3.drew (R3.drewN 1)
  clear cW
  go_wp2_with fail
  go_region_held3 (fun _ => True) (trivial) (first | (go_at_call 43; refine cW'.mono ?_; rintro e w4 ⟨rfl, q4, hq⟩))
  have R4 : Row ((w3.setCell ⟨g, 1, none⟩ (.int .u64 l1)).drewN (1 + q4)) g ((cur.setIfInBounds 0 (.int .u64 l0)).setIfInBounds 1 (.int .u64 l1)) := (R3.set 1 _).drewN _
  have T4 : Turned w' ((w3.setCell ⟨g, 1, none⟩ (.int .u64 l1)).drewN (1 + q4)) (fun k => k = g) := (T3.setCell ⟨g, 1, none⟩ _ (.inl rfl)).drewN _
  clear hq cW' R3 T3
  generalize ((w3.setCell ⟨g, 1, none⟩ (.int .u64 l1)).drewN (1 + q4)) = w5 at R4 T4 ⊢
  have cN : Calls Yba.prog 40 #[.slice (some ⟨g, 0, none⟩) 2 6] w5 fun e w' => e = .returned (.slice (some ⟨g, 0, none⟩) m 6) ∧ w' = w5 := by
    have e0 : w5.cell? ⟨g, 0, none⟩ = some (.int .u64 l0) := by rw [R4.cell, at_other _ _ _ _ (by omega)]; exact at_set _ _ _ (by omega)
    have e1 : w5.cell? ⟨g, 1, none⟩ = some (.int .u64 l1) := by rw [R4.cell]; exact at_set _ _ _ (by simp; omega)
    rcases hm with ⟨f1, f2, rfl⟩ | ⟨f1, rfl⟩
    · subst f1
      refine norm_any g 2 1 6 _ (by omega) (by omega) (by omega) (fun j h1 h2 => ?_) (fun _ => ⟨l0, e0, f2⟩)
      obtain rfl : j = 1 := by omega
      exact e1
    · exact norm_any g 2 2 6 _ (by omega) (by omega) (by omega) (fun j h1 h2 => by omega) (fun _ => ⟨l1, e1, f1⟩)
  clear hr hy h0 h1 hs s2 hm
  go_wp2_with fail
  refine cN.mono ?_
  rintro e w4 ⟨rfl, rfl⟩
  go_wp2
  go_ret
  exact ⟨rfl, R4, T4⟩
end Go.Proofs.Ybulkbwco
