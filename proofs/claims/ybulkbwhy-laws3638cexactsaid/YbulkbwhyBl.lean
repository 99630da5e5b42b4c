/-
  nat.lsh, walked.
-/
import Derived.Test.YbulkbwhyBs
namespace Go.Proofs.Ybulkbwhy
open Go.RowKit
set_option linter.unusedVariables false

def Hid' (p : Prop) : Prop := p
def val : List Nat → Nat
  | [] => 0
  | d :: l => d + 18446744073709551616 * val l
/-- The slice v holds the words ds, the last of them not 0. -/
structure NatD (w : World) (v : Value) (ds : List Nat) : Prop where
  shape : ∃ a c, v = .slice a ds.length c ∧ (ds ≠ [] → ∃ g, a = some ⟨g, 0, Option.none⟩ ∧ g < w.heap.size ∧ ∀ j, j < ds.length → w.cell? ⟨g, j, Option.none⟩ = some (.int .u64 ((ds.getD j 0 : Nat) : Int)))
  len : ds.length ≤ 100
  digs : ∀ d ∈ ds, d < 18446744073709551616
  top : ds ≠ [] → ds.getD (ds.length - 1) 0 ≠ 0
theorem NatD.nil (w : World) : NatD w (.slice Option.none 0 0) [] := ⟨⟨Option.none, 0, rfl, fun h => absurd rfl h⟩, by simp, by simp, fun h => absurd rfl h⟩

theorem below_drewN {B : Nat} {a w : World} (h : Below B a w) (n : Nat) : Below B a (w.drewN n) := h.trans ⟨rfl, rfl, rfl, Nat.le_refl _, fun _ _ => rfl⟩

theorem lsh_a (w : World) : Calls Yba.prog 35 #[.slice Option.none 0 0, .slice Option.none 0 0, .int .u64 0] w fun e w' => e = .returned (.slice Option.none 0 0) ∧ Below w.heap.size w w' := by
  have h1 := fun W => same44 Option.none 0 0 W
  have h2 := fun W => alias45 Option.none 0 0 W
  have h3 := fun W => set39_0 W
  go_enter Yba.func35, Yba.ntmps35
  go_wp2_with (first
    | (go_at_call 44; refine (h1 _).mono ?_; rintro e w1 ⟨rfl, q1, rfl⟩)
    | (go_at_call 45; refine (h2 _).mono ?_; rintro e w2 ⟨rfl, q2, rfl⟩)
    | (go_at_call 39; refine (h3 _).mono ?_; rintro e w3 ⟨rfl, rfl⟩))
  go_ret
  exact ⟨rfl, below_drewN (Below.refl _ w) _⟩
theorem lsh_b (s : Nat) (hs : 0 < s) (w : World) : Calls Yba.prog 35 #[.slice Option.none 0 0, .slice Option.none 0 0, .int .u64 (s : Int)] w fun e w' => e = .returned (.slice Option.none 0 0) ∧ Below w.heap.size w w' := by
  have e1 : ((s : Int) == 0) = false := by simp; omega
  go_enter Yba.func35, Yba.ntmps35
  go_wp2
  go_ret
  exact ⟨rfl, Below.refl _ w⟩
theorem lsh_c (g n : Nat) (w : World) (hg : w.heap[g]? = some (.cells #[.int .u64 (n : Int)] 82 (0, 0))) : Calls Yba.prog 35 #[.slice Option.none 0 0, .slice (some ⟨g, 0, Option.none⟩) 1 1, .int .u64 0] w fun e w' => ∃ g', e = .returned (.slice (some ⟨g', 0, Option.none⟩) 1 1) ∧ w'.heap[g']? = some (.cells #[.int .u64 (n : Int)] 82 (0, 0)) ∧ Below w.heap.size w w' := by
  have h1 := fun W => same44 (some ⟨g, 0, Option.none⟩) 1 1 W
  have h2 := fun W => alias45 (some ⟨g, 0, Option.none⟩) 1 1 W
  have h3 := fun W h => set39_1 g n W h
  have hd : ∀ q, w.heap[g]? = some (.cells #[.int .u64 (n : Int)] 82 (0, 0)) → (w.drewN q).heap[g]? = some (.cells #[.int .u64 (n : Int)] 82 (0, 0)) := fun q h => h
  go_enter Yba.func35, Yba.ntmps35
  go_wp2_with (first
    | (go_at_call 44; refine (h1 _).mono ?_; rintro e w1 ⟨rfl, q1, rfl⟩)
    | (go_at_call 45; refine (h2 _).mono ?_; rintro e w2 ⟨rfl, q2, rfl⟩)
    | (go_at_call 39; refine (h3 _ (by exact hg)).mono ?_; rintro e w3 ⟨rfl, hE, hB⟩))
  go_ret
  exact ⟨_, rfl, hE, (below_drewN (Below.refl _ w) (q1 + q2)).trans hB⟩
/-- The words of block G are f. -/
structure RowZ (w : World) (G m : Nat) (f : Nat → Nat) : Prop where
  cell : ∀ j, j < m → w.cell? ⟨G, j, Option.none⟩ = some (.int .u64 ((f j : Nat) : Int))
  free : ∀ j, w.frozen? ⟨G, j, Option.none⟩ = false
theorem RowZ.new (w : World) (m : Nat) : RowZ (w.alloc (.cells (zrow m) 82)) w.heap.size m (fun _ => 0) := by
  have hb := heap_new w (.cells (zrow m) 82)
  refine ⟨fun j hj => ?_, fun j => ?_⟩
  · unfold World.cell?
    rw [hb]
    simp [zrow, hj]
  · unfold World.frozen?
    rw [hb]
    simp
theorem RowZ.set {w : World} {G m : Nat} {f : Nat → Nat} (h : RowZ w G m f) (i v : Nat) (hi : i < m) : RowZ (w.setCell ⟨G, i, Option.none⟩ (.int .u64 (v : Int))) G m (fun j => if j = i then v else f j) := by
  refine ⟨fun j hj => ?_, fun j => ?_⟩
  · by_cases e : j = i
    · subst e
      rw [if_pos rfl]
      exact World.cell?_setCell_same _ _ _ (h.cell j hj)
    · rw [if_neg e, World.cell?_setCell_other]
      · exact h.cell j hj
      · intro e'
        cases e'
        exact e rfl
  · have := h.free j
    simpa using this
theorem RowZ.clear {w : World} {G m k : Nat} {f : Nat → Nat} (h : RowZ w G m f) (hk : k ≤ m) (hz : ∀ j, j < k → f j = 0) : RowZ (w.setCells G 0 (List.replicate k (.int .u64 0))) G m f := by
  refine ⟨fun j hj => ?_, fun j => by rw [World.frozen?_setCells]; exact h.free j⟩
  by_cases e : j < k
  · have := World.cell?_setCells_in G (List.replicate k (.int .u64 0)) 0 w (fun i hi => by rw [Nat.zero_add, h.cell i (by simp at hi; omega)]; rfl) j (by simpa using e)
    rw [Nat.zero_add] at this
    rw [this, hz j e]
    simp
  · rw [World.cell?_setCells_out]
    · exact h.cell j hj
    · intro _ _
      right
      simp
      omega
theorem below_setCells {B g : Nat} {a w : World} (hb : Below B a w) (hg : B ≤ g) : ∀ (vs : List Value) (o : Nat) (w : World), Below B a w → Below B a (w.setCells g o vs)
  | [], o, w, h => h
  | v :: r, o, w, h => below_setCells hb hg r (o + 1) _ (h.setCell (p := ⟨g, o, Option.none⟩) hg v)
theorem lo_pos (n r : Nat) (hn0 : 0 < n) (hr : r < 64) : n / 2 ^ (64 - r) = 0 → n * 2 ^ r % 18446744073709551616 ≠ 0 := by
  intro h
  have h1 : n < 2 ^ (64 - r) := by
    rcases Nat.lt_or_ge n (2 ^ (64 - r)) with h1 | h1
    · exact h1
    · have := Nat.div_pos h1 (Nat.two_pow_pos _)
      omega
  have h2 : n * 2 ^ r < 2 ^ (64 - r) * 2 ^ r := Nat.mul_lt_mul_of_pos_right h1 (Nat.two_pow_pos _)
  rw [← Nat.pow_add, show 64 - r + r = 64 by omega] at h2
  rw [Nat.mod_eq_of_lt (by simpa using h2)]
  have := Nat.mul_pos hn0 (Nat.two_pow_pos r)
  omega
theorem zero82 (w : World) : (zeroValue 82).run Yba.prog w = .ok (.int .u64 0) w := by kernel_rfl
theorem clear_run {w : World} {G m k : Nat} {f : Nat → Nat} (h : RowZ w G m f) (hk : k ≤ m) (hz : ∀ j, j < k → f j = 0) (c : Nat) : ∃ w', (Builtin.clear_ #[68] 0 #[.slice (some ⟨G, 0, Option.none⟩) k c]).run Yba.prog w = .ok (.tuple #[]) w' ∧ RowZ w' G m f ∧ ∀ a B, B ≤ G → Below B a w → Below B a w' := by
  rcases Nat.eq_zero_or_pos k with rfl | hp
  · exact ⟨w, by simp [Builtin.clear_, run_underlying Yba.underlying68], h, fun a B _ hb => hb⟩
  · refine ⟨_, Lib.run_clear_slice w 68 82 0 (.int .u64 0) Yba.underlying68 zero82 rfl rfl G 0 k c hp (fun j hj => by rw [Nat.zero_add, h.cell j (by omega)]; rfl) (fun j hj => h.free _), h.clear hk hz, fun a B hB hb => below_setCells hb hB _ _ _ hb⟩

set_option maxRecDepth 100000 in
set_option maxHeartbeats 1000000 in
theorem lsh_d2 (g n k r : Nat) (hr0 : 0 < r) (hr : r < 64) (hk : k ≤ 40) (w : World) (hn0 : 0 < n) (hn : n < 18446744073709551616) (hg : w.heap[g]? = some (.cells #[.int .u64 (n : Int)] 82 (0, 0))) :
    Calls Yba.prog 35 #[.slice Option.none 0 0, .slice (some ⟨g, 0, Option.none⟩) 1 1, .int .u64 ((64 * k + r : Nat) : Int)] w fun e w' => e = .returned (.slice (some ⟨w.heap.size, 0, Option.none⟩) (if n / 2 ^ (64 - r) = 0 then k + 1 else k + 1 + 1) (k + 1 + 1 + 4)) ∧ RowZ w' w.heap.size (k + 1 + 1 + 4) (fun j => if j = k + 1 then n / 2 ^ (64 - r) else if j = k then n * 2 ^ r % 18446744073709551616 else 0) ∧ Below w.heap.size w w' := by
  have hlo : n / 2 ^ (64 - r) = 0 → n * 2 ^ r % 18446744073709551616 ≠ 0 := lo_pos n r hn0 hr
  obtain ⟨s, Hs⟩ : ∃ s, s = 64 * k + r := ⟨_, rfl⟩
  rw [← Hs]
  have e1 : ((s : Int) == 0) = false := by simp; omega
  have e2 : (s : Int) / 64 = (k : Int) := by omega
  have e3 : (s : Int) % 64 = (r : Int) := by omega
  have e4 : ((r : Int) == 0) = false := by simp; omega
  obtain ⟨p, Hp⟩ : ∃ p, Hid' (p = k + 1) := ⟨_, rfl⟩
  have hpk : p = k + 1 := Hp
  have e5 : 1 + (k : Int) = (p : Int) := by omega
  have e6 : (p : Int) - 1 = (k : Int) := by omega
  have e7 : (k : Int) ≤ (p : Int) := by omega
  have hk1 : k ≤ p := by omega
  have h38 : ∀ W, Calls Yba.prog 38 #[.slice Option.none 0 0, .int .i64 ((p : Int) + 1)] W _ := fun W => by
    have := make_more (p + 1) (by omega) (by omega) W
    rw [show ((p + 1 : Nat) : Int) = (p : Int) + 1 by simp] at this
    exact this
  have e8 : p - k = 1 := by omega
  have hpl : p < p + 1 + 4 := by omega
  have hkl : k < p + 1 + 4 := by omega
  have hkp : k ≠ p := by omega
  have h25 : ∀ W u, W.cell? ⟨g, 0, Option.none⟩ = some (.int .u64 (n : Int)) → W.cell? ⟨w.heap.size, k, Option.none⟩ = some u → W.frozen? ⟨w.heap.size, k, Option.none⟩ = false → Calls Yba.prog 25 #[.slice (some ⟨w.heap.size, k, Option.none⟩) 1 (p + 1 + 4 - k), .slice (some ⟨g, 0, Option.none⟩) 1 1, .int .u64 (r : Int)] W _ := fun W u h1 h2 h3 => lshVU25 w.heap.size k (p + 1 + 4 - k) g n r W hr0 hr h1 u h2 h3
  have hgl : g < w.heap.size := (Array.getElem?_eq_some_iff.1 hg).1
  have R0 := RowZ.new w (p + 1 + 4)
  have hx : (w.alloc (.cells (zrow (p + 1 + 4)) 82)).cell? ⟨g, 0, Option.none⟩ = some (.int .u64 (n : Int)) := by
    have : (w.alloc (.cells (zrow (p + 1 + 4)) 82)).heap[g]? = some (.cells #[.int .u64 (n : Int)] 82 (0, 0)) := (Below.heap_alloc _ _ _ hgl).trans hg
    simp [World.cell?, this]
  have B0 : Below w.heap.size w (w.alloc (.cells (zrow (p + 1 + 4)) 82)) := (Below.refl _ w).alloc (Nat.le_refl _) _
  generalize n * 2 ^ r % 18446744073709551616 = lo at *
  generalize n / 2 ^ (64 - r) = hi at *
  rw [← hpk]
  have hfz : ∀ j, j < k → (fun j => if j = p then hi else if j = k then lo else 0) j = 0 := fun j hj => by
    simp only []
    rw [if_neg (by omega), if_neg (by omega)]
  have hkm : k ≤ p + 1 + 4 := by omega
  have hp1 : p ≤ 60 := by omega
  have HL : Hid' (hi = 0 → lo ≠ 0) := hlo
  have hks : k = p - 1 := by omega
  have HK : Hid' (k = p - 1 ∧ 0 < p) := ⟨hks, by omega⟩
  obtain ⟨m, Hm⟩ : ∃ m, Hid' (m = if hi = 0 then p else p + 1) := ⟨_, rfl⟩
  have Hm' : m = if hi = 0 then p else p + 1 := Hm
  rw [← Hm']
  clear Hs hpk hlo hks Hp Hm'
  go_enter Yba.func35, Yba.ntmps35
  go_wp2_with (first
    | (go_at_call 38; refine (h38 _).mono ?_; rintro e w1 ⟨rfl, rfl⟩)
    | (go_at_call 25; refine (h25 _ _ hx (R0.cell k hkl) (R0.free k)).mono ?_; rintro e w2 ⟨rfl, hw2⟩; have R2 := R0.set k lo hkl; rw [← hw2] at R2; have B2 := B0.setCell (p := ⟨w.heap.size, k, Option.none⟩) (Nat.le_refl _) (.int .u64 (lo : Int)); rw [← hw2] at B2; clear hw2; have c2 := R2.cell p hpl; have f2 := R2.free p; obtain ⟨w4, hrun4, R4, hB4⟩ := clear_run (R2.set p hi hpl) hkm hfz (p + 1 + 4); have B4 := hB4 w _ (Nat.le_refl _) (B2.setCell (p := ⟨w.heap.size, p, Option.none⟩) (Nat.le_refl _) (.int .u64 (hi : Int))); clear hB4))
  have hn47 : Calls Yba.prog 47 #[.slice (some ⟨w.heap.size, 0, Option.none⟩) (p + 1) (p + 1 + 4)] w4 fun e w' => e = .returned (.slice (some ⟨w.heap.size, 0, Option.none⟩) (if hi = 0 then p else p + 1) (p + 1 + 4)) ∧ w' = w4 := by
    by_cases hh : hi = 0
    · rw [if_pos hh]
      refine norm47 w.heap.size (p + 1) p (p + 1 + 4) w4 (by omega) (by omega) (by omega) (fun j h1 h2 => ?_) (fun _ => ⟨lo, ?_, ?_⟩)
      · rw [R4.cell j (by omega), if_pos (by omega), hh]
        rfl
      · have e : k = p - 1 := HK.1
        rw [R4.cell (p - 1) (by omega), if_neg (by have := HK.2; omega), if_pos e.symm]
      · have := HL hh
        simp
        omega
    · rw [if_neg hh]
      refine norm47 w.heap.size (p + 1) (p + 1) (p + 1 + 4) w4 (Nat.le_refl _) (by omega) (by omega) (fun j h1 h2 => by omega) (fun _ => ⟨hi, ?_, ?_⟩)
      · rw [Nat.add_sub_cancel, R4.cell p (by omega), if_pos rfl]
      · simp
        omega
  have Hm' : m = if hi = 0 then p else p + 1 := Hm
  rw [← Hm'] at hn47
  clear Hm'
  refine hn47.mono ?_
  rintro e w9 ⟨rfl, rfl⟩
  go_wp2
  go_ret
  exact ⟨rfl, R4, B4⟩
theorem copy_at (w : World) (G m k g n c : Nat) (hG : w.heap[G]? = some (.cells (zrow m) 82 (0, 0))) (hk : k < m) (hx : w.cell? ⟨g, 0, Option.none⟩ = some (.int .u64 (n : Int))) : ∃ w', (Builtin.copy_ #[68, 68] 3 #[.slice (some ⟨G, k, Option.none⟩) 1 c, .slice (some ⟨g, 0, Option.none⟩) 1 1]).run Yba.prog w = .ok (.int .i64 1) w' ∧ RowZ w' G m (fun j => if j = k then n else 0) ∧ ∀ a B, B ≤ G → Below B a w → Below B a w' := by
  have hc := run_copy_row (P := Yba.prog) w 68 68 3 82 G k 1 c ⟨g, 0, Option.none⟩ 1 1 (zrow m) 82 [Value.int .u64 (n : Int)] Yba.underlying68 (by kernel_rfl) hG rfl (fun j v hj => by
    match j, hj with
    | 0, hj =>
      simp at hj
      subst hj
      simpa [Addr.add] using hx) (by simp [zrow]; omega) (by intro v hv; simp at hv; subst hv; rfl)
  refine ⟨_, hc, ?_, fun a B hB hb => hb.trans ⟨rfl, rfl, rfl, by simp [World.setRow], fun i hi => setRow_other _ _ _ _ (by omega)⟩⟩
  have hE := setRow_heap w G (zrow m) ((zrow m).toList.take k ++ [Value.int .u64 (n : Int)] ++ (zrow m).toList.drop (k + [Value.int .u64 (n : Int)].length)).toArray 82 (0, 0) hG
  refine ⟨fun j hj => ?_, fun j => ?_⟩
  · unfold World.cell?
    rw [hE]
    simp only [Option.isSome_none, Bool.false_eq_true, if_false]
    have hl : (List.take k (zrow m).toList).length = k := by simp [zrow]; omega
    rcases Nat.lt_trichotomy j k with h | h | h
    · rw [if_neg (by omega)]
      simp only [List.append_assoc, List.getElem?_toArray]
      rw [List.getElem?_append_left (by omega)]
      simp [zrow, List.getElem?_replicate]
      omega
    · subst h
      rw [if_pos rfl]
      simp only [List.append_assoc, List.getElem?_toArray]
      rw [List.getElem?_append_right (by omega), hl]
      simp
    · rw [if_neg (by omega)]
      simp only [List.append_assoc, List.getElem?_toArray]
      rw [List.getElem?_append_right (by omega), hl]
      obtain ⟨d, rfl⟩ : ∃ d, j = k + 1 + d := ⟨j - (k + 1), by omega⟩
      rw [show k + 1 + d - k = d + 1 by omega]
      simp only [List.singleton_append, List.getElem?_cons_succ]
      rw [List.getElem?_drop]
      simp [zrow, List.getElem?_replicate]
      omega
  · unfold World.frozen?
    rw [hE]
    simp
set_option maxRecDepth 100000 in
set_option maxHeartbeats 1000000 in
theorem lsh_d1 (g n k : Nat) (hk0 : 0 < k) (hk : k ≤ 40) (w : World) (hn0 : 0 < n) (hg : w.heap[g]? = some (.cells #[.int .u64 (n : Int)] 82 (0, 0))) :
    Calls Yba.prog 35 #[.slice Option.none 0 0, .slice (some ⟨g, 0, Option.none⟩) 1 1, .int .u64 ((64 * k : Nat) : Int)] w fun e w' => e = .returned (.slice (some ⟨w.heap.size, 0, Option.none⟩) (k + 1) (k + 1 + 1 + 4)) ∧ RowZ w' w.heap.size (k + 1 + 1 + 4) (fun j => if j = k + 1 then 0 else if j = k then n else 0) ∧ Below w.heap.size w w' := by
  obtain ⟨s, Hs⟩ : ∃ s, s = 64 * k := ⟨_, rfl⟩
  rw [← Hs]
  have e1 : ((s : Int) == 0) = false := by simp; omega
  have e2 : (s : Int) / 64 = (k : Int) := by omega
  have e3 : (s : Int) % 64 = 0 := by omega
  obtain ⟨p, Hp⟩ : ∃ p, Hid' (p = k + 1) := ⟨_, rfl⟩
  have hpk : p = k + 1 := Hp
  have e5 : 1 + (k : Int) = (p : Int) := by omega
  have e6 : (p : Int) - 1 = (k : Int) := by omega
  have e7 : (k : Int) ≤ (p : Int) := by omega
  have hk1 : k ≤ p := by omega
  have h38 : ∀ W, Calls Yba.prog 38 #[.slice Option.none 0 0, .int .i64 ((p : Int) + 1)] W _ := fun W => by
    have := make_more (p + 1) (by omega) (by omega) W
    rw [show ((p + 1 : Nat) : Int) = (p : Int) + 1 by simp] at this
    exact this
  have e8 : p - k = 1 := by omega
  have hpl : p < p + 1 + 4 := by omega
  have hkl : k < p + 1 + 4 := by omega
  have hkp : k ≠ p := by omega
  have hgl : g < w.heap.size := (Array.getElem?_eq_some_iff.1 hg).1
  have hx : (w.alloc (.cells (zrow (p + 1 + 4)) 82)).cell? ⟨g, 0, Option.none⟩ = some (.int .u64 (n : Int)) := by
    have : (w.alloc (.cells (zrow (p + 1 + 4)) 82)).heap[g]? = some (.cells #[.int .u64 (n : Int)] 82 (0, 0)) := (Below.heap_alloc _ _ _ hgl).trans hg
    simp [World.cell?, this]
  have B0 : Below w.heap.size w (w.alloc (.cells (zrow (p + 1 + 4)) 82)) := (Below.refl _ w).alloc (Nat.le_refl _) _
  obtain ⟨w2, hrun2, R2, hB2⟩ := copy_at (w.alloc (.cells (zrow (p + 1 + 4)) 82)) w.heap.size (p + 1 + 4) k g n (p + 1 + 4 - k) (heap_new w _) hkl hx
  have B2 := hB2 w _ (Nat.le_refl _) B0
  rw [← hpk]
  have hfz : ∀ j, j < k → (fun j => if j = p then 0 else if j = k then n else 0) j = 0 := fun j hj => by
    simp only []
    rw [if_neg (by omega), if_neg (by omega)]
  have hkm : k ≤ p + 1 + 4 := by omega
  have R3 : RowZ (w2.setCell ⟨w.heap.size, p, Option.none⟩ (.int .u64 0)) w.heap.size (p + 1 + 4) (fun j => if j = p then 0 else if j = k then n else 0) := R2.set p 0 hpl
  have c2 := R2.cell p hpl
  have f2 := R2.free p
  obtain ⟨w4, hrun4, R4, hB4⟩ := clear_run R3 hkm hfz (p + 1 + 4)
  have B4 := hB4 w _ (Nat.le_refl _) (B2.setCell (p := ⟨w.heap.size, p, Option.none⟩) (Nat.le_refl _) (.int .u64 0))
  have hn47 : Calls Yba.prog 47 #[.slice (some ⟨w.heap.size, 0, Option.none⟩) (p + 1) (p + 1 + 4)] w4 fun e w' => e = .returned (.slice (some ⟨w.heap.size, 0, Option.none⟩) p (p + 1 + 4)) ∧ w' = w4 := by
    refine norm47 w.heap.size (p + 1) p (p + 1 + 4) w4 (by omega) (by omega) (by omega) (fun j h1 h2 => ?_) (fun _ => ⟨n, ?_, ?_⟩)
    · rw [R4.cell j (by omega), if_pos (by omega)]
      rfl
    · rw [R4.cell (p - 1) (by omega), if_neg (by omega), if_pos (by omega)]
    · simp
      omega
  have hp1 : p ≤ 60 := by omega
  clear Hs hpk Hp hB4 hB2 B0 hx R3 R2
  rw [if_neg hkp.symm] at c2
  go_enter Yba.func35, Yba.ntmps35
  go_wp2_with (first
    | (go_at_call 38; refine (h38 _).mono ?_; rintro e w1 ⟨rfl, rfl⟩)
    | (go_at_call 47; refine hn47.mono ?_; rintro e w1 ⟨rfl, rfl⟩))
  go_ret
  exact ⟨rfl, R4, B4⟩
end Go.Proofs.Ybulkbwhy
