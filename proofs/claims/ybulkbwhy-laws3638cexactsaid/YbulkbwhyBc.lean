/-
  Int.Lsh, walked.
-/
import Derived.Test.YbulkbwhyBl
import Derived.Deep.RegionWith
namespace Go.Proofs.Ybulkbwhy
open Go.RowKit
set_option linter.unusedVariables false

theorem val_zeros (k : Nat) (l : List Nat) : val (List.replicate k 0 ++ l) = 2 ^ (64 * k) * val l := by
  induction k with
  | zero => simp
  | succ k ih =>
    rw [List.replicate_succ, List.cons_append]
    simp only [val]
    rw [ih, show 64 * (k + 1) = 64 * k + 64 by omega, Nat.pow_add, show (2 : Nat) ^ 64 = 18446744073709551616 by decide, Nat.zero_add, Nat.mul_comm (2 ^ (64 * k)) 18446744073709551616, Nat.mul_assoc]
theorem split_hi (n r : Nat) (hr : r < 64) : n * 2 ^ r = n * 2 ^ r % 18446744073709551616 + 18446744073709551616 * (n / 2 ^ (64 - r)) := by
  have e : n / 2 ^ (64 - r) = n * 2 ^ r / 18446744073709551616 := by
    rw [show (18446744073709551616 : Nat) = 2 ^ (64 - r) * 2 ^ r by rw [← Nat.pow_add, show 64 - r + r = 64 by omega], Nat.mul_div_mul_right _ _ (Nat.two_pow_pos _)]
  rw [e]
  exact (Nat.mod_add_div _ _).symm
theorem hi_lt (n r : Nat) (hn : n < 18446744073709551616) : n / 2 ^ (64 - r) < 18446744073709551616 := Nat.lt_of_le_of_lt (Nat.div_le_self _ _) hn
/-- The words at the head of a row. -/
theorem natD_row {w : World} {G m c : Nat} {f : Nat → Nat} (h : RowZ w G m f) (ds : List Nat) (hG : G < w.heap.size) (hm : ds.length ≤ m) (hl : ds.length ≤ 100) (hf : ∀ j, j < ds.length → ds.getD j 0 = f j) (hd : ∀ d ∈ ds, d < 18446744073709551616) (ht : ds ≠ [] → ds.getD (ds.length - 1) 0 ≠ 0) : NatD w (.slice (some ⟨G, 0, Option.none⟩) ds.length c) ds :=
  ⟨⟨_, _, rfl, fun _ => ⟨G, rfl, hG, fun j hj => by rw [h.cell j (by omega), hf j hj]⟩⟩, hl, hd, ht⟩
theorem RowZ.lt {w : World} {G m : Nat} {f : Nat → Nat} (h : RowZ w G m f) (hm : 0 < m) : G < w.heap.size := World.block_lt_of_cell? _ _ (h.cell 0 hm)
/-- nat.lsh on a nil slice. -/
theorem lsh35 (w : World) (v : Value) (n s : Nat) (hv : Nat1 w v n) (hs : s ≤ 2200) : Calls Yba.prog 35 #[.slice Option.none 0 0, v, .int .u64 (s : Int)] w fun e w' => ∃ v' ds, e = .returned v' ∧ NatD w' v' ds ∧ val ds = n * 2 ^ s ∧ Below w.heap.size w w' := by
  rcases hv with ⟨rfl, rfl⟩ | ⟨h0, h1, g, rfl, hg⟩
  · rcases Nat.eq_zero_or_pos s with rfl | hs0
    · refine (lsh_a w).mono ?_
      rintro e w' ⟨rfl, hb⟩
      exact ⟨_, [], rfl, NatD.nil w', by simp [val], hb⟩
    · refine (lsh_b s hs0 w).mono ?_
      rintro e w' ⟨rfl, hb⟩
      exact ⟨_, [], rfl, NatD.nil w', by simp [val], hb⟩
  · rcases Nat.eq_zero_or_pos s with rfl | hs0
    · refine (lsh_c g n w hg).mono ?_
      rintro e w' ⟨g', rfl, hE, hb⟩
      refine ⟨_, [n], rfl, ⟨⟨_, _, rfl, fun _ => ⟨g', rfl, (Array.getElem?_eq_some_iff.1 hE).1, fun j hj => ?_⟩⟩, by simp, by simpa using h1, fun _ => by simp; omega⟩, by simp [val], hb⟩
      obtain rfl : j = 0 := by simpa using hj
      simp [World.cell?, hE]
    · obtain ⟨k, r, hr, rfl⟩ : ∃ k r, r < 64 ∧ s = 64 * k + r := ⟨s / 64, s % 64, Nat.mod_lt _ (by decide), by omega⟩
      rcases Nat.eq_zero_or_pos r with rfl | hr0
      · refine (lsh_d1 g n k (by omega) (by omega) w h0 hg).mono ?_
        rintro e w' ⟨rfl, R, hb⟩
        have hlt := R.lt (by omega)
        have := natD_row (c := k + 1 + 1 + 4) R (List.replicate k 0 ++ [n]) hlt (by simp) (by simp; omega) (fun j hj => by
          simp at hj
          rw [if_neg (by omega)]
          by_cases e : j = k
          · subst e; simp [List.getD]
          · rw [if_neg e]
            simp [List.getD, List.getElem?_append_left (show j < (List.replicate k 0).length by simp; omega), show j < k by omega]) (by
          intro d hd
          rcases List.mem_append.1 hd with hd | hd
          · rw [List.eq_of_mem_replicate hd]; decide
          · simp at hd; subst hd; exact h1) (fun _ => by simp [List.getD]; omega)
        simp only [List.length_append, List.length_replicate, List.length_singleton] at this
        refine ⟨_, _, rfl, this, ?_, hb⟩
        rw [val_zeros]
        simp [val, Nat.mul_comm]
      · refine (lsh_d2 g n k r hr0 hr (by omega) w h0 h1 hg).mono ?_
        rintro e w' ⟨rfl, R, hb⟩
        have hlt := R.lt (by omega)
        have hsp := split_hi n r hr
        have hhi := hi_lt n r h1
        have hlo := lo_pos n r h0 hr
        have hlol : n * 2 ^ r % 18446744073709551616 < 18446744073709551616 := Nat.mod_lt _ (by decide)
        have hval : n * 2 ^ (64 * k + r) = 2 ^ (64 * k) * (n * 2 ^ r) := by rw [Nat.pow_add, Nat.mul_left_comm]
        rw [hval]
        clear hval
        generalize n * 2 ^ r % 18446744073709551616 = lo at *
        generalize n / 2 ^ (64 - r) = hi at *
        generalize n * 2 ^ r = N at *
        by_cases hh : hi = 0
        · rw [if_pos hh]
          have := natD_row (c := k + 1 + 1 + 4) R (List.replicate k 0 ++ [lo]) hlt (by simp) (by simp; omega) (fun j hj => by
            simp at hj
            rw [if_neg (by omega)]
            by_cases e : j = k
            · subst e; simp [List.getD]
            · rw [if_neg e]
              simp [List.getD, List.getElem?_append_left (show j < (List.replicate k 0).length by simp; omega), show j < k by omega]) (by
            intro d hd
            rcases List.mem_append.1 hd with hd | hd
            · rw [List.eq_of_mem_replicate hd]; decide
            · simp at hd; subst hd; exact hlol) (fun _ => by simp [List.getD]; exact hlo hh)
          simp only [List.length_append, List.length_replicate, List.length_singleton] at this
          refine ⟨_, _, rfl, this, ?_, hb⟩
          rw [val_zeros, hsp, hh]
          simp [val]
        · rw [if_neg hh]
          have := natD_row (c := k + 1 + 1 + 4) R (List.replicate k 0 ++ [lo, hi]) hlt (by simp) (by simp; omega) (fun j hj => by
            simp at hj
            by_cases e : j = k
            · subst e; simp [List.getD]
            · by_cases e' : j = k + 1
              · subst e'
                rw [if_pos rfl]
                simp [List.getD]
              · rw [if_neg e', if_neg e]
                simp [List.getD, List.getElem?_append_left (show j < (List.replicate k 0).length by simp; omega), show j < k by omega]) (by
            intro d hd
            rcases List.mem_append.1 hd with hd | hd
            · rw [List.eq_of_mem_replicate hd]; decide
            · simp at hd
              rcases hd with rfl | rfl
              · exact hlol
              · exact hhi) (fun _ => by simp [List.getD]; exact hh)
          simp only [List.length_append, List.length_replicate, List.length_cons, List.length_nil] at this
          refine ⟨_, _, rfl, this, ?_, hb⟩
          rw [val_zeros, hsp]
          simp [val]

/-- Block p is a big.Int of the words ds. -/
def IntD (w : World) (p : Nat) (neg : Bool) (ds : List Nat) : Prop := ∃ v, w.heap[p]? = some (.cells #[.bool neg, v] 70 (0, 0)) ∧ NatD w v ds
theorem NatD.on {w w' : World} {v : Value} {ds : List Nat} (h : NatD w v ds) (hb : Below w.heap.size w w') : NatD w' v ds := by
  obtain ⟨⟨a, c, rfl, h1⟩, h2, h3, h4⟩ := h
  refine ⟨⟨a, c, rfl, fun hne => ?_⟩, h2, h3, h4⟩
  obtain ⟨g, rfl, hg, hcell⟩ := h1 hne
  exact ⟨g, rfl, Nat.lt_of_lt_of_le hg hb.size, fun j hj => (hb.cell (p := ⟨g, j, Option.none⟩) hg).trans (hcell j hj)⟩
theorem IntD.on {w w' : World} {p : Nat} {neg : Bool} {ds : List Nat} (h : IntD w p neg ds) (hb : Below w.heap.size w w') : IntD w' p neg ds := by
  obtain ⟨v, h1, h2⟩ := h
  exact ⟨v, (hb.block p (Array.getElem?_eq_some_iff.1 h1).1).trans h1, h2.on hb⟩
theorem NatD.form {w : World} {v : Value} {ds : List Nat} (h : NatD w v ds) : ∃ a c, v = .slice a ds.length c := by
  obtain ⟨⟨a, c, e, _⟩, _⟩ := h
  exact ⟨a, c, e⟩
theorem fin21 {w w3 : World} {pz : Nat} {v : Value} {ds : List Nat} (hb : Below w.heap.size w w3) (hz : w3.heap[pz]? = some (.cells #[.bool false, .slice Option.none 0 0] 70 (0, 0))) (N : NatD w3 v ds) (sg : Bool) :
    IntD ((w3.setCell ⟨pz, 1, Option.none⟩ v).setCell ⟨pz, 0, Option.none⟩ (.bool sg)) pz sg ds ∧ Only w ((w3.setCell ⟨pz, 1, Option.none⟩ v).setCell ⟨pz, 0, Option.none⟩ (.bool sg)) pz := by
  refine ⟨⟨v, (heap_set2 _ pz _ _ (.bool sg) (.bool false) 70 (heap_set2 w3 pz _ _ (.bool false) v 70 hz).2).1, ?_⟩, fun B hB hBw => (((hb.mono hBw).setCell (p := ⟨pz, 1, Option.none⟩) hB v).setCell (p := ⟨pz, 0, Option.none⟩) hB _)⟩
  obtain ⟨⟨a, c, rfl, h1⟩, h2, h3, h4⟩ := N
  refine ⟨⟨a, c, rfl, fun hne => ?_⟩, h2, h3, h4⟩
  obtain ⟨g, rfl, hg, hcell⟩ := h1 hne
  have hgz : g ≠ pz := by
    intro e
    subst e
    have hl : 0 < ds.length := List.length_pos_iff.2 hne
    have := hcell 0 hl
    rw [(cells2 w3 g _ _ _ hz).1] at this
    cases this
  refine ⟨g, rfl, by simpa [World.setCell] using hg, fun j hj => ?_⟩
  rw [World.cell?_setCell_other, World.cell?_setCell_other]
  · exact hcell j hj
  · intro e; cases e; exact hgz rfl
  · intro e; cases e; exact hgz rfl
set_option maxRecDepth 100000 in
set_option maxHeartbeats 2000000 in
theorem lsh21 (pz px : Nat) (T : Int) (s : Nat) (w : World) (hz : w.heap[pz]? = some (.cells #[.bool false, .slice Option.none 0 0] 70 (0, 0))) (hx : IntW w px T) (hne : pz ≠ px) (hs : s ≤ 2200) :
    Calls Yba.prog 21 #[.pointer (some ⟨pz, 0, Option.none⟩), .pointer (some ⟨px, 0, Option.none⟩), .int .u64 (s : Int)] w fun e w' => e = .returned (.pointer (some ⟨pz, 0, Option.none⟩)) ∧ ∃ ds, IntD w' pz (decide (T < 0)) ds ∧ val ds = T.natAbs * 2 ^ s ∧ Only w w' pz := by
  obtain ⟨v, hp, hv⟩ := hx
  have cL : ∀ W, Below w.heap.size w W → Calls Yba.prog 35 #[.slice Option.none 0 0, v, .int .u64 (s : Int)] W _ := fun W hW => lsh35 W v T.natAbs s (hv.keep hW) hs
  obtain ⟨c0, c1, f0, f1⟩ := cells2 w pz _ _ _ hz
  obtain ⟨d0, d1, g0, g1⟩ := cells2 w px _ _ _ hp
  have hzl : pz < w.heap.size := (Array.getElem?_eq_some_iff.1 hz).1
  have hpl : px < w.heap.size := (Array.getElem?_eq_some_iff.1 hp).1
  obtain ⟨a, l, c, rfl⟩ : ∃ a l c, v = .slice a l c := by
    rcases hv with ⟨_, rfl⟩ | ⟨_, _, g, rfl, _⟩
    · exact ⟨_, _, _, rfl⟩
    · exact ⟨_, _, _, rfl⟩
  obtain ⟨sg, HS⟩ : ∃ sg, Hid' (decide (T < 0) = sg) := ⟨_, rfl⟩
  have HS' : decide (T < 0) = sg := HS
  rw [HS'] at d0 ⊢
  clear HS'
  go_enter Yba.func21, Yba.ntmps21
  go_wp2
  go_region_with ((go_at_call 35; refine (cL _ ?_).mono ?_; exact (Below.refl _ w).drew; rintro e w3 ⟨v3, ds, rfl, N3, hval, b3⟩; obtain ⟨a3, c3, rfl⟩ := N3.form; have b3' : Below w.heap.size w w3 := (Below.refl _ w).drew.trans b3; have k1 := (b3'.cell (p := ⟨pz, 1, Option.none⟩) hzl).trans c1; have k1f := (b3'.frozen (p := ⟨pz, 1, Option.none⟩) hzl).trans f1; have k0 := (b3'.cell (p := ⟨pz, 0, Option.none⟩) hzl).trans c0; have k0f := (b3'.frozen (p := ⟨pz, 0, Option.none⟩) hzl).trans f0; have j0 := (b3'.cell (p := ⟨px, 0, Option.none⟩) hpl).trans d0))
  all_goals
    have HF : Hid' (IntD ((w3.setCell ⟨pz, 1, Option.none⟩ (.slice a3 ds.length c3)).setCell ⟨pz, 0, Option.none⟩ (.bool sg)) pz sg ds ∧ Only w ((w3.setCell ⟨pz, 1, Option.none⟩ (.slice a3 ds.length c3)).setCell ⟨pz, 0, Option.none⟩ (.bool sg)) pz) := fin21 b3' ((b3'.block pz hzl).trans hz) N3 sg
    have HV : Hid' (val ds = T.natAbs * 2 ^ s) := hval
    clear cL N3 b3 b3' hval hv
    go_wp2
    go_ret
    exact ⟨rfl, ds, HF.1, HV, HF.2⟩
end Go.Proofs.Ybulkbwhy
