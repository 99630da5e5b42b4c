/-
  zzs3638ccmp, walked.
-/
import Derived.Test.YbulkbwhyMk2
namespace Go.Proofs.Ybulkbwhy
open Go.RowKit
set_option linter.unusedVariables false

/-- Three ways without numbers. -/
def ccls (c1 c2 : Int) : Int × Bool := if c1 = 2 ∨ c2 = 2 then (0, false) else if c1 = c2 then (0, true) else (if c1 < c2 then -1 else 1, true)
set_option maxRecDepth 100000 in
set_option maxHeartbeats 1000000 in
theorem ccmp_cls (c1 c2 e1 e2 : Int) (p1 p2 : Option Addr) (h1 : -1 ≤ c1 ∧ c1 ≤ 2) (h2 : -1 ≤ c2 ∧ c2 ≤ 2) (hz : ¬ (c1 = 0 ∧ c2 = 0)) (w : World) : Calls Yba.prog 9 #[valV c1 p1 e1, valV c2 p2 e2] w fun e w' => e = .returned (.tuple #[.int .i64 (ccls c1 c2).1, .bool (ccls c1 c2).2]) ∧ Below w.heap.size w w' := by
  have b0 := two_new w
  unfold ccls valV
  by_cases ha : c1 = 2
  · subst ha
    rw [if_pos (.inl rfl)]
    clear h1 h2 hz
    go_enter Yba.func9, Yba.ntmps9
    go_wp2
    go_ret2
    exact ⟨rfl, b0 _ _⟩
  · have ha' : (c1 == 2) = false := by simp; omega
    by_cases hb : c2 = 2
    · subst hb
      rw [if_pos (.inr rfl)]
      clear h1 h2 hz
      go_enter Yba.func9, Yba.ntmps9
      go_wp2
      go_ret2
      exact ⟨rfl, b0 _ _⟩
    · have hb' : (c2 == 2) = false := by simp; omega
      rw [if_neg (by omega)]
      by_cases hc : c1 = c2
      · subst hc
        rw [if_pos rfl]
        have hn : (c1 != 0) = true := by simp; omega
        clear h1 h2 hz ha hb
        go_enter Yba.func9, Yba.ntmps9
        go_wp2
        go_ret2
        exact ⟨rfl, b0 _ _⟩
      · rw [if_neg hc]
        have hc' : (c1 != c2) = true := by simp; omega
        clear h1 h2 hz ha hb hc
        by_cases hl : c1 < c2
        · rw [if_pos hl]
          go_enter Yba.func9, Yba.ntmps9
          go_wp2
          go_ret2
          exact ⟨rfl, b0 _ _⟩
        · rw [if_neg hl]
          go_enter Yba.func9, Yba.ntmps9
          go_wp2
          go_ret2
          exact ⟨rfl, b0 _ _⟩

theorem Only.low {w w' : World} {p B : Nat} (h : Only w w' p) (h1 : B ≤ p) (h2 : B ≤ w.heap.size) : Below B w w' := h B h1 h2
set_option maxRecDepth 100000 in
set_option maxHeartbeats 2000000 in
theorem ccmp_num (e1 e2 T1 T2 : Int) (q1 q2 : Nat) (s1 s2 : Nat) (hs : (e2 < e1 ∧ e1 = e2 + s1 ∧ s2 = 0) ∨ (e1 ≤ e2 ∧ e2 = e1 + s2 ∧ s1 = 0)) (hl : s1 ≤ 2200 ∧ s2 ≤ 2200) (he1 : -2000 ≤ e1 ∧ e1 ≤ 2000) (he2 : -2000 ≤ e2 ∧ e2 ≤ 2000) (w : World) (I1 : IntW w q1 T1) (I2 : IntW w q2 T2) :
    Calls Yba.prog 9 #[valV 0 (some ⟨q1, 0, Option.none⟩) e1, valV 0 (some ⟨q2, 0, Option.none⟩) e2] w fun e w' => e = .returned (.tuple #[.int .i64 (cmpI (decide (T1 < 0)) (T1.natAbs * 2 ^ s1) (decide (T2 < 0)) (T2.natAbs * 2 ^ s2)), .bool true]) ∧ Below w.heap.size w w' := by
  have b0 := two_new w (.cells #[.int .i64 0, .pointer (some ⟨q1, 0, Option.none⟩), .int .i64 e1] 58) (.cells #[.int .i64 0, .pointer (some ⟨q2, 0, Option.none⟩), .int .i64 e2] 58)
  have hB1 := heap_new2 w (.cells #[.int .i64 0, .pointer (some ⟨q1, 0, Option.none⟩), .int .i64 e1] 58) (.cells #[.int .i64 0, .pointer (some ⟨q2, 0, Option.none⟩), .int .i64 e2] 58)
  have b1 := b0.alloc (by simp; omega) (.cells #[.bool false, .slice Option.none 0 0] 70)
  have H1 := heap_new ((w.alloc (.cells #[.int .i64 0, .pointer (some ⟨q1, 0, Option.none⟩), .int .i64 e1] 58)).alloc (.cells #[.int .i64 0, .pointer (some ⟨q2, 0, Option.none⟩), .int .i64 e2] 58)) (.cells #[.bool false, .slice Option.none 0 0] 70)
  have hB1' := (Below.heap_alloc ((w.alloc (.cells #[.int .i64 0, .pointer (some ⟨q1, 0, Option.none⟩), .int .i64 e1] 58)).alloc (.cells #[.int .i64 0, .pointer (some ⟨q2, 0, Option.none⟩), .int .i64 e2] 58)) (.cells #[.bool false, .slice Option.none 0 0] 70) (w.heap.size + 1) (by simp)).trans hB1
  simp only [World.size_alloc] at H1
  have cL1 := fun W hz hx hne => lsh21 (w.heap.size + 1 + 1) q1 T1 s1 W hz hx hne hl.1
  have cL2 := fun W p hz hx hne => lsh21 p q2 T2 s2 W hz hx hne hl.2
  have lt1 := I1.lt
  have lt2 := I2.lt
  have J1 := I1.keep b1
  unfold valV
  have tail1 : ∀ w3 ds1, IntD w3 (w.heap.size + 1 + 1) (decide (T1 < 0)) ds1 → Only ((((w.alloc (.cells #[.int .i64 0, .pointer (some ⟨q1, 0, Option.none⟩), .int .i64 e1] 58)).alloc (.cells #[.int .i64 0, .pointer (some ⟨q2, 0, Option.none⟩), .int .i64 e2] 58))).alloc (.cells #[.bool false, .slice Option.none 0 0] 70)) w3 (w.heap.size + 1 + 1) →
      (w3.heap[w.heap.size + 1]? = some (.cells #[.int .i64 0, .pointer (some ⟨q2, 0, Option.none⟩), .int .i64 e2] 58 (0, 0)) ∧ Below w.heap.size w w3 ∧ w.heap.size + 1 + 1 < w3.heap.size ∧ (w3.alloc (.cells #[.bool false, .slice Option.none 0 0] 70)).heap[w3.heap.size]? = some (.cells #[.bool false, .slice Option.none 0 0] 70 (0, 0)) ∧ IntW (w3.alloc (.cells #[.bool false, .slice Option.none 0 0] 70)) q2 T2) := by
    intro w3 ds1 D1 O1
    have o1 := O1.low (B := w.heap.size + 1 + 1) (Nat.le_refl _) (by simp)
    have o2 := O1.low (B := w.heap.size) (by omega) (by simp; omega)
    have bb := b1.trans o2
    have sz := o1.size
    simp at sz
    refine ⟨(o1.block _ (by omega)).trans hB1', bb, by omega, heap_new w3 _, I2.keep (bb.alloc (by have := bb.size; omega) _)⟩
  have tail2 : ∀ w3 w5 ds1 ds2, IntD w3 (w.heap.size + 1 + 1) (decide (T1 < 0)) ds1 → Below w.heap.size w w3 → w.heap.size + 1 + 1 < w3.heap.size → IntD w5 w3.heap.size (decide (T2 < 0)) ds2 → Only (w3.alloc (.cells #[.bool false, .slice Option.none 0 0] 70)) w5 w3.heap.size → IntD w5 (w.heap.size + 1 + 1) (decide (T1 < 0)) ds1 ∧ Below w.heap.size w w5 := by
    intro w3 w5 ds1 ds2 D1 bb hlt D2 O2
    have o := ((Below.refl w3.heap.size w3).alloc (Nat.le_refl _) (.cells #[.bool false, .slice Option.none 0 0] 70)).trans (O2.low (B := w3.heap.size) (Nat.le_refl _) (by simp))
    exact ⟨D1.on o, bb.trans (o.mono (by omega))⟩
  have n1 : w.heap.size + 1 + 1 ≠ q1 := by omega
  clear b0 b1 hB1 hB1' I1 I2
  generalize T1.natAbs * 2 ^ s1 = P1 at *
  generalize T2.natAbs * 2 ^ s2 = P2 at *
  generalize decide (T1 < 0) = sg1 at *
  generalize decide (T2 < 0) = sg2' at *
  rcases hs with ⟨h1, h2, h3⟩ | ⟨h1, h2, h3⟩
  · have a1 : e1 - e2 = (s1 : Int) := by omega
    have a2 : (s2 : Int) = 0 := by omega
    rw [a2] at cL2
    clear h2 h3
    go_enter Yba.func9, Yba.ntmps9
    go_wp2_with fail
    refine (cL1 _ H1 J1 n1).mono ?_
    rintro e w3 ⟨rfl, ds1, D1, V1, O1⟩
    obtain ⟨hB3, bb3, lt3, H3, J3⟩ := tail1 w3 ds1 D1 O1
    obtain ⟨⟨x0, x1, x2⟩, _⟩ := cells3 _ _ _ _ _ _ hB3
    have lt4 : w.heap.size + 1 < w3.heap.size := by omega
    have n2 : w3.heap.size ≠ q2 := by omega
    have n3 : (w.heap.size + 1 + 1 == w3.heap.size) = false := by simp; omega
    have HT1 : Hid' (IntD w3 (w.heap.size + 1 + 1) sg1 ds1 ∧ val ds1 = P1 ∧ Below w.heap.size w w3 ∧ w.heap.size + 1 + 1 < w3.heap.size) := ⟨D1, V1, bb3, lt3⟩
    clear D1 V1 O1 bb3 lt3 hB3
    go_wp2_with fail
    refine (cL2 _ _ H3 J3 n2).mono ?_
    rintro e w5 ⟨rfl, ds2, D2, V2, O2⟩
    obtain ⟨D1', bb5⟩ := tail2 w3 w5 ds1 ds2 HT1.1 HT1.2.2.1 HT1.2.2.2 D2 O2
    have HT2 : Hid' (IntD w5 (w.heap.size + 1 + 1) sg1 ds1 ∧ IntD w5 w3.heap.size sg2' ds2 ∧ val ds2 = P2 ∧ Below w.heap.size w w5) := ⟨D1', D2, V2, bb5⟩
    have HTV' : Hid' (val ds1 = P1) := HT1.2.1
    clear D1' D2 bb5 O2 HT1 x0 x1 x2 H3 J3 V2
    go_wp2_with fail
    refine (cmp22 _ _ _ _ ds1 ds2 _ HT2.1 HT2.2.1 n3).mono ?_
    rintro e w6 ⟨rfl, b6⟩
    have HR : Hid' (Below w.heap.size w w6) := HT2.2.2.2.trans (b6.mono HT2.2.2.2.size)
    clear b6
    rw [show val ds1 = P1 from HTV', show val ds2 = P2 from HT2.2.2.1]
    go_wp2
    go_ret2
    exact ⟨rfl, HR⟩
  · have a1 : e2 - e1 = (s2 : Int) := by omega
    have a2 : (s1 : Int) = 0 := by omega
    rw [a2] at cL1
    have h4 : ¬ e2 < e1 := by omega
    clear h2 h3
    go_enter Yba.func9, Yba.ntmps9
    go_wp2_with fail
    refine (cL1 _ H1 J1 n1).mono ?_
    rintro e w3 ⟨rfl, ds1, D1, V1, O1⟩
    obtain ⟨hB3, bb3, lt3, H3, J3⟩ := tail1 w3 ds1 D1 O1
    obtain ⟨⟨x0, x1, x2⟩, _⟩ := cells3 _ _ _ _ _ _ hB3
    have lt4 : w.heap.size + 1 < w3.heap.size := by omega
    have n2 : w3.heap.size ≠ q2 := by omega
    have n3 : (w.heap.size + 1 + 1 == w3.heap.size) = false := by simp; omega
    have HT1 : Hid' (IntD w3 (w.heap.size + 1 + 1) sg1 ds1 ∧ val ds1 = P1 ∧ Below w.heap.size w w3 ∧ w.heap.size + 1 + 1 < w3.heap.size) := ⟨D1, V1, bb3, lt3⟩
    clear D1 V1 O1 bb3 lt3 hB3
    go_wp2_with fail
    refine (cL2 _ _ H3 J3 n2).mono ?_
    rintro e w5 ⟨rfl, ds2, D2, V2, O2⟩
    obtain ⟨D1', bb5⟩ := tail2 w3 w5 ds1 ds2 HT1.1 HT1.2.2.1 HT1.2.2.2 D2 O2
    have HT2 : Hid' (IntD w5 (w.heap.size + 1 + 1) sg1 ds1 ∧ IntD w5 w3.heap.size sg2' ds2 ∧ val ds2 = P2 ∧ Below w.heap.size w w5) := ⟨D1', D2, V2, bb5⟩
    have HTV' : Hid' (val ds1 = P1) := HT1.2.1
    clear D1' D2 bb5 O2 HT1 x0 x1 x2 H3 J3 V2
    go_wp2_with fail
    refine (cmp22 _ _ _ _ ds1 ds2 _ HT2.1 HT2.2.1 n3).mono ?_
    rintro e w6 ⟨rfl, b6⟩
    have HR : Hid' (Below w.heap.size w w6) := HT2.2.2.2.trans (b6.mono HT2.2.2.2.size)
    clear b6
    rw [show val ds1 = P1 from HTV', show val ds2 = P2 from HT2.2.2.1]
    go_wp2
    go_ret2
    exact ⟨rfl, HR⟩
end Go.Proofs.Ybulkbwhy
