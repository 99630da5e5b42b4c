/-
  number, walked.
-/
import Derived.Test.YbulkbwdqNumMem
import Derived.Test.YbulkbwdqParAll
import Derived.Deep.RegionLaw
namespace Go.Proofs.Ybulkbwdq
open Go.RowKit
set_option linter.unusedVariables false

theorem row_base {w : World} {base base' e s n : Nat} {v : Value} {xs : List Value} (h : w.ownsRow base e s v n xs) (hb : base' ≤ base) : w.ownsRow base' e s v n xs := by
  refine ⟨h.1, ?_⟩
  rcases h.2 with h2 | ⟨g, cap, cur, h1, h2, h3⟩
  · exact .inl h2
  · exact .inr ⟨g, cap, cur, h1, Nat.le_trans hb h2, h3⟩
theorem below_grown {w w' : World} (h : Below w.heap.size w w') : w.grownBy w' none := ⟨h.os, h.tape, h.output, h.size, fun k hk _ => h.block k hk⟩

set_option maxRecDepth 100000 in
set_option maxHeartbeats 4000000 in
theorem num_any (base tg q nr m gV cV : Nat) (aR : Option Addr) (rl rc : Nat) (vals : List Int) (w : World) (T U : Array Value) (hT : Blk w tg T 36) (hT20 : T[20]? = some (.slice aR rl rc)) (hU : Blk w q U 32) (hU1 : U[1]? = some (.int .i64 (nr : Int)))
    (hR : w.ownsRow base 21 1 (.slice aR 0 rc) 0 []) (hV : w.ownsRow base 21 1 (.slice (some ⟨gV, 0, none⟩) m cV) m (vals.map (Value.int .i32))) (hne : (Value.slice aR 0 rc).ownBlock ≠ some gV) (hm : vals.length = m) (hm1 : m ≤ 1024) (hnr : nr ≤ 255) (hv : ∀ x ∈ vals, x = -1 ∨ Valid nr x) (hrl : rl ≤ rc) (hb : base ≤ w.heap.size) :
    Calls Yba.prog 6 #[.pointer (some ⟨tg, 0, none⟩), .pointer (some ⟨q, 0, none⟩), .slice (some ⟨gV, 0, none⟩) m cV] w fun e w' => ∃ (aO : Option Addr) (cO : Nat) (ops : List (Int × Int)), e = .returned (.tuple #[.int .i64 ((srcs vals m).length : Int), .slice aO ops.length cO]) ∧
      w'.ownsRow base 21 1 (.slice (some ⟨gV, 0, none⟩) m cV) m (((List.range m).map (outAt vals)).map (Value.int .i32)) ∧ w'.ownsRow base 42 2 (.slice aO ops.length cO) ops.length (flat ops) ∧
      Fina (srcs vals m).length (max nr (srcs vals m).length) (srcs vals m).length (srcs vals m) ops ∧ (∀ x ∈ srcs vals m, Valid nr x) ∧ (srcs vals m).length ≤ nr + 1 ∧ Turned w w' (fun k => k = tg ∨ k = gV ∨ (Value.slice aR 0 rc).ownBlock = some k) := by
  have HV : Hid (vals.length = m ∧ ∀ x ∈ vals, x = -1 ∨ Valid nr x) := ⟨hm, hv⟩
  clear hm hv
  have c1 : w.cell? ⟨tg, 20, none⟩ = some (.slice aR rl rc) := by rw [hT.cell]; exact hT20
  have c2 : w.cell? ⟨q, 1, none⟩ = some (.int .i64 (nr : Int)) := by rw [hU.cell]; exact hU1
  obtain ⟨i21, hi21, z210, z211, z212⟩ := info_parts Yba.info21
  go_enter Yba.func6, Yba.ntmps6
  go_wp2_with fail
  have hsl : ∀ W : World, (Instr.slice 23 (.slice aR rl rc) none (some (.int .i64 0)) none).run Yba.prog W = .ok (.slice aR 0 rc) W := by
    intro W
    rcases hR.2 with ⟨h', _⟩ | ⟨g', cap', cur, h', _⟩
    · cases h'
      obtain rfl : rl = 0 := by omega
      kernel_rfl
    · cases h'
      simp [Instr.slice, Instr.sliceBounds, Instr.sliceBound, run_underlying Yba.underlying23, asIntOf, Result.andThen]
      intro _
      simp [Addr.add]
  have hwr : IntKind.i64.wrap ((nr : Int) + 1) = ((nr + 1 : Nat) : Int) := by unfold IntKind.wrap; simp [IntKind.signed, IntKind.bits]; omega
  have HW : Hid (IntKind.i64.wrap ((nr : Int) + 1) = ((nr + 1 : Nat) : Int)) := hwr
  clear hwr
  have hgd : w.grownBy w.drew none := ⟨rfl, rfl, rfl, Nat.le_refl _, fun _ _ _ => rfl⟩
  have hRd : w.drew.ownsRow base 21 1 (.slice aR 0 rc) 0 [] := hR.kept hgd (by cases (Value.slice aR 0 rc).ownBlock <;> simp)
  go_region_law (refine step_zeros rfl _ _ rfl base (.slice aR 0 rc) rfl hRd (nr + 1) (show Value.int .i64 (IntKind.i64.wrap ((nr : Int) + 1)) = _ by rw [HW.out]) (by omega) (by omega) hb ?_; intro g3 c3 w3 ho3 hg3 hor3; have hT3 := (show Blk w.drew tg T 36 from hT).grown hg3 (row_blk hRd (show Blk w.drew tg T 36 from hT) (by decide)); have q3c := (hT3.cell 20).trans hT20; have q3f := hT3.free 20)
  all_goals
    obtain ⟨N0, t0⟩ := nm_start (w := w.drew) (show Blk w.drew tg T 36 from hT) (by have := (Array.getElem?_eq_some_iff.1 hT20).1; exact this) (show Blk w.drew q U 32 from hU) hU1 hRd (hV.kept hgd (.inr (by simp [Value.ownBlock]))) hne ho3 hg3 hor3
    have t1 : Turned w (w3.setCell ⟨tg, 20, none⟩ (.slice (some ⟨g3, 0, none⟩) (nr + 1) c3)) (fun k => k = tg ∨ k = gV ∨ (Value.slice aR 0 rc).ownBlock = some k) := ⟨t0.os, t0.tape, t0.output, t0.size, t0.block⟩
    have hS3 : (g3 = tg ∨ g3 = gV ∨ (Value.slice aR 0 rc).ownBlock = some g3) ∨ w.heap.size ≤ g3 := by
      rcases hor3 with h | h
      · exact .inl (.inr (.inr h))
      · exact .inr (Nat.le_of_eq h.symm)
    have HS3 : Hid ((g3 = tg ∨ g3 = gV ∨ (Value.slice aR 0 rc).ownBlock = some g3) ∨ w.heap.size ≤ g3) := hS3
    clear hS3
    clear t0 q3c q3f hT3 ho3 hg3 hor3 hsl hRd hgd c1 c2
    have hw23 : IntKind.i64.wrap ((nr : Int) + 1) = (nr : Int) + 1 := by rw [HW.out]; simp
    rw [hw23]
    clear hw23
    rw [← fill_none] at N0
    generalize w3.setCell ⟨tg, 20, none⟩ (.slice (some ⟨g3, 0, none⟩) (nr + 1) c3) = w4 at N0 t1 ⊢
    have q1 := N0.ct
    go_wp2
    go_loopw [32] (fun i wr => ∃ k : Nat, k ≤ nr + 1 ∧ i = .int .i64 k ∧ NM base wr tg q nr g3 c3 (.slice none 0 0) m gV cV (fill (nr + 1) k) [] vals ∧ Turned w wr (fun k => k = tg ∨ k = gV ∨ (Value.slice aR 0 rc).ownBlock = some k)) (fun i _ => nr + 1 - (intOf i).toNat)
    case atStart => exact ⟨0, Nat.zero_le _, rfl, N0, t1⟩
    case round =>
      obtain ⟨k, hk, rfl, N, ht⟩ := hrel
      clear N0 t1 q1
      have q1 := N.ct
      by_cases hlt : k < nr + 1
      · obtain ⟨p1, p2⟩ := N.atN k hlt (fill_len _ _ hk)
        have N2 := N.setN k (-1)
        rw [fill_set (nr + 1) k hlt] at N2
        have t2 := ht.grown (grown_set wr ⟨g3, k, none⟩ (.int .i32 (-1))) (fun j hj => by cases hj; exact HS3.out)
        generalize (fill (nr + 1) k).getD k 0 = u at p1
        go_wp2
        go_roundw
        case rel => exact ⟨k + 1, by omega, by go_num, N2, t2⟩
        case measure => simp [intOf]; omega
      · obtain rfl : k = nr + 1 := by omega
        rw [fill_all] at N
        have I0 := Num.start nr
        have hc31 : ((nr + 1 : Nat) : Int) = (nr : Int) + 1 := by simp
        rw [hc31]
        clear hc31
        go_wp2
        go_loopw [9, 44] (fun vS i wr => ∃ (k : Nat) (rn : List Int) (aS : Option Addr) (cS : Nat), k ≤ m ∧ i = .int .i64 k ∧ vS = .slice aS (srcs vals k).length cS ∧ Hid (Num nr rn (srcs vals k)) ∧ NM base wr tg q nr g3 c3 (.slice aS (srcs vals k).length cS) m gV cV rn (srcs vals k) (curAt vals k) ∧ (∀ j, (Value.slice aS (srcs vals k).length cS).ownBlock = some j → w.heap.size ≤ j) ∧ Turned w wr (fun k => k = tg ∨ k = gV ∨ (Value.slice aR 0 rc).ownBlock = some k)) (fun _ i _ => m - (intOf i).toNat)
        case atStart => exact ⟨0, _, none, 0, Nat.zero_le _, rfl, rfl, I0, N, (fun j hj => by cases hj), ht⟩
        case round =>
          obtain ⟨k, rn, aS, cS, hk, rfl, rfl, HN, N, hnew, ht⟩ := hrel
          clear I0
          have hle := HN.out.le
          have q1 := N.ct
          have q2 := N.cq
          by_cases hlt : k < m
          · have hkv : k < vals.length := by rw [HV.out.1]; exact hlt
            obtain ⟨p1, p2⟩ := N.atV k hlt ((curAt_len vals k (by omega)).trans HV.out.1)
            rw [curAt_at] at p1
            have hval := HV.out.2 (vals.getD k 0) (by simp [List.getD, hkv])
            obtain ⟨v, HE⟩ : ∃ v, Hid (vals.getD k 0 = v) := ⟨_, rfl⟩
            rw [HE.out] at p1 hval
            by_cases h1 : v = -1
            · subst h1
              obtain ⟨e1, e2⟩ := curAt_none vals k hkv HE.out
              have HE2 : Hid (curAt vals (k + 1) = curAt vals k ∧ srcs vals (k + 1) = srcs vals k) := ⟨e1, e2⟩
              clear e1 e2
              go_wp2
              go_roundw
              case rel =>
                refine ⟨k + 1, rn, aS, cS, by omega, by go_num, by rw [HE2.out.2], ?_, ?_, ?_, ht⟩
                · rw [HE2.out.2]; exact HN
                · rw [HE2.out.2, HE2.out.1]; exact N
                · rw [HE2.out.2]; exact hnew
              case measure => simp [intOf]; omega
            · have hvd : Valid nr v := by
                rcases hval with h | h
                · exact absurd h h1
                · exact h
              have hkx := HN.out.at_ v hvd
              by_cases h2 : v = -2
              · subst h2
                have hkk : keyOf_ nr (-2) = (nr : Int) := by simp [keyOf_]
                rw [hkk, at_nat] at hkx
                obtain ⟨x, HX⟩ : ∃ x, Hid (x = rn.getD nr 0) := ⟨_, rfl⟩
                rw [← HX.out] at hkx
                by_cases hin : (-2 : Int) ∈ srcs vals k
                · rw [if_pos hin] at hkx
                  have hxv := hkx
                  clear hkx
                  obtain ⟨q3, q3f⟩ := N.atN nr (by omega) HN.out.len
                  rw [← HX.out] at q3
                  obtain ⟨e1, e2⟩ := out_old vals k hkv (-2) HE.out (by omega) hin
                  have N2 := N.setV k x
                  have HC : Hid ((curAt vals k).set k x = curAt vals (k + 1) ∧ srcs vals (k + 1) = srcs vals k) := ⟨by rw [← curAt_set vals k hkv, e1, hxv], e2⟩
                  have t2 := ht.grown (grown_set wr ⟨gV, k, none⟩ (.int .i32 x)) (fun j hj => by cases hj; exact .inl (.inr (.inl rfl)))
                  have hx0 : ¬ x < 0 := by rw [hxv]; omega
                  clear e1 e2 hxv
                  go_wp2
                  go_roundw
                  case rel =>
                    refine ⟨k + 1, rn, aS, cS, by omega, by go_num, by rw [HC.out.2], ?_, ?_, ?_, t2⟩
                    · rw [HC.out.2]; exact HN
                    · rw [HC.out.2, ← HC.out.1]; exact N2
                    · rw [HC.out.2]; exact hnew
                  case measure => simp [intOf]; omega
                · rw [if_neg hin] at hkx
                  have hxv := hkx
                  clear hkx
                  have hnp := HN.out.push hvd hin
                  rw [hkk, Int.toNat_natCast] at hnp
                  obtain ⟨q3, q3f⟩ := N.atN nr (by omega) HN.out.len
                  rw [← HX.out] at q3
                  obtain ⟨e1, e2⟩ := out_new vals k hkv (-2) HE.out (by omega) hin
                  subst hxv
                  have N2 := N.setN nr ((srcs vals k).length : Int)
                  have t2 := ht.grown (grown_set wr ⟨g3, nr, none⟩ (.int .i32 ((srcs vals k).length : Int))) (fun j hj => by cases hj; exact HS3.out)
                  have HNP : Hid (Num nr (rn.set nr ((srcs vals k).length : Int)) (srcs vals k ++ [-2])) := hnp
                  have HC : Hid (outAt vals k = ((srcs vals k).length : Int) ∧ srcs vals (k + 1) = srcs vals k ++ [-2]) := ⟨e1, e2⟩
                  have hln : (rn.set nr ((srcs vals k).length : Int)).length = nr + 1 := by simp [HN.out.len]
                  clear e1 e2 hnp
                  have q4 := N2.ct
                  go_wp2_with (first
                    | (at_builtin; go_loud (refine wpList_append_lies _ rfl _ _ 23 rfl base 21 i21 _ 1 4 Yba.underlying23 hi21 z210 z211 z212 rfl (by omega) _ (srcs vals k).length _ rfl (N2.rS.alloc _) ⟨wr.heap.size, 0, none⟩ 1 1 [.int .i32 (-2)] rfl rfl (by intro j u hu; have := cell_one_new (wr.setCell ⟨g3, nr, none⟩ (.int .i32 ((srcs vals k).length : Int))) (Value.int .i32 (-2)) 21 j u hu; simpa using this) (by intro u hu; simp at hu; subst hu; rfl) (by omega) (by unfold maxLen; omega) (by omega) (by have := t2.size; simp at this ⊢; omega) (wr.heap.size + 1) (by simp) ?_; intro g6 c6 w6 ho6 hg6 hor6 hgl6)
                       have N6 := (N2.alloc (.cells #[.int .i32 (-2)] 21)).addS (-2) ho6 hg6 hor6 (by simp)
                       have t6 := (t2.grown (World.grownBy_alloc (wr.setCell ⟨g3, nr, none⟩ (.int .i32 ((srcs vals k).length : Int))) (.cells #[.int .i32 (-2)] 21) none) (fun j hj => by cases hj)).grown hg6 (fun j hj => .inr (hnew j hj))
                       have hnew6 : ∀ j, (Value.slice (some ⟨g6, 0, none⟩) ((srcs vals k).length + 1) c6).ownBlock = some j → w.heap.size ≤ j := fun j hj => by
                         have e : g6 = j := Option.some.inj hj
                         rcases hor6 with h | h
                         · exact hnew j (h.trans (by rw [e]))
                         · have := ht.size; omega
                       clear ho6 hg6 hor6 hgl6
                       have q5 := N6.ct; obtain ⟨q6, q6f⟩ := N6.atN nr (by omega) hln; rw [show (rn.set nr ((srcs vals k).length : Int)).getD nr 0 = ((srcs vals k).length : Int) by simp [List.getD, HN.out.len, show nr < nr + 1 by omega]] at q6; obtain ⟨q7, q7f⟩ := N6.atV k hlt ((curAt_len vals k (by omega)).trans HV.out.1)
                       generalize (curAt vals k).getD k 0 = u at q7))
                  have N7 := N6.setV k ((srcs vals k).length : Int)
                  have t7 := t6.grown (grown_set w6 ⟨gV, k, none⟩ (.int .i32 ((srcs vals k).length : Int))) (fun j hj => by cases hj; exact .inl (.inr (.inl rfl)))
                  go_roundw
                  case rel =>
                    refine ⟨k + 1, rn.set nr ((srcs vals k).length : Int), some ⟨g6, 0, none⟩, c6, by omega, by go_num, by rw [HC.out.2]; simp, ?_, ?_, ?_, t7⟩
                    · rw [HC.out.2]; exact HNP
                    · rw [HC.out.2, ← curAt_set vals k hkv, HC.out.1]
                      simpa using N7
                    · rw [HC.out.2]
                      simpa using hnew6
                  case measure => simp [intOf]; omega
              · have hv0 : 0 ≤ v ∧ v < nr := by
                  rcases hvd with h | h
                  · exact absurd h h2
                  · exact h
                obtain ⟨vn, rfl⟩ : ∃ vn : Nat, v = vn := ⟨v.toNat, by omega⟩
                have hkk : keyOf_ nr (vn : Int) = (vn : Int) := by unfold keyOf_; rw [if_neg (by omega)]
                rw [hkk, at_nat] at hkx
                obtain ⟨x, HX⟩ : ∃ x, Hid (x = rn.getD vn 0) := ⟨_, rfl⟩
                rw [← HX.out] at hkx
                by_cases hin : (vn : Int) ∈ srcs vals k
                · rw [if_pos hin] at hkx
                  have hxv := hkx
                  clear hkx
                  obtain ⟨q3, q3f⟩ := N.atN vn (by omega) HN.out.len
                  rw [← HX.out] at q3
                  obtain ⟨e1, e2⟩ := out_old vals k hkv ((vn : Int)) HE.out (by omega) hin
                  have N2 := N.setV k x
                  have HC : Hid ((curAt vals k).set k x = curAt vals (k + 1) ∧ srcs vals (k + 1) = srcs vals k) := ⟨by rw [← curAt_set vals k hkv, e1, hxv], e2⟩
                  have t2 := ht.grown (grown_set wr ⟨gV, k, none⟩ (.int .i32 x)) (fun j hj => by cases hj; exact .inl (.inr (.inl rfl)))
                  have hx0 : ¬ x < 0 := by rw [hxv]; omega
                  clear e1 e2 hxv
                  go_wp2
                  go_roundw
                  case rel =>
                    refine ⟨k + 1, rn, aS, cS, by omega, by go_num, by rw [HC.out.2], ?_, ?_, ?_, t2⟩
                    · rw [HC.out.2]; exact HN
                    · rw [HC.out.2, ← HC.out.1]; exact N2
                    · rw [HC.out.2]; exact hnew
                  case measure => simp [intOf]; omega
                · rw [if_neg hin] at hkx
                  have hxv := hkx
                  clear hkx
                  have hnp := HN.out.push hvd hin
                  rw [hkk, Int.toNat_natCast] at hnp
                  obtain ⟨q3, q3f⟩ := N.atN vn (by omega) HN.out.len
                  rw [← HX.out] at q3
                  obtain ⟨e1, e2⟩ := out_new vals k hkv ((vn : Int)) HE.out (by omega) hin
                  subst hxv
                  have N2 := N.setN vn ((srcs vals k).length : Int)
                  have t2 := ht.grown (grown_set wr ⟨g3, vn, none⟩ (.int .i32 ((srcs vals k).length : Int))) (fun j hj => by cases hj; exact HS3.out)
                  have HNP : Hid (Num nr (rn.set vn ((srcs vals k).length : Int)) (srcs vals k ++ [(vn : Int)])) := hnp
                  have HC : Hid (outAt vals k = ((srcs vals k).length : Int) ∧ srcs vals (k + 1) = srcs vals k ++ [(vn : Int)]) := ⟨e1, e2⟩
                  have hln : (rn.set vn ((srcs vals k).length : Int)).length = nr + 1 := by simp [HN.out.len]
                  clear e1 e2 hnp
                  have q4 := N2.ct
                  go_wp2_with (first
                    | (at_builtin; go_loud (refine wpList_append_lies _ rfl _ _ 23 rfl base 21 i21 _ 1 4 Yba.underlying23 hi21 z210 z211 z212 rfl (by omega) _ (srcs vals k).length _ rfl (N2.rS.alloc _) ⟨wr.heap.size, 0, none⟩ 1 1 [.int .i32 ((vn : Int))] rfl rfl (by intro j u hu; have := cell_one_new (wr.setCell ⟨g3, vn, none⟩ (.int .i32 ((srcs vals k).length : Int))) (Value.int .i32 ((vn : Int))) 21 j u hu; simpa using this) (by intro u hu; simp at hu; subst hu; rfl) (by omega) (by unfold maxLen; omega) (by omega) (by have := t2.size; simp at this ⊢; omega) (wr.heap.size + 1) (by simp) ?_; intro g6 c6 w6 ho6 hg6 hor6 hgl6)
                       have N6 := (N2.alloc (.cells #[.int .i32 ((vn : Int))] 21)).addS ((vn : Int)) ho6 hg6 hor6 (by simp)
                       have t6 := (t2.grown (World.grownBy_alloc (wr.setCell ⟨g3, vn, none⟩ (.int .i32 ((srcs vals k).length : Int))) (.cells #[.int .i32 ((vn : Int))] 21) none) (fun j hj => by cases hj)).grown hg6 (fun j hj => .inr (hnew j hj))
                       have hnew6 : ∀ j, (Value.slice (some ⟨g6, 0, none⟩) ((srcs vals k).length + 1) c6).ownBlock = some j → w.heap.size ≤ j := fun j hj => by
                         have e : g6 = j := Option.some.inj hj
                         rcases hor6 with h | h
                         · exact hnew j (h.trans (by rw [e]))
                         · have := ht.size; omega
                       clear ho6 hg6 hor6 hgl6
                       have q5 := N6.ct; obtain ⟨q6, q6f⟩ := N6.atN vn (by omega) hln; rw [show (rn.set vn ((srcs vals k).length : Int)).getD vn 0 = ((srcs vals k).length : Int) by simp [List.getD, HN.out.len, show vn < nr + 1 by omega]] at q6; obtain ⟨q7, q7f⟩ := N6.atV k hlt ((curAt_len vals k (by omega)).trans HV.out.1)
                       generalize (curAt vals k).getD k 0 = u at q7))
                  have N7 := N6.setV k ((srcs vals k).length : Int)
                  have t7 := t6.grown (grown_set w6 ⟨gV, k, none⟩ (.int .i32 ((srcs vals k).length : Int))) (fun j hj => by cases hj; exact .inl (.inr (.inl rfl)))
                  go_roundw
                  case rel =>
                    refine ⟨k + 1, rn.set vn ((srcs vals k).length : Int), some ⟨g6, 0, none⟩, c6, by omega, by go_num, by rw [HC.out.2]; simp, ?_, ?_, ?_, t7⟩
                    · rw [HC.out.2]; exact HNP
                    · rw [HC.out.2, ← curAt_set vals k hkv, HC.out.1]
                      simpa using N7
                    · rw [HC.out.2]
                      simpa using hnew6
                  case measure => simp [intOf]; omega
          · obtain rfl : k = m := by omega
            have cP : ∀ temp : Nat, nr ≤ temp → (srcs vals k).length ≤ temp → temp ≤ 300 → Calls Yba.prog 9 #[.slice aS (srcs vals k).length cS, .int .i32 (temp : Int)] wr _ := fun temp h1 h2 h3 => par_all base aS cS temp nr (srcs vals k) wr N.rS h2 h1 (by omega) HN.out.val
            have hcur : curAt vals k = (List.range k).map (outAt vals) := by unfold curAt; rw [List.drop_of_length_le (by rw [HV.out.1]; exact Nat.le_refl _)]; simp
            have rV := N.rV
            rw [hcur] at rV
            have HF : Hid (∀ x ∈ srcs vals k, Valid nr x) := HN.out.val
            have hsz := ht.size
            clear hcur
            go_wp2_with fail
            all_goals
              refine (cP _ (by omega) (by omega) (by omega)).mono ?_
              rintro e w9 ⟨aO, cO, ops, rfl, hF, hO, hbl⟩
              have rV9 := rV.kept (below_grown hbl) (.inr (by simp [Value.ownBlock]))
              have t9 := ht.grown (below_grown hbl) (fun j hj => by cases hj)
              have hO9 := row_base hO (show base ≤ wr.heap.size by omega)
              go_wp2
              go_ret2
              refine ⟨aO, cO, ops, rfl, rV9, hO9, ?_, HF.out, hle, t9⟩
              first
                | (rw [show max nr (srcs vals k).length = (srcs vals k).length by omega]; exact hF)
                | (rw [show max nr (srcs vals k).length = nr by omega]; exact hF)
end Go.Proofs.Ybulkbwdq
