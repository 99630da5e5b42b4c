/-
  The law, walked.
-/
import Derived.Test.YbulkbwdqRenMem
import Derived.Deep.DeepCutAuto
import Derived.Deep.Light
namespace Go.Proofs.Ybulkbwdq
open Go.RowKit
set_option linter.unusedVariables false

set_option maxRecDepth 100000 in
set_option maxHeartbeats 8000000 in
theorem ren_walk (nr m c1 m2 c2 : Nat) (a1 a2 : Option Addr) (raws : List Nat) (st : List Int) (w : World) (hnr : nr ≤ 255) (hm : m ≤ 1024) (hm2 : m2 ≤ 1024) (hl : raws.length = m) (hl2 : st.length = m2)
    (h1 : m = 0 ∨ ∃ x, a1 = some x ∧ x.block < w.heap.size ∧ ∀ j, j < m → w.cell? (x.add j) = some (.int .u16 ((raws.getD j 0 : Nat) : Int))) (hu : ∀ j, j < m → raws.getD j 0 < 65536)
    (h2 : (a2 = none ∧ m2 = 0 ∧ c2 = 0) ∨ ∃ x, a2 = some x ∧ (∀ j, j < m2 → x.block < w.heap.size ∧ w.cell? (x.add j) = some (.int .i32 (st.getD j 0)))) :
    Calls Yba.prog 3 #[.int .u8 nr, .slice a1 m c1, .slice a2 m2 c2] w fun e w' => e = .returned (.bool true) ∧ Below w.heap.size w w' := by
  obtain ⟨i21, hi21, z210, z211, z212⟩ := info_parts Yba.info21
  obtain ⟨i42, hi42, z420, z421, z422⟩ := info_parts Yba.info42
  obtain ⟨i3, hi3, z30, z31, z32⟩ := info_parts Yba.info3
  have HL : Hid (raws.length = m ∧ st.length = m2) := ⟨hl, hl2⟩
  clear hl hl2
  go_enter Yba.func3, Yba.ntmps3
  go_wp2_with (at_make; refine wpList_make_full _ rfl _ _ 23 rfl w.heap.size 21 i21 (.int .i32 0) 1 Yba.underlying23 hi21 z210 z211 _ _ _ _ m rfl rfl (by go_num) (by go_num) (by rw [z212]; omega) (by unfold maxLen; omega) (Nat.le_refl _) ?_; intro w1 hV0 hg1)
  rw [made_zero32, ← laid_none nr raws] at hV0
  have b1 : Below w.heap.size w w1 := (Below.refl _ w).grown hg1 (Nat.le_refl _) (fun j hj => by cases hj)
  clear hg1
  go_loopw [50] (fun i wr => ∃ k : Nat, k ≤ m ∧ i = .int .i64 k ∧ wr.ownsRow w.heap.size 21 1 (.slice (some ⟨w.heap.size, 0, none⟩) m m) m ((laid nr raws k m).map (Value.int .i32)) ∧ Below w.heap.size w wr) (fun i _ => m - (intOf i).toNat)
  case atStart => exact ⟨0, Nat.zero_le _, rfl, hV0, b1⟩
  case round =>
    obtain ⟨k, hk, rfl, hV, hb⟩ := hrel
    clear hV0 b1
    by_cases hlt : k < m
    · as_aux_lemma =>
        go_light
        obtain ⟨x, rfl, hxb, hxc⟩ := h1.resolve_left (by omega)
        have c1' := (hb.cell (p := x.add k) (by unfold Addr.add; split <;> exact hxb)).trans (hxc k hlt)
        have hxu := hu k hlt
        have hVs := (hV.stored k (.int .i32 (valOf nr (raws.getD k 0)))).1
        rw [← List.map_set, laid_set nr raws k m hlt (by rw [HL.out.1]; exact Nat.le_refl _)] at hVs
        have b2 := hb.setCell (p := ⟨w.heap.size, k, none⟩) (Nat.le_refl _) (.int .i32 (valOf nr (raws.getD k 0)))
        have q1 : (wr.cell? ⟨w.heap.size, k, none⟩) = some (.int .i32 ((laid nr raws k m).getD k 0)) := by
          rw [hV.cellAt k (by omega)]
          have := laid_len nr raws k m hk (by rw [HL.out.1]; exact Nat.le_refl _)
          simp [List.getD, show k < (laid nr raws k m).length by omega]
        have q2 := hV.frozenAt k
        generalize (laid nr raws k m).getD k 0 = u0 at q1
        obtain ⟨v, HV⟩ : ∃ v, Hid (v = valOf nr (raws.getD k 0)) := ⟨_, rfl⟩
        rw [← HV.out] at hVs b2
        generalize raws.getD k 0 = xn at *
        have hmd := Nat.mod_lt xn (show 0 < nr + 2 by omega)
        obtain ⟨r, Hr⟩ : ∃ r, Hid (xn % (nr + 2) = r) := ⟨_, rfl⟩
        rw [Hr.out] at hmd
        have hcast : (xn : Int) % ((nr : Int) + 2) = (r : Int) := by rw [← Hr.out]; simp
        have hv : v = if r = nr then -1 else if r = nr + 1 then -2 else (r : Int) := by rw [HV.out]; unfold valOf; rw [Hr.out]
        clear hxc HV Hr
        by_cases hr1 : r = nr
        · rw [if_pos hr1] at hv
          subst hr1 hv
          go_wp2
          go_roundw
          case rel => exact ⟨k + 1, by omega, by go_num, hVs, b2⟩
          case measure => simp [intOf]; omega
        · rw [if_neg hr1] at hv
          by_cases hr2 : r = nr + 1
          · rw [if_pos hr2] at hv
            subst hr2 hv
            go_wp2
            go_roundw
            case rel => exact ⟨k + 1, by omega, by go_num, hVs, b2⟩
            case measure => simp [intOf]; omega
          · rw [if_neg hr2] at hv
            subst hv
            go_wp2
            go_roundw
            case rel => exact ⟨k + 1, by omega, by go_num, hVs, b2⟩
            case measure => simp [intOf]; omega
    · obtain rfl : k = m := by omega
      rw [laid_all] at hV
      have hv0 : ((raws.take k).map (valOf nr)).length = k ∧ ∀ x ∈ (raws.take k).map (valOf nr), x = -1 ∨ Valid nr x := by
        refine ⟨by simp [HL.out.1], fun x hx => ?_⟩
        obtain ⟨y, _, rfl⟩ := List.mem_map.1 hx
        exact valOf_ok nr y
      generalize (raws.take k).map (valOf nr) = vals at hV hv0
      have HV : Hid (vals.length = k ∧ ∀ x ∈ vals, x = -1 ∨ Valid nr x) := hv0
      clear hv0 h1 hu hlt hk
      have hbs := hb.size
      have hcmp : ∀ W : World, (binOp BinOp.neq 23 (.slice a2 m2 c2) (.slice none 0 0)).run Yba.prog W = .ok (.bool a2.isSome) W := by
        intro W
        cases a2 <;> kernel_rfl
      go_upto_if 88 with (at_make; refine wpList_make_full _ rfl _ _ 23 rfl w.heap.size 21 i21 (.int .i32 0) 1 Yba.underlying23 hi21 z210 z211 _ _ _ _ k rfl rfl (by go_num) (by go_num) (by rw [z212]; omega) (by unfold maxLen; omega) hbs ?_; intro w2 hO2 hg2; have hV2 := hV.kept hg2 (.inr (by simp [Value.ownBlock])); obtain ⟨w3, hrun3, hO3, hg3⟩ := copy_full w2 w.heap.size wr.heap.size k 3 ⟨w.heap.size, 0, none⟩ k vals _ hO2 HV.out.1 (fun j hj => by rw [Addr.add_lit, Nat.zero_add, hV2.cellAt j (by omega)]; simp [List.getD, show j < vals.length by rw [HV.out.1]; exact hj]))
      have lV := (hV.lt w.heap.size rfl).2
      have hV3 := hV2.kept hg3 (.inr (by simp [Value.ownBlock]; omega))
      have b2 := hb.grown hg2 hbs (fun j hj => by cases hj)
      have b3 := b2.grown hg3 b2.size (fun j hj => by cases hj; exact hbs)
      have hs3 := Nat.le_trans hg2.size hg3.size
      have lO := (hO3.lt wr.heap.size rfl).2
      clear hO2 hV2 hrun3 hg2 hg3 hV hb b2
      generalize wr.heap.size = gO at *
      go_cut [13] (fun v13 wx => ∃ (aR : Option Addr) (rl rc : Nat), v13 = .slice aR rl rc ∧ rl ≤ rc ∧ wx.ownsRow w.heap.size 21 1 (.slice aR 0 rc) 0 [] ∧ (Value.slice aR 0 rc).ownBlock ≠ some w.heap.size ∧ (Value.slice aR 0 rc).ownBlock ≠ some gO ∧ wx.ownsRow w.heap.size 21 1 (.slice (some ⟨w.heap.size, 0, none⟩) k k) k (vals.map (Value.int .i32)) ∧ wx.ownsRow w.heap.size 21 1 (.slice (some ⟨gO, 0, none⟩) k k) k (vals.map (Value.int .i32)) ∧ Below w.heap.size w wx)
      case first =>
        as_aux_lemma =>
          rcases h2 with ⟨rfl, rfl, rfl⟩ | ⟨x, rfl, hx⟩
          · go_wp2
            go_meet
            case rel => exact ⟨none, 0, 0, rfl, Nat.le_refl _, World.ownsRow_nil _ _ _ _, by simp [Value.ownBlock], by simp [Value.ownBlock], hV3, hO3, b3⟩
          · have hx3 : ∀ j, j < m2 → w3.cell? (x.add j) = some (.int .i32 (st.getD j 0)) ∧ x.block < w.heap.size := fun j hj => ⟨(b3.cell (p := x.add j) (by unfold Addr.add; split <;> exact (hx j hj).1)).trans (hx j hj).2, (hx j hj).1⟩
            go_wp2_with (at_make; refine wpList_make_full _ rfl _ _ 23 rfl w.heap.size 21 i21 (.int .i32 0) 1 Yba.underlying23 hi21 z210 z211 _ _ _ _ m2 rfl rfl (by go_num) (by go_num) (by rw [z212]; omega) (by unfold maxLen; omega) b3.size ?_; intro w4 hR4 hg4; have hV4 := hV3.kept hg4 (.inr (by simp [Value.ownBlock])); have hO4 := hO3.kept hg4 (.inr (by simp [Value.ownBlock])); have b4 := b3.grown hg4 b3.size (fun j hj => by cases hj); obtain ⟨w5, hrun5, hR5, hg5⟩ := copy_full w4 w.heap.size w3.heap.size m2 3 x c2 st _ hR4 HL.out.2 (fun j hj => hg4.cell (hx3 j hj).1 (by simp)))
            have hV5 := hV4.kept hg5 (.inr (by simp [Value.ownBlock]; omega))
            have hO5 := hO4.kept hg5 (.inr (by simp [Value.ownBlock]; omega))
            have b5 := b4.grown hg5 b4.size (fun j hj => by cases hj; exact b3.size)
            go_meet
            case rel => exact ⟨_, _, _, rfl, Nat.le_refl _, row_cut0 hR5, by simp [Value.ownBlock]; omega, by simp [Value.ownBlock]; omega, hV5, hO5, b5⟩
      case rest =>
        obtain ⟨aR, rl, rc, rfl, hrl, hR, hne1, hne2, hV, hO, hb⟩ := hcut
        clear h2 hcmp hV3 hO3 b3 hs3 lO
        go_wp2_with fail
        refine (num_at w wc nr k gO aR rl rc vals _ _ rfl rfl hnr hm hb hrl hR hne1 hne2 hV hO lV HV.out).mono ?_
        rintro e w6 ⟨aO, cO, ops, rfl, rV, rO, rP, hF, hval, hle, b6⟩
        have HF : Hid (Fina (srcs vals k).length (max nr (srcs vals k).length) (srcs vals k).length (srcs vals k) ops ∧ ∀ x ∈ srcs vals k, Valid nr x) := ⟨hF, hval⟩
        clear hR hne1 hne2 hV hO hb hF hval hrl
        obtain ⟨n, Hn⟩ : ∃ n, Hid (n = (srcs vals k).length) := ⟨_, rfl⟩
        rw [← Hn.out] at hle ⊢
        go_wp2_with (at_make; refine wpList_make_own _ rfl _ _ 27 rfl w.heap.size 3 i3 (.int .i64 0) 1 Yba.underlying27 hi3 z30 z31 _ _ _ (nr + 1) rfl rfl (by go_num) (by rw [z32]; omega) (by unfold maxLen; omega) b6.size ?_; intro w7 rK hg7)
        have b7 := b6.grown hg7 b6.size (fun j hj => by cases hj)
        have M0 : RM w.heap.size w7 w.heap.size gO k (.slice aO ops.length cO) (.slice (some ⟨w6.heap.size, 0, none⟩) (keysOf nr vals 0).length (nr + 1)) ((List.range k).map (outAt vals)) vals (keysOf nr vals 0) ops :=
          ⟨rV.kept hg7 (.inr (by simp [Value.ownBlock])), rO.kept hg7 (.inr (by simp [Value.ownBlock])), rP.kept hg7 (by cases (Value.slice aO ops.length cO).ownBlock <;> simp), rK⟩
        clear rV rO rP rK hg7 b6
        generalize w6.heap.size = gK0 at *
        go_loopw [18, 118] (fun vK i wx => ∃ (j gK cK : Nat), j ≤ k ∧ i = .int .i64 j ∧ vK = .slice (some ⟨gK, 0, none⟩) (keysOf nr vals j).length cK ∧ RM w.heap.size wx w.heap.size gO k (.slice aO ops.length cO) (.slice (some ⟨gK, 0, none⟩) (keysOf nr vals j).length cK) ((List.range k).map (outAt vals)) vals (keysOf nr vals j) ops ∧ Below w.heap.size w wx) (fun _ i _ => k - (intOf i).toNat)
        case atStart => exact ⟨0, gK0, nr + 1, Nat.zero_le _, rfl, rfl, M0, b7⟩
        case round =>
          obtain ⟨j, gK, cK, hj, rfl, rfl, M, hb⟩ := hrel
          clear M0 b7
          by_cases hlt : j < k
          · as_aux_lemma =>
              go_light
              have hjv : j < vals.length := by rw [HV.out.1]; exact hlt
              have p1 := M.atO j hlt HV.out.1
              have p2 := M.atV j hlt (outs_len vals k)
              rw [outs_at vals k j hlt] at p2
              have hval := HV.out.2 (vals.getD j 0) (by simp [List.getD, hjv])
              obtain ⟨v, HE⟩ : ∃ v, Hid (vals.getD j 0 = v) := ⟨_, rfl⟩
              rw [HE.out] at p1 hval
              by_cases h1 : v = -1
              · subst h1
                obtain ⟨e1, e2⟩ := round_none nr vals j hjv HE.out
                have HN : Hid (keysOf nr vals (j + 1) = keysOf nr vals j) := e2
                rw [e1] at p2
                clear e1 e2
                go_wp2
                go_roundw
                case rel => exact ⟨j + 1, gK, cK, by omega, by go_num, by rw [HN.out], by rw [HN.out]; exact M, hb⟩
                case measure => simp [intOf]; omega
              · have hvd : Valid nr v := by
                  rcases hval with h | h
                  · exact absurd h h1
                  · exact h
                by_cases h2 : v = -2
                · subst h2
                  have hkk : keyOf_ nr (-2) = (nr : Int) := by simp [keyOf_]
                  by_cases hin : (-2 : Int) ∈ srcs vals j
                  · obtain ⟨p, e1, hp, e3, e2⟩ := round_old nr vals j hjv _ HE.out h1 hin
                    have HN : Hid (keysOf nr vals (j + 1) = keysOf nr vals j) := e2
                    have p3 := M.atK p hp
                    rw [e3, hkk] at p3
                    rw [e1] at p2
                    clear e1 e2 e3 hkk
                    have hkl : (keysOf nr vals j).length ≤ nr + 1 := by rw [keysOf_len]; exact srcs_len nr vals j HV.out.2
                    generalize keysOf nr vals j = L at *
                    go_wp2
                    go_roundw
                    case rel => exact ⟨j + 1, gK, cK, by omega, by go_num, by rw [HN.out], by rw [HN.out]; exact M, hb⟩
                    case measure => simp [intOf]; omega
                  · obtain ⟨e1, e2, e3⟩ := round_new nr vals j hjv _ HE.out h1 hvd hin (srcs_le nr vals j HV.out.2)
                    have HN : Hid (keysOf nr vals (j + 1) = keysOf nr vals j ++ [(nr : Int)]) := by first | exact e2 | (rw [hkk] at e2; exact e2)
                    rw [e1] at p2
                    rw [hkk] at e3
                    clear e1 e2 hkk
                    have hkl : (keysOf nr vals j).length ≤ nr + 1 := by rw [keysOf_len]; exact srcs_len nr vals j HV.out.2
                    generalize keysOf nr vals j = L at *
                    go_wp2
                    go_loopw [154] (fun i wq => ∃ y : Nat, y ≤ L.length ∧ i = .int .i64 y ∧ wr = wq) (fun i _ => L.length - (intOf i).toNat)
                    case atStart => exact ⟨0, Nat.zero_le _, rfl, rfl⟩
                    case round =>
                      obtain ⟨y, hy, rfl, rfl⟩ := hrel
                      by_cases hly : y < L.length
                      · have p3 := M.atK y hly
                        have hne := e3 y hly
                        generalize L.getD y 0 = z at p3 hne
                        go_wp2
                        go_roundw
                        case rel => exact ⟨y + 1, by omega, by go_num, by trivial⟩
                        case measure => simp [intOf]; omega
                      · obtain rfl : y = L.length := by omega
                        go_wp2_with (at_builtin; refine wpList_append_lies _ rfl _ _ 27 rfl w.heap.size 3 i3 _ 1 8 Yba.underlying27 hi3 z30 z31 z32 rfl (by omega) _ L.length _ rfl (M.rK.alloc _) ⟨wr.heap.size, 0, none⟩ 1 1 [.int .i64 ((nr : Int))] rfl rfl (cell_one_new _ _ _) (by intro u hu; simp at hu; subst hu; rfl) (by omega) (by unfold maxLen; omega) (by omega) (by have := hb.size; simp; omega) (wr.heap.size + 1) (by simp) ?_; intro g3 c3 w3 ho3 hg3 hor3 hgl3)
                        have M3 := (M.alloc (.cells #[.int .i64 ((nr : Int))] 3)).addK ((nr : Int)) ho3 hg3
                        have b3 := (hb.alloc hb.size (.cells #[.int .i64 ((nr : Int))] 3)).grown hg3 (by have := hb.size; simp; omega) (fun j hj => (M.rK.lt j hj).1)
                        clear ho3 hg3 hor3 hgl3
                        go_roundw
                        case rel => exact ⟨j + 1, g3, c3, by omega, by go_num, by rw [HN.out]; simp, by rw [HN.out]; simpa using M3, b3⟩
                        case measure => simp [intOf]; omega
                · have hv0 : 0 ≤ v ∧ v < nr := by
                    rcases hvd with h | h
                    · exact absurd h h2
                    · exact h
                  obtain ⟨vn, rfl⟩ : ∃ vn : Nat, v = vn := ⟨v.toNat, by omega⟩
                  have hkk : keyOf_ nr (vn : Int) = (vn : Int) := by unfold keyOf_; rw [if_neg (by omega)]
                  by_cases hin : (vn : Int) ∈ srcs vals j
                  · obtain ⟨p, e1, hp, e3, e2⟩ := round_old nr vals j hjv _ HE.out h1 hin
                    have HN : Hid (keysOf nr vals (j + 1) = keysOf nr vals j) := e2
                    have p3 := M.atK p hp
                    rw [e3, hkk] at p3
                    rw [e1] at p2
                    clear e1 e2 e3 hkk
                    have hkl : (keysOf nr vals j).length ≤ nr + 1 := by rw [keysOf_len]; exact srcs_len nr vals j HV.out.2
                    generalize keysOf nr vals j = L at *
                    go_wp2
                    go_roundw
                    case rel => exact ⟨j + 1, gK, cK, by omega, by go_num, by rw [HN.out], by rw [HN.out]; exact M, hb⟩
                    case measure => simp [intOf]; omega
                  · obtain ⟨e1, e2, e3⟩ := round_new nr vals j hjv _ HE.out h1 hvd hin (srcs_le nr vals j HV.out.2)
                    have HN : Hid (keysOf nr vals (j + 1) = keysOf nr vals j ++ [(vn : Int)]) := by first | exact e2 | (rw [hkk] at e2; exact e2)
                    rw [e1] at p2
                    rw [hkk] at e3
                    clear e1 e2 hkk
                    have hkl : (keysOf nr vals j).length ≤ nr + 1 := by rw [keysOf_len]; exact srcs_len nr vals j HV.out.2
                    generalize keysOf nr vals j = L at *
                    go_wp2
                    go_loopw [154] (fun i wq => ∃ y : Nat, y ≤ L.length ∧ i = .int .i64 y ∧ wr = wq) (fun i _ => L.length - (intOf i).toNat)
                    case atStart => exact ⟨0, Nat.zero_le _, rfl, rfl⟩
                    case round =>
                      obtain ⟨y, hy, rfl, rfl⟩ := hrel
                      by_cases hly : y < L.length
                      · have p3 := M.atK y hly
                        have hne := e3 y hly
                        generalize L.getD y 0 = z at p3 hne
                        go_wp2
                        go_roundw
                        case rel => exact ⟨y + 1, by omega, by go_num, by trivial⟩
                        case measure => simp [intOf]; omega
                      · obtain rfl : y = L.length := by omega
                        go_wp2_with (at_builtin; refine wpList_append_lies _ rfl _ _ 27 rfl w.heap.size 3 i3 _ 1 8 Yba.underlying27 hi3 z30 z31 z32 rfl (by omega) _ L.length _ rfl (M.rK.alloc _) ⟨wr.heap.size, 0, none⟩ 1 1 [.int .i64 ((vn : Int))] rfl rfl (cell_one_new _ _ _) (by intro u hu; simp at hu; subst hu; rfl) (by omega) (by unfold maxLen; omega) (by omega) (by have := hb.size; simp; omega) (wr.heap.size + 1) (by simp) ?_; intro g3 c3 w3 ho3 hg3 hor3 hgl3)
                        have M3 := (M.alloc (.cells #[.int .i64 ((vn : Int))] 3)).addK ((vn : Int)) ho3 hg3
                        have b3 := (hb.alloc hb.size (.cells #[.int .i64 ((vn : Int))] 3)).grown hg3 (by have := hb.size; simp; omega) (fun j hj => (M.rK.lt j hj).1)
                        clear ho3 hg3 hor3 hgl3
                        go_roundw
                        case rel => exact ⟨j + 1, g3, c3, by omega, by go_num, by rw [HN.out]; simp, by rw [HN.out]; simpa using M3, b3⟩
                        case measure => simp [intOf]; omega
          · obtain rfl : j = k := by omega
            clear hlt hj
            obtain ⟨temp, Ht⟩ : ∃ temp, Hid (temp = max nr n) := ⟨_, rfl⟩
            have ht1 : temp ≤ 256 ∧ nr ≤ temp ∧ n ≤ temp := by rw [Ht.out]; omega
            have hln : (keysOf nr vals j).length = n := by rw [keysOf_len, Hn.out]
            have HL2 : Hid ((keysOf nr vals j).length = n) := hln
            rw [hln] at M ⊢
            clear hln
            go_upto_region 52 with fail
            go_cut [25] (fun v25 wx => v25 = .int .i64 temp ∧ wr = wx)
            case first =>
              go_wp2
              all_goals
                go_meet
                case rel => exact ⟨by rw [Ht.out]; congr 1; omega, by trivial⟩
            case rest =>
              obtain ⟨rfl, rfl⟩ := hcut
              go_wp2_with (at_make; refine wpList_make_full _ rfl _ _ 27 rfl w.heap.size 3 i3 (.int .i64 0) 1 Yba.underlying27 hi3 z30 z31 _ _ _ _ (temp + 1) rfl rfl (by go_num) (by go_num) (by rw [z32]; omega) (by unfold maxLen; omega) hb.size ?_; intro w8 rR8 hg8)
              have b8 := hb.grown hg8 hb.size (fun j hj => by cases hj)
              rw [made_zero, ← half_none (f0 nr)] at rR8
              have G0 : RG w.heap.size w8 w.heap.size gO j (.slice aO ops.length cO) (.slice (some ⟨gK, 0, none⟩) n cK) ((List.range j).map (outAt vals)) vals (keysOf nr vals j) ops wr.heap.size temp (half (f0 nr) 0 temp) :=
                ⟨M.grown0 hg8, rR8, by have := (M.rK.lt gK rfl).2; simp [Value.ownBlock]; omega⟩
              clear hg8 rR8 hb M
              generalize wr.heap.size = gR at *
              go_loopw [185] (fun i wx => ∃ (y : Nat), y ≤ temp + 1 ∧ i = .int .i64 y ∧ RG w.heap.size wx w.heap.size gO j (.slice aO ops.length cO) (.slice (some ⟨gK, 0, none⟩) n cK) ((List.range j).map (outAt vals)) vals (keysOf nr vals j) ops gR temp (half (f0 nr) y temp) ∧ Below w.heap.size w wx) (fun i _ => temp + 1 - (intOf i).toNat)
              case atStart => exact ⟨0, Nat.zero_le _, rfl, G0, b8⟩
              case round =>
                obtain ⟨y, hy, rfl, G, hb⟩ := hrel
                clear G0 b8
                have hgRx := (G.rR.lt gR rfl).1
                by_cases hlt : y < temp + 1
                · as_aux_lemma =>
                    go_light
                    obtain ⟨p1, p2⟩ := G.atR y hlt (half_len _ _ _ hy)
                    have G2 := G.setR y (f0 nr y)
                    rw [half_set _ _ _ hlt] at G2
                    have b2 := hb.setCell (p := ⟨gR, y, none⟩) hgRx (.int .i64 (f0 nr y))
                    generalize (half (f0 nr) y temp).getD y 0 = z at p1
                    by_cases hyn : y < nr
                    · have hf : f0 nr y = 1000 + (y : Int) := by unfold f0; rw [if_pos (by omega)]
                      rw [hf] at G2 b2
                      clear hf
                      go_wp2
                      go_roundw
                      case rel => exact ⟨y + 1, by omega, by go_num, G2, b2⟩
                      case measure => simp [intOf]; omega
                    · have hf : f0 nr y = -7 := by unfold f0; rw [if_neg (by omega)]
                      rw [hf] at G2 b2
                      clear hf
                      go_wp2
                      go_roundw
                      case rel => exact ⟨y + 1, by omega, by go_num, G2, b2⟩
                      case measure => simp [intOf]; omega
                · obtain rfl : y = temp + 1 := by omega
                  rw [half_all] at G
                  have G1 := G
                  have hb1 := hb
                  have hc31 : ((temp + 1 : Nat) : Int) = (temp : Int) + 1 := by simp
                  rw [hc31]
                  clear hc31 hlt hy G hb
                  go_wp2
                  go_loopw [202] (fun i wx => ∃ (y : Nat), y ≤ ops.length ∧ i = .int .i64 y ∧ RG w.heap.size wx w.heap.size gO j (.slice aO ops.length cO) (.slice (some ⟨gK, 0, none⟩) n cK) ((List.range j).map (outAt vals)) vals (keysOf nr vals j) ops gR temp (regAt (exec (ops.take y) (f0 nr)) temp) ∧ Below w.heap.size w wx) (fun i _ => ops.length - (intOf i).toNat)
                  case atStart => exact ⟨0, Nat.zero_le _, rfl, G1, hb1⟩
                  case round =>
                    obtain ⟨y, hy, rfl, G, hb⟩ := hrel
                    have hol : ops.length ≤ 3 * n + 1 := by have := HF.out.1.num; rw [← Hn.out] at this; omega
                    by_cases hlt : y < ops.length
                    · as_aux_lemma =>
                        go_light
                        obtain ⟨gP, rfl, hgP⟩ := row_form G.M.rP (by omega)
                        obtain ⟨q1, q2⟩ := G.M.atP y hlt
                        have hok := HF.out.1.ok ops[y] (List.getElem_mem hlt)
                        rw [← Hn.out, ← Ht.out] at hok
                        have he := take_exec ops y hlt (f0 nr)
                        obtain ⟨d, s, HD⟩ : ∃ d s, Hid (ops[y] = (d, s)) := ⟨ops[y].1, ops[y].2, rfl⟩
                        rw [HD.out] at q1 q2 hok he
                        have HE2 : Hid (exec (ops.take (y + 1)) (f0 nr) = stp (exec (ops.take y) (f0 nr)) (d, s)) := he
                        clear he G1 hb1 hgRx
                        obtain ⟨dn, rfl⟩ : ∃ dn : Nat, d = dn := ⟨d.toNat, by have := hok.1; simp at this; omega⟩
                        have hd1 : dn ≤ temp := by have := hok.2.1; simp at this; omega
                        have hgR := (G.rR.lt gR rfl).1
                        have hgPl := (G.M.rP.lt gP rfl).2
                        have hgRl := (G.rR.lt gR rfl).2
                        obtain ⟨p1, p2⟩ := G.atR dn (by omega) (regAt_len _ _)
                        rw [regAt_at _ _ _ (by omega)] at p1
                        obtain ⟨F, HFF⟩ : ∃ F, Hid (F = exec (ops.take y) (f0 nr)) := ⟨_, rfl⟩
                        rw [← HFF.out] at p1
                        generalize F (dn : Int) = z at p1
                        by_cases hs : s = -2
                        · subst hs
                          clear hok
                          have G2 := (((G.setR dn (-3))).alloc (.cells #[.int .i32 (dn : Int), .int .i32 (-2)] 42)).grown0 (w' := ((wr.setCell ⟨gR, dn, none⟩ (.int .i64 (-3))).alloc (.cells #[.int .i32 (dn : Int), .int .i32 (-2)] 42)).drew) ⟨rfl, rfl, rfl, Nat.le_refl _, fun _ _ _ => rfl⟩
                          have b2 := (((hb.setCell (p := ⟨gR, dn, none⟩) hgR (.int .i64 (-3)))).alloc (by simpa [World.setCell] using hb.size) (.cells #[.int .i32 (dn : Int), .int .i32 (-2)] 42)).drew
                          rw [regAt_set _ (exec (ops.take (y + 1)) (f0 nr)) _ _ _ (by rw [HE2.out]; exact stp_here _ _) (fun x hx => by rw [HE2.out]; exact stp_off _ _ _ _ hx)] at G2
                          go_wp2
                          go_region
                          go_wp2
                          go_roundw
                          case rel => exact ⟨y + 1, by omega, by go_num, G2, b2⟩
                          case measure => simp [intOf]; omega
                        · obtain ⟨sn, rfl⟩ : ∃ sn : Nat, s = sn := ⟨s.toNat, by have := hok.2.2; simp at this; omega⟩
                          have hs1 : sn ≤ temp := by have := hok.2.2; simp at this; omega
                          obtain ⟨p3, p4⟩ := G.atR sn (by omega) (regAt_len _ _)
                          rw [regAt_at _ _ _ (by omega), ← HFF.out] at p3
                          have HZ : Hid (F (sn : Int) = exec (ops.take y) (f0 nr) (sn : Int)) := by rw [HFF.out]; rfl
                          generalize F (sn : Int) = x at p3 HZ
                          have G2 := (((G.setR dn x)).alloc (.cells #[.int .i32 (dn : Int), .int .i32 (sn : Int)] 42)).grown0 (w' := ((wr.setCell ⟨gR, dn, none⟩ (.int .i64 x)).alloc (.cells #[.int .i32 (dn : Int), .int .i32 (sn : Int)] 42)).drew) ⟨rfl, rfl, rfl, Nat.le_refl _, fun _ _ _ => rfl⟩
                          have b2 := (((hb.setCell (p := ⟨gR, dn, none⟩) hgR (.int .i64 x))).alloc (by simpa [World.setCell] using hb.size) (.cells #[.int .i32 (dn : Int), .int .i32 (sn : Int)] 42)).drew
                          rw [regAt_set _ (exec (ops.take (y + 1)) (f0 nr)) _ _ _ (by rw [HE2.out, HZ.out]; exact stp_at _ _ _ hs) (fun x hx => by rw [HE2.out]; exact stp_off _ _ _ _ hx)] at G2
                          clear hok
                          go_wp2
                          go_region
                          go_wp2
                          go_roundw
                          case rel => exact ⟨y + 1, by omega, by go_num, G2, b2⟩
                          case measure => simp [intOf]; omega
                    · obtain rfl : y = ops.length := by omega
                      rw [List.take_length] at G
                      have G2 := G
                      have hb2 := hb
                      clear hlt hy G hb G1 hb1 hgRx
                      go_wp2
                      go_loopw [241] (fun i wx => ∃ (y : Nat), y ≤ n ∧ i = .int .i64 y ∧ wr = wx) (fun i _ => n - (intOf i).toNat)
                      case atStart => exact ⟨0, Nat.zero_le _, rfl, rfl⟩
                      case round =>
                        obtain ⟨y, hy, rfl, rfl⟩ := hrel
                        by_cases hlt : y < n
                        · have hFn := HF.out.1
                          rw [← Hn.out, ← Ht.out] at hFn
                          have hlast := last_ok nr n temp (srcs vals j) ops Hn.out.symm hFn HF.out.2 y hlt
                          have M2 := G2.M
                          rw [← HL2.out] at M2
                          have p1 := M2.atK y (by rw [HL2.out]; exact hlt)
                          obtain ⟨p2, _⟩ := G2.atR y (by omega) (regAt_len _ _)
                          rw [regAt_at _ _ _ (by omega)] at p2
                          rcases hlast with ⟨r, hr, h1, h2⟩ | ⟨h1, h2⟩
                          · rw [show (keysOf nr vals j).getD y 0 = (r : Int) from h1] at p1
                            rw [h2] at p2
                            clear h1 h2 hFn M2
                            go_wp2
                            go_roundw
                            case rel => exact ⟨y + 1, by omega, by go_num, by trivial⟩
                            case measure => simp [intOf]; omega
                          · rw [show (keysOf nr vals j).getD y 0 = (nr : Int) from h1] at p1
                            rw [h2] at p2
                            clear h1 h2 hFn M2
                            go_wp2
                            go_roundw
                            case rel => exact ⟨y + 1, by omega, by go_num, by trivial⟩
                            case measure => simp [intOf]; omega
                        · obtain rfl : y = n := by omega
                          go_wp2
                          go_ret
                          exact ⟨rfl, hb2⟩
end Go.Proofs.Ybulkbwdq
