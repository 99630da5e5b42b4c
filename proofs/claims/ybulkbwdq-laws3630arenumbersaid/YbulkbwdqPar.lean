/-
  parallelOps, walked.
-/
import Derived.Test.YbulkbwdqMem
import Derived.Deep.LoopGhost
namespace Go.Proofs.Ybulkbwdq
open Go.RowKit
set_option linter.unusedVariables false

theorem made_zero (n : Nat) : (madeCells (Value.int .i64 0).cells (n * 1)).toList = (List.replicate n (0 : Int)).map (Value.int .i64) := by
  apply List.ext_getElem (by simp [madeCells])
  intro j h1 h2
  simp [madeCells, Value.cells, Nat.mod_one]

def Hid (p : Prop) : Prop := p
theorem Hid.out {p : Prop} (h : Hid p) : p := h

theorem cell_two_new (w : World) (a b : Value) (t : TypeId) (j : Nat) (u : Value) (h : ([a, b] : List Value)[j]? = some u) : (w.alloc (.cells #[a, b] t)).cell? (Addr.add ⟨w.heap.size, 0, none⟩ j) = some u := by
  match j, h with
  | 0, h => simp at h; subst h; simp [Addr.add]
  | 1, h => simp at h; subst h; simp [Addr.add]

set_option maxRecDepth 100000 in
set_option maxHeartbeats 4000000 in
theorem par_any (b off cS m temp : Nat) (src : List Int) (w : World) (ls : src.length = m) (hm : 0 < m) (le : m ≤ temp) (lt : temp ≤ 2000) (hb : b < w.heap.size) (hc : ∀ j, j < m → w.cell? ⟨b, off + j, none⟩ = some (.int .i32 (src.getD j 0)))
    (hsrc : ∀ r : Int, 0 ≤ r → r < m → -2 ≤ at_ src r ∧ at_ src r < temp) :
    Calls Yba.prog 9 #[.slice (some ⟨b, off, none⟩) m cS, .int .i32 (temp : Int)] w fun e w' => ∃ (vO : Value) (ops : List (Int × Int)), e = .returned vO ∧ Fina m temp m src ops ∧ w'.ownsRow w.heap.size 42 2 vO ops.length (flat ops) ∧ Below w.heap.size w w' := by
  obtain ⟨i21, hi21, z210, z211, z212⟩ := info_parts Yba.info21
  obtain ⟨i42, hi42, z420, z421, z422⟩ := info_parts Yba.info42
  obtain ⟨i3, hi3, z30, z31, z32⟩ := info_parts Yba.info3
  have HS : Hid (src.length = m ∧ ∀ r : Int, 0 ≤ r → r < m → -2 ≤ at_ src r ∧ at_ src r < temp) := ⟨ls, hsrc⟩
  clear ls hsrc
  go_enter Yba.func9, Yba.ntmps9
  go_wp2_with (first
    | (at_builtin; refine wpList_append_lies _ rfl _ _ 23 rfl w.heap.size 21 i21 _ 1 4 Yba.underlying23 hi21 z210 z211 z212 rfl (by omega) _ 0 [] rfl (World.ownsRow_nil _ _ _ _) ⟨b, off, none⟩ m cS (src.map (Value.int .i32)) rfl (by simp [HS.out.1]) (fun j u hj => by
        rw [List.getElem?_map] at hj
        obtain ⟨x, hx, rfl⟩ := Option.map_eq_some_iff.1 hj
        have hjl := (List.getElem?_eq_some_iff.1 hx).1
        rw [Addr.add_lit, hc j (by rw [← HS.out.1]; exact hjl)]
        simp [List.getD, hx]) (by intro u hu; obtain ⟨x, _, rfl⟩ := List.mem_map.1 hu; rfl) hm (by unfold maxLen; omega) (by omega) (Nat.le_refl _) w.heap.size rfl ?_; intro gF cF w1 ho1 hg1 hor1 hgl1)
    | (at_make; refine wpList_make_full _ rfl _ _ 27 rfl w.heap.size 3 i3 (.int .i64 0) 1 Yba.underlying27 hi3 z30 z31 _ _ _ _ (temp + 1) rfl rfl (by go_num) (by go_num) (by rw [z32]; omega) (by unfold maxLen; omega) (by have := hg1.size; omega) ?_; intro w2 ho2 hg2))
  simp only [Nat.zero_add, List.nil_append] at ho1 ⊢
  have b1 : Below w.heap.size w w1 := (Below.refl _ w).grown hg1 (Nat.le_refl _) (fun j hj => by cases hj)
  have b2 : Below w.heap.size w w2 := b1.grown hg2 b1.size (fun j hj => by cases hj)
  have hF2 := (ho1.lt gF rfl).2
  have M0 : PM w.heap.size w2 gF cF w1.heap.size (.slice none 0 0) 0 (.slice none 0 0) m temp src (List.replicate (temp + 1) 0) [] [] := by
    refine ⟨ho1.kept hg2 (.inr (by simp [Value.ownBlock])), ?_, World.ownsRow_nil _ _ _ _, World.ownsRow_nil _ _ _ _, by simp [Value.ownBlock]⟩
    rw [made_zero] at ho2
    exact ho2
  have I0 : Inv1 m temp 0 src [] (List.replicate (temp + 1) 0) := by
    refine ⟨List.nodup_nil, fun r => ⟨fun h => by simp at h, fun h => by omega⟩, fun s s0 s1 => ?_, by simp, Nat.zero_le _⟩
    simp [at_, cnt, List.getD, List.getElem?_replicate]
    split <;> rfl
  clear ho1 ho2 hg1 hg2 hor1 hgl1
  generalize w1.heap.size = gR at *
  go_loopw [8, 26] (fun vP i wr => ∃ (k : Nat) (P rd : List Int) (aP : Option Addr) (cP : Nat), k ≤ m ∧ i = .int .i64 k ∧ vP = .slice aP P.length cP ∧ Hid (Inv1 m temp k src P rd) ∧ PM w.heap.size wr gF cF gR (.slice aP P.length cP) P.length (.slice none 0 0) m temp src rd P [] ∧ Below w.heap.size w wr) (fun _ i _ => m - (intOf i).toNat)
  case atStart => exact ⟨0, [], _, none, 0, Nat.zero_le _, rfl, rfl, I0, M0, b2⟩
  case round =>
    obtain ⟨k, P, rd, aP, cP, hk, rfl, rfl, HI, M, hbel⟩ := hrel
    clear I0 M0 b2 b1
    have hlP := HI.out.lp
    by_cases hlt : k < m
    · have c1 := (M.atF k hlt HS.out.1).1
      have hs := HS.out.2 k (by omega) (by omega)
      have hs' : -2 ≤ src.getD k 0 ∧ src.getD k 0 < temp := hs
      have cn := HI.out.cn (src.getD k 0)
      have hrl := HI.out.lr
      by_cases hneg : src.getD k 0 < 0
      · have HI2 : Hid (Inv1 m temp (k + 1) src P rd) := inv1_skip HI.out (by rw [at_nat]; omega)
        clear cn hrl
        generalize src.getD k 0 = s at *
        go_wp2
        go_roundw
        case rel => exact ⟨k + 1, P, rd, aP, cP, by omega, by go_num, rfl, HI2, M, hbel⟩
        case measure => simp [intOf]; omega
      · by_cases heq : src.getD k 0 = k
        · have HI2 : Hid (Inv1 m temp (k + 1) src P rd) := inv1_skip HI.out (by rw [at_nat]; omega)
          clear cn hrl hs
          generalize src.getD k 0 = s at *
          subst heq
          go_wp2
          go_roundw
          case rel => exact ⟨k + 1, P, rd, aP, cP, by omega, by go_num, rfl, HI2, M, hbel⟩
          case measure => simp [intOf]; omega
        · have HI2 : Hid (Inv1 m temp (k + 1) src (P ++ [(k : Int)]) (rd.set (src.getD k 0).toNat (rd.getD (src.getD k 0).toNat 0 + 1))) := by
            exact inv1_add HI.out (by rw [at_nat]; omega) (by rw [at_nat]; exact hs'.2)
          have cn' := cn (by omega) hs'.2
          have hcl : cnt src P (src.getD k 0) ≤ P.length := List.countP_le_length
          have hrb : 0 ≤ rd.getD (src.getD k 0).toNat 0 ∧ rd.getD (src.getD k 0).toNat 0 ≤ 2000 := by
            unfold at_ at cn'
            omega
          clear cn cn' hcl hs
          generalize src.getD k 0 = s at *
          have hsn : s.toNat < temp + 1 := by omega
          obtain ⟨sn, rfl⟩ : ∃ sn : Nat, s = sn := ⟨s.toNat, by omega⟩
          simp only [Int.toNat_natCast] at HI2 hrb hsn
          have HX : Hid (∃ x, x = rd.getD sn 0) := ⟨_, rfl⟩
          obtain ⟨x, hx⟩ := HX
          rw [← hx] at HI2 hrb
          have HX : Hid (x = rd.getD sn 0) := hx
          clear hx
          go_wp2_with (first
            | (at_builtin; refine wpList_append_lies _ rfl _ _ 23 rfl w.heap.size 21 i21 _ 1 4 Yba.underlying23 hi21 z210 z211 z212 rfl (by omega) _ P.length _ rfl (M.rP.alloc _) ⟨wr.heap.size, 0, none⟩ 1 1 [.int .i32 (k : Int)] rfl rfl (cell_one_new _ _ _) (by intro u hu; simp at hu; subst hu; rfl) (by omega) (by unfold maxLen; omega) (by omega) (by have := hbel.size; simp; omega) (wr.heap.size + 1) (by simp) ?_; intro g3 c3 w3 ho3 hg3 hor3 hgl3
               have M3 := (M.alloc (.cells #[.int .i32 (k : Int)] 21)).addP k ho3 hg3 hor3 (by simp)
               have b3 := (hbel.alloc hbel.size (.cells #[.int .i32 (k : Int)] 21)).grown hg3 (by have := hbel.size; simp; omega) (fun j hj => (M.rP.lt j hj).1)
               clear ho3 hg3 hor3 hgl3; have q3 := (M3.atR sn hsn hrl).1; rw [← HX.out] at q3; have q3f := (M3.atR sn hsn hrl).2))
          have M4 := M3.setR sn (x + 1)
          have hgR := (M3.rR.lt gR rfl).1
          have b4 := b3.setCell (p := ⟨gR, sn, none⟩) hgR (.int .i64 (x + 1))
          go_roundw
          case rel => exact ⟨k + 1, P ++ [(k : Int)], _, some ⟨g3, 0, none⟩, c3, by omega, by go_num, by simp, HI2, by simpa using M4, b4⟩
          case measure => simp [intOf]; omega
    · obtain rfl : k = m := by omega
      have IS : Inv k temp src src P rd [] 1 := inv_start HI.out HS.out.1 le (fun r h1 h2 => (HS.out.2 r h1 h2).2)
      clear HI
      go_wp2
      go_loopg [5, 8] (2 * P.length + 1) (fun gk vO vP wr => ∃ (frm P rd : List Int) (ops : List (Int × Int)) (fl : Nat) (aP aO : Option Addr) (cP cO : Nat), gk = 2 * P.length + fl ∧ vP = .slice aP P.length cP ∧ vO = .slice aO ops.length cO ∧ Hid (Inv k temp src frm P rd ops fl) ∧ PM w.heap.size wr gF cF gR (.slice aP P.length cP) P.length (.slice aO ops.length cO) k temp frm rd P ops ∧ Below w.heap.size w wr)
      case atStart => exact ⟨src, P, rd, [], 1, aP, none, cP, 0, rfl, rfl, rfl, IS, M, hbel⟩
      case round =>
        obtain ⟨frm, P, rd, ops, fl, aP, aO, cP, cO, hgk, rfl, rfl, HI, M, hbel⟩ := hrel
        clear IS
        have HG : Hid (gk = 2 * P.length + fl) := hgk
        clear hgk
        by_cases hP : 0 < P.length
        · obtain ⟨gP, rfl, hgP⟩ := row_form M.rP hP
          have hlen : P.length ≤ k := by
            have := sub_length HI.out.nd (m := (List.range k).map (fun (n : Nat) => (n : Int))) (fun x hx => by
              have := HI.out.pin x hx
              exact List.mem_map.2 ⟨x.toNat, by simp; omega, by omega⟩)
            simpa using this
          have hcap : P.length ≤ cP := by
            rcases M.rP.2 with ⟨h', _⟩ | ⟨g', cap', cur, h', hb', hg', h1, _⟩
            · cases h'
            · cases h'; exact h1
          have hnum := HI.out.num
          go_wp2
          go_loopw [5, 11, 58] (fun vO vR i wr => ∃ (j : Nat) (R rd : List Int) (ops : List (Int × Int)) (f : Nat) (aO : Option Addr) (cO : Nat), j ≤ P.length ∧ i = .int .i64 j ∧ vO = .slice aO ops.length cO ∧ vR = .slice (some ⟨gP, 0, none⟩) R.length cP ∧ R.length ≤ j ∧ Hid (Inv k temp src frm (R ++ P.drop j) rd ops f) ∧ Hid (R.length = j → f = fl ∧ ∀ r ∈ R, 0 < at_ rd r) ∧ PM w.heap.size wr gF cF gR (.slice (some ⟨gP, 0, none⟩) P.length cP) P.length (.slice aO ops.length cO) k temp frm rd (R ++ P.drop R.length) ops ∧ Below w.heap.size w wr) (fun _ _ i _ => P.length - (intOf i).toNat)
          case atStart => exact ⟨0, [], rd, ops, fl, aO, cO, Nat.zero_le _, rfl, rfl, rfl, Nat.zero_le _, HI, (fun _ => ⟨rfl, fun r hr => by simp at hr⟩), M, hbel⟩
          case round =>
            obtain ⟨j, R, rd, ops, f, aO, cO, hj, rfl, rfl, rfl, hRj, HJ, HR, M, hbel⟩ := hrel
            clear HI
            have hxl := xs_len R P (by omega)
            by_cases hlt : j < P.length
            · have hd := drop_at P j hlt
              have q1 := (M.atP j hlt hxl).1
              rw [xs_at R P j hRj] at q1
              rw [hd] at HJ
              clear hd
              have hpin := HJ.out.pin (P.getD j 0) (by simp)
              generalize P.getD j 0 = r at *
              obtain ⟨rn, rfl⟩ : ∃ rn : Nat, r = rn := ⟨r.toNat, by omega⟩
              rw [at_nat, at_nat] at hpin
              have hrk : rn < k := by omega
              have q2 := (M.atR rn (by omega) HJ.out.lr).1
              have q3 := (M.atF rn hrk HJ.out.lf).1
              obtain ⟨x, HX⟩ : ∃ x, Hid (x = rd.getD rn 0) := ⟨_, rfl⟩
              rw [← HX.out] at q2
              obtain ⟨y, HY⟩ : ∃ y, Hid (y = frm.getD rn 0) := ⟨_, rfl⟩
              rw [← HY.out] at q3 hpin
              have hlJ := HJ.out.num
              by_cases hx : 0 < x
              · obtain ⟨qc, qf⟩ := (M.alloc (.cells #[.int .i32 (rn : Int)] 21)).atP R.length (by omega) hxl
                generalize (R ++ P.drop R.length).getD R.length 0 = u at qc
                have M2 := (M.alloc (.cells #[.int .i32 (rn : Int)] 21)).setP R.length rn
                rw [xs_set R P rn (by omega)] at M2
                have b2 := (hbel.alloc hbel.size (.cells #[.int .i32 (rn : Int)] 21)).setCell (p := ⟨gP, R.length, none⟩) hgP (.int .i32 (rn : Int))
                go_wp2
                go_roundw
                case rel =>
                  refine ⟨j + 1, R ++ [(rn : Int)], rd, ops, f, aO, cO, by omega, by go_num, rfl, by simp, by simp; omega, ?_, ?_, M2, b2⟩
                  · show Inv _ _ _ _ _ _ _ _
                    rw [List.append_assoc]
                    exact HJ.out
                  · intro e
                    simp at e
                    obtain ⟨h1, h2⟩ := HR.out e
                    refine ⟨h1, fun z hz => ?_⟩
                    rcases List.mem_append.1 hz with hz | hz
                    · exact h2 z hz
                    · simp at hz
                      subst hz
                      rw [at_nat, ← HX.out]
                      exact hx
                case measure => simp [intOf]; omega
              · obtain ⟨yn, rfl⟩ : ∃ yn : Nat, y = yn := ⟨y.toNat, by omega⟩
                have hyn : yn < temp + 1 := by omega
                have hlr := HJ.out.lr
                have hlf := HJ.out.lf
                have hpl : (R ++ (rn : Int) :: P.drop (j + 1)).length ≤ P.length := by simp; omega
                obtain ⟨x', HX'⟩ : ∃ x', Hid (x' = rd.getD yn 0) := ⟨_, rfl⟩
                have HE : Hid (Inv k temp src frm (R ++ P.drop (j + 1)) (rd.set yn (wrap64 (x' - 1))) (ops ++ [((rn : Int), (yn : Int))]) 1) := by
                  have e1 : at_ frm (rn : Int) = yn := by rw [at_nat]; exact HY.out.symm
                  have := emit HJ.out (by rw [at_nat, ← HX.out]; omega) (wrap64 (x' - 1)) (fun h => by
                    rw [e1] at h ⊢
                    have hc := HJ.out.cn yn (by omega) h
                    have hl := cnt_le frm (R ++ (rn : Int) :: P.drop (j + 1)) yn
                    rw [at_nat] at hc ⊢
                    rw [← HX'.out] at hc ⊢
                    unfold wrap64
                    omega)
                  rw [e1] at this
                  exact this
                go_wp2_with (first
                  | (at_builtin; refine wpList_append_lies _ rfl _ _ 38 rfl w.heap.size 42 i42 _ 2 8 Yba.underlying38 hi42 z420 z421 z422 rfl (by omega) _ ops.length _ rfl (M.rO.alloc _) ⟨wr.heap.size, 0, none⟩ 1 1 [.int .i32 (rn : Int), .int .i32 (yn : Int)] rfl rfl (fun j u h => cell_two_new _ _ _ _ j u h) (by intro u hu; simp at hu; rcases hu with rfl | rfl <;> rfl) (by omega) (by unfold maxLen; simp at hlJ; omega) (by simp at hlJ; omega) (by have := hbel.size; simp; omega) (wr.heap.size + 1) (by simp) ?_; intro g3 c3 w3 ho3 hg3 hor3 hgl3
                     have M3 := (M.alloc (.cells #[.int .i32 (rn : Int), .int .i32 (yn : Int)] 42)).addO ((rn : Int), (yn : Int)) ho3 hg3
                     have b3 := (hbel.alloc hbel.size (.cells #[.int .i32 (rn : Int), .int .i32 (yn : Int)] 42)).grown hg3 (by have := hbel.size; simp; omega) (fun j hj => (M.rO.lt j hj).1)
                     clear ho3 hg3 hor3 hgl3; have q5 := (M3.atR yn hyn hlr).1; rw [← HX'.out] at q5; have q5f := (M3.atR yn hyn hlr).2; have q6 := (M3.atF rn hrk hlf).1; rw [← HY.out] at q6))
                have M4 := M3.setR yn (wrap64 (x' - 1))
                have hgR := (M3.rR.lt gR rfl).1
                have b4 := b3.setCell (p := ⟨gR, yn, none⟩) hgR (.int .i64 (wrap64 (x' - 1)))
                go_roundw
                case rel => exact ⟨j + 1, R, _, ops ++ [((rn : Int), (yn : Int))], 1, some ⟨g3, 0, none⟩, c3, by omega, by go_num, by simp, rfl, by omega, HE, (fun e => by omega), by simpa using M4, b4⟩
                case measure => simp [intOf]; omega
            · obtain rfl : j = P.length := by omega
              rw [List.drop_length, List.append_nil] at HJ
              by_cases hall : R.length = P.length
              · rw [hall, List.drop_length, List.append_nil] at M
                obtain ⟨_, hpos⟩ := HR.out hall
                have hfl := (HR.out hall).1
                rw [hall]
                have hR0 : 0 < R.length := by omega
                have hr0 : R.getD 0 0 ∈ R := by simp [List.getD, hR0]
                have q1 := (M.atP 0 hP hall).1
                have HN : Hid (∀ z ∈ R, 0 ≤ z ∧ z < k) := fun z hz => by have := HJ.out.pin z hz; exact ⟨this.1, this.2.1⟩
                have hpin0 := HN.out _ hr0
                obtain ⟨r0, HR0⟩ : ∃ r0 : Nat, Hid ((r0 : Int) = R.getD 0 0) := ⟨(R.getD 0 0).toNat, show ((R.getD 0 0).toNat : Int) = R.getD 0 0 by omega⟩
                rw [← HR0.out] at q1 hr0 hpin0
                have hr0k : r0 < k := by omega
                have hnum4 := HJ.out.num
                have hlr := HJ.out.lr
                have HP : Hid (R.length = P.length ∧ f = fl ∧ (∀ z ∈ R, 0 < at_ rd z) ∧ (r0 : Int) ∈ R) := ⟨hall, hfl, hpos, hr0⟩
                have hopl : ops.length ≤ 2 * k + 1 := by omega
                clear hxl hall hfl hpos hr0 hR0 hRj hnum4
                go_wp2_with (first
                  | (at_builtin; refine wpList_append_lies _ rfl _ _ 38 rfl w.heap.size 42 i42 _ 2 8 Yba.underlying38 hi42 z420 z421 z422 rfl (by omega) _ ops.length _ rfl (M.rO.alloc _) ⟨wr.heap.size, 0, none⟩ 1 1 [.int .i32 (temp : Int), .int .i32 (r0 : Int)] rfl rfl (fun j u h => cell_two_new _ _ _ _ j u h) (by intro u hu; simp at hu; rcases hu with rfl | rfl <;> rfl) (by omega) (by unfold maxLen; omega) (by omega) (by have := hbel.size; simp; omega) (wr.heap.size + 1) (by simp) ?_; intro g3 c3 w3 ho3 hg3 hor3 hgl3
                     have M3 := (M.alloc (.cells #[.int .i32 (temp : Int), .int .i32 (r0 : Int)] 42)).addO ((temp : Int), (r0 : Int)) ho3 hg3
                     have b3 := (hbel.alloc hbel.size (.cells #[.int .i32 (temp : Int), .int .i32 (r0 : Int)] 42)).grown hg3 (by have := hbel.size; simp; omega) (fun j hj => (M.rO.lt j hj).1)
                     clear ho3 hg3 hor3 hgl3))
                go_loopw [106] (fun i wr => ∃ (n : Nat) (frm' : List Int), n ≤ P.length ∧ i = .int .i64 n ∧ Hid (Brk k temp n frm frm' R r0) ∧ PM w.heap.size wr gF cF gR (.slice (some ⟨gP, 0, none⟩) P.length cP) P.length (.slice (some ⟨g3, 0, none⟩) (ops.length + 1) c3) k temp frm' rd R (ops ++ [((temp : Int), (r0 : Int))]) ∧ Below w.heap.size w wr) (fun i _ => P.length - (intOf i).toNat)
                case atStart => exact ⟨0, frm, Nat.zero_le _, rfl, brk_start HJ.out.lf, M3, b3⟩
                case round =>
                  obtain ⟨n, frm', hn, rfl, HB, M5, b5⟩ := hrel
                  clear M3 b3
                  by_cases hlt4 : n < P.length
                  · have hnR : n < R.length := by rw [HP.out.1]; exact hlt4
                    have hpn := HN.out (R.getD n 0) (by simp [List.getD, hnR])
                    obtain ⟨z, HZ⟩ : ∃ z : Nat, Hid ((z : Int) = R.getD n 0) := ⟨(R.getD n 0).toNat, show ((R.getD n 0).toNat : Int) = R.getD n 0 by omega⟩
                    rw [← HZ.out] at hpn
                    have hzk : z < k := by omega
                    have p1 := (M5.atP n hlt4 HP.out.1).1
                    rw [← HZ.out] at p1
                    obtain ⟨p2, p2f⟩ := M5.atF z hzk HB.out.len
                    obtain ⟨y, HY⟩ : ∃ y, Hid (y = frm'.getD z 0) := ⟨_, rfl⟩
                    rw [← HY.out] at p2
                    have hatz : at_ frm' (R.getD n 0) = y := by rw [← HZ.out, at_nat]; exact HY.out.symm
                    by_cases hy : y = r0
                    · have HB2 : Hid (Brk k temp (n + 1) frm (frm'.set z (temp : Int)) R r0) := by
                        have := brk_set HB.out HJ.out.nd HN.out hnR (hatz.trans hy)
                        rw [← HZ.out] at this
                        exact this
                      have M6 := M5.setF z temp
                      have b6 := b5.setCell (p := ⟨gF, z, none⟩) (M5.rF.lt gF rfl).1 (.int .i32 (temp : Int))
                      clear hatz HY
                      subst hy
                      go_wp2
                      go_roundw
                      case rel => exact ⟨n + 1, _, by omega, by go_num, HB2, M6, b6⟩
                      case measure => simp [intOf]; omega
                    · have HB2 : Hid (Brk k temp (n + 1) frm frm' R r0) := brk_skip HB.out (by rw [hatz]; exact hy)
                      clear hatz
                      go_wp2
                      go_roundw
                      case rel => exact ⟨n + 1, _, by omega, by go_num, HB2, M5, b5⟩
                      case measure => simp [intOf]; omega
                  · obtain rfl : n = P.length := by omega
                    have p1 := M5.atR r0 (by omega) hlr
                    obtain ⟨p1c, p1f⟩ := p1
                    obtain ⟨HI2, hfl1⟩ := breaks HJ.out HP.out.2.2.2 HP.out.2.2.1 HB.out.len (brk_end HB.out (by rw [HP.out.1]; exact Nat.le_refl _))
                    have HI3 : Hid (Inv k temp src frm' R (rd.set r0 0) (ops ++ [((temp : Int), (r0 : Int))]) 0) := HI2
                    clear HI2
                    have M6 := M5.setR r0 0
                    have b6 := b5.setCell (p := ⟨gR, r0, none⟩) (M5.rR.lt gR rfl).1 (.int .i64 0)
                    have HF : Hid (f = 1) := hfl1
                    clear hfl1
                    generalize rd.getD r0 0 = u at p1c
                    go_wp2
                    go_roundg (2 * P.length + 0)
                    case measure => rw [HG.out, ← HP.out.2.1, HF.out]; omega
                    case rel => exact ⟨frm', R, rd.set r0 0, ops ++ [((temp : Int), (r0 : Int))], 0, some ⟨gP, 0, none⟩, some ⟨g3, 0, none⟩, cP, c3, by rw [HP.out.1], by rw [HP.out.1], by simp, HI3, by rw [HP.out.1]; simpa using M6, b6⟩
              · have M2 := M.shrink (r := R.length) hRj
                rw [List.take_left' rfl] at M2
                have hf1 := HJ.out.fl1
                go_wp2
                go_roundg (2 * R.length + f)
                case measure => rw [HG.out]; omega
                case rel => exact ⟨frm, R, rd, ops, f, some ⟨gP, 0, none⟩, aO, cP, cO, rfl, rfl, rfl, HJ, M2, hbel⟩
        · have hP0 : P = [] := List.eq_nil_of_length_eq_zero (by omega)
          have e0 : P.length = 0 := by omega
          rw [hP0] at HI
          have F0 := fin_start HI.out
          have rO := M.rO
          rw [e0]
          clear HI M HG hP0 e0 hP
          go_wp2
          go_loopw [5, 127] (fun vO i wr => ∃ (n : Nat) (ops : List (Int × Int)) (aO : Option Addr) (cO : Nat), n ≤ k ∧ i = .int .i64 n ∧ vO = .slice aO ops.length cO ∧ Hid (Fina k temp n src ops) ∧ wr.ownsRow w.heap.size 42 2 (.slice aO ops.length cO) ops.length (flat ops) ∧ Below w.heap.size w wr) (fun _ i _ => k - (intOf i).toNat)
          case atStart => exact ⟨0, ops, aO, cO, Nat.zero_le _, rfl, rfl, F0, rO, hbel⟩
          case round =>
            obtain ⟨n, ops, aO, cO, hn, rfl, rfl, HF, rO, hbel⟩ := hrel
            clear F0
            have hnum := HF.out.num
            by_cases hlt5 : n < k
            · have c1 : wr.cell? ⟨b, off + n, none⟩ = some (.int .i32 (src.getD n 0)) := (hbel.cell (p := ⟨b, off + n, none⟩) hb).trans (hc n hlt5)
              obtain ⟨s, HS2⟩ : ∃ s, Hid (s = src.getD n 0) := ⟨_, rfl⟩
              rw [← HS2.out] at c1
              have hat : at_ src (n : Int) = s := by rw [at_nat]; exact HS2.out.symm
              by_cases hs : s = -2
              · have HF2 : Hid (Fina k temp (n + 1) src (ops ++ [((n : Int), -2)])) := fin_add HF.out hlt5 le (hat.trans hs)
                clear hat HS2
                subst hs
                go_wp2_with (first
                  | (at_builtin; refine wpList_append_lies _ rfl _ _ 38 rfl w.heap.size 42 i42 _ 2 8 Yba.underlying38 hi42 z420 z421 z422 rfl (by omega) _ ops.length _ rfl (rO.alloc _) ⟨wr.heap.size, 0, none⟩ 1 1 [.int .i32 (n : Int), .int .i32 (-2)] rfl rfl (fun j u h => cell_two_new _ _ _ _ j u h) (by intro u hu; simp at hu; rcases hu with rfl | rfl <;> rfl) (by omega) (by unfold maxLen; omega) (by omega) (by have := hbel.size; simp; omega) (wr.heap.size + 1) (by simp) ?_; intro g3 c3 w3 ho3 hg3 hor3 hgl3
                     have b3 := (hbel.alloc hbel.size (.cells #[.int .i32 (n : Int), .int .i32 (-2)] 42)).grown hg3 (by have := hbel.size; simp; omega) (fun j hj => (rO.lt j hj).1)
                     clear hg3 hor3 hgl3))
                go_roundw
                case rel => exact ⟨n + 1, ops ++ [((n : Int), -2)], some ⟨g3, 0, none⟩, c3, by omega, by go_num, by simp, HF2, by rw [flat_snoc]; simpa using ho3, b3⟩
                case measure => simp [intOf]; omega
              · have HF2 : Hid (Fina k temp (n + 1) src ops) := fin_skip HF.out (by rw [hat]; exact hs)
                clear hat
                go_wp2
                go_roundw
                case rel => exact ⟨n + 1, ops, aO, cO, by omega, by go_num, rfl, HF2, rO, hbel⟩
                case measure => simp [intOf]; omega
            · obtain rfl : n = k := by omega
              go_wp2
              go_ret
              exact ⟨_, ops, rfl, HF.out, rO, hbel⟩
end Go.Proofs.Ybulkbwdq
