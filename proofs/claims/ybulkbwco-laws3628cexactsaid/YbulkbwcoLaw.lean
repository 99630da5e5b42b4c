/-
  LawS3628CExact, walked.
-/
import Derived.Test.YbulkbwcoRoll
namespace Go.Proofs.Ybulkbwco
open Go.RowKit Go.Maps Go.WideMaps Go.Sort
set_option linter.unusedVariables false

/-- The keys of the first k names that are not jailed. -/
def sel (S : St) (jm : Key → Bool) (k : Nat) : List Key := ((S.names.take k).map key).filter (fun x => !jm x)
theorem sel_all (S : St) (jm : Key → Bool) : (sel S jm S.names.length).mergeSort leB = roster S jm := by simp [sel, roster]
theorem sel_step (S : St) (jm : Key → Bool) (k : Nat) (hk : k < S.names.length) : sel S jm (k + 1) = ((S.names.take k).map key ++ [key (S.names.getD k ByteArray.empty)]).filter (fun x => !jm x) := by
  have e : S.names.getD k ByteArray.empty = S.names[k] := by simp [List.getD, hk]
  unfold sel
  rw [e, List.take_add_one, List.getElem?_eq_getElem hk, Option.toList_some, List.map_append]
  rfl
theorem sel_le (S : St) (jm : Key → Bool) (k : Nat) : (sel S jm k).length ≤ S.names.length := by
  unfold sel
  refine Nat.le_trans (List.length_filter_le _ _) ?_
  simp
  omega

/-- 'places[v]' with ok. -/
theorem MapI.look_ok {w : World} {b n : Nat} {pm : Key → Option Int} {D : DataW Unit} (h : MapI 3 w b n pm D) (s : ByteArray) (hs : s.size ≤ maxLen) (p : Int) (hp : pm (key s) = some p) : (Instr.lookup 29 (.map (some b)) (.string s) true).run Yba.prog w = .ok (.tuple #[.int .i64 p, .bool true]) w := by
  obtain ⟨v, ps, hrun, hv⟩ := h.own.look_ok (t := 29) (e := 3) law9 Yba.underlying29 (zero3 w) (plainElem_int Yba.underlying3 (q := .i64) (by decide)) (keyOf_string_mk Yba.underlying9 hs)
  rw [show D.atKey (.string s.data.toList) (.lit (.int .i64 0)) = _ from h.at_ (key s) p hp _] at hv
  obtain ⟨c, rfl, hc, _⟩ := plainElem_int_inv Yba.underlying3 hv
  simp only [Prod.mk.injEq] at hc
  have e : p = c := lit_inj_i hc.1
  rw [show Maps.has D (.string s.data.toList) = _ from h.has (key s), hp] at hrun
  rw [e]
  exact hrun

set_option maxRecDepth 100000 in
set_option maxHeartbeats 4000000 in
theorem law_any (av ap aj ax : Option Addr) (cv cp cj cx : Nat) (vs : List ByteArray) (ps : List Int) (js : List Bool) (xs : List ByteArray) (w : World) (hV : StrsAt w av vs) (hP : IntsAt .i64 w ap ps) (hJ : BoolsAt w aj js) (hX : StrsAt w ax xs)
    (wv : ∀ x ∈ vs, x.size ≤ maxLen) (wx : ∀ x ∈ xs, x.size ≤ maxLen) (wp : ∀ j, -9223372036854775808 ≤ ps.getD j 0 ∧ ps.getD j 0 ≤ 9223372036854775807) (lp9 : ps.length ≤ 9223372036854775807) (lj9 : js.length ≤ 9223372036854775807) (lv9 : vs.length ≤ 9223372036854775807) (lx9 : xs.length ≤ 9223372036854775807) :
    Calls Yba.prog 3 #[.slice av vs.length cv, .slice ap ps.length cp, .slice aj js.length cj, .slice ax xs.length cx] w fun e w' => e = .returned (.bool true) ∧ Below w.heap.size w w' := by
  have cB : vs.length ≤ 1024 → xs.length ≤ 1024 → _ := fun h1 h2 => build_any av ap aj ax cv cp cj cx vs ps js xs w hV hP hJ hX h1 h2 wv wx wp lp9 lj9
  clear hV hP hJ hX wv wx wp lp9 lj9
  obtain ⟨i9, hi9, z90, z91, z92⟩ := info_parts Yba.info9
  generalize vs.length = nv at *
  generalize ps.length = np at *
  generalize js.length = nj at *
  generalize xs.length = nx at *
  by_cases h1 : nv ≤ 1024
  · by_cases h2 : nx ≤ 1024
    · have cB' := cB h1 h2
      clear cB
      go_enter Yba.func3, Yba.ntmps3
      go_wp2_with fail
      refine cB'.mono ?_
      rintro e wB ⟨aN, aP, aJ, cN, cP, cJ, S, pm, jm, DP, DJ, rfl, T, hl, W, M, bB⟩
      clear cB'
      have HT : Hid (Tie S pm jm ∧ WF S) := ⟨T, W⟩
      have HPW : Hid (∀ x, -9223372036854775808 ≤ (pm x).getD 0 ∧ (pm x).getD 0 ≤ 9223372036854775807) := pm_range T W
      have hlp : S.pows.length = S.names.length := T.lp
      have hlj : S.jail.length = S.names.length := T.lj
      clear T W
      rw [hlp, hlj]
      go_wp2_with (first
        | (at_make; refine wpList_make_own _ rfl _ _ 22 rfl wB.heap.size 9 i9 (.string ⟨#[]⟩) 1 Yba.underlying22 hi9 z90 z91 _ _ _ S.names.length rfl rfl rfl (by rw [z92]; omega) (by unfold maxLen; omega) (Nat.le_refl _) ?_; intro w1 hrow1 hg1))
      have b1 : Below wB.heap.size wB w1 := (Below.refl _ wB).grown hg1 (Nat.le_refl _) (fun j hj => by cases hj)
      clear hg1
      go_loopw [13, 14] (fun v i wr => ∃ (k gW cW : Nat), k ≤ S.names.length ∧ i = .int .i64 k ∧ v = .slice (some ⟨gW, 0, none⟩) (sel S jm k).length cW ∧ wr.ownsRow wB.heap.size 9 1 (.slice (some ⟨gW, 0, none⟩) (sel S jm k).length cW) (sel S jm k).length ((sel S jm k).map encStr) ∧ Below wB.heap.size wB wr) (fun _ i _ => S.names.length - (intOf i).toNat)
      case atStart => exact ⟨0, _, _, Nat.zero_le _, rfl, rfl, hrow1, b1⟩
      case round =>
        obtain ⟨k, gW, cW, hk, rfl, rfl, hrow, hbel⟩ := hrel
        have MW := M.below hbel
        have hselk := sel_le S jm k
        clear hrow1 b1
        by_cases hlt : k < S.names.length
        · have hkN : 0 < S.names.length := by omega
          obtain ⟨gN, rfl, hgN⟩ := row_form M.rN hkN
          obtain ⟨gJ, rfl, hgJ⟩ := row_form M.rJ (by rw [hlj]; exact hkN)
          have qN : wr.cell? ⟨gN, k, none⟩ = some (.string (S.names.getD k ByteArray.empty)) := by
            rw [MW.rN.cellAt k (by omega)]
            simp [List.getD, hlt]
          have qJ := (MW.cellJ (k := k) (by rw [hlj]; exact hlt)).1
          rw [← HT.out.1.jl k hlt] at qJ
          have hst := sel_step S jm k hlt
          generalize S.names.getD k ByteArray.empty = s at *
          cases hj : jm (key s)
          · rw [filter_snoc_true (fun x => !jm x) _ _ (by simp [hj])] at hst
            have hst' : sel S jm (k + 1) = sel S jm k ++ [key s] := hst
            rw [hj] at qJ
            clear hj hst
            have HS : Hid (sel S jm (k + 1) = sel S jm k ++ [key s]) := hst'
            clear hst'
            generalize sel S jm k = ss at *
            go_wp2_with (first
              | (at_builtin; refine wpList_append_lies _ rfl _ _ 22 rfl wB.heap.size 9 i9 _ 1 16 Yba.underlying22 hi9 z90 z91 z92 rfl (by omega) _ _ _ rfl (hrow.alloc _) ⟨wr.heap.size, 0, none⟩ 1 1 [Value.string s] rfl rfl (cell_one_new _ _ _) (by intro u hu; simp at hu; subst hu; rfl) (by omega) (by unfold maxLen; omega) (by omega) (by have := hbel.size; simp; omega) (wr.heap.size + 1) (by simp) ?_; intro g3 c3 w3 ho3 hg3 hor hgl
                 have hg3' : (wr.alloc (.cells #[.string s] 9)).grownBy w3 (some gW) := hg3
                 clear hg3 hor))
            have hgw := (hrow.lt gW rfl).1
            have hb3 := (hbel.alloc hbel.size (.cells #[.string s] 9)).grown hg3' (by have := hbel.size; simp; omega) (fun j hj => by cases hj; exact hgw)
            go_roundw
            case rel =>
              refine ⟨k + 1, g3, c3, by omega, by go_num, by rw [HS.out]; simp, ?_, hb3⟩
              rw [HS.out]
              simpa [encKey] using ho3
            case measure => simp [intOf]; omega
          · rw [filter_snoc_false (fun x => !jm x) _ _ (by simp [hj])] at hst
            have hst' : sel S jm (k + 1) = sel S jm k := hst
            rw [hj] at qJ
            clear hj hst
            rw [← hst'] at hrow ⊢
            clear hst'
            go_wp2
            go_roundw
            case rel => exact ⟨k + 1, gW, cW, by omega, by go_num, rfl, hrow, hbel⟩
            case measure => simp [intOf]; omega
        · obtain rfl : k = S.names.length := by omega
          have hros := sel_all S jm
          rcases hrow.2 with ⟨hnil, _⟩ | ⟨g', cap', cur, hv', hbase, hb, h1', h2', h3', h4'⟩
          · cases hnil
          cases hv'
          have hH : Holds encStr wr gW 0 (sel S jm S.names.length).toArray := holds_of_block hb (by simpa using h4')
          have hgl : gW < wr.heap.size := (Array.getElem?_eq_some_iff.1 hb).1
          have hc := Yba.slices_Sort_string gW 0 cW (sel S jm S.names.length) wr hH hgl (Nat.lt_of_le_of_lt hselk (by omega))
          have hlen : (roster S jm).length = (sel S jm S.names.length).length := by rw [← hros, List.length_mergeSort]
          have hn : (roster S jm).length ≤ 1024 := Nat.le_trans (roster_le S jm) hl
          have hA : ∀ w', (∃ nn os, w' = grow (putRow encStr (Sort.ahead wr nn) gW 0 ((sel S jm S.names.length).mergeSort fun x y => decide (x ≤ y)).toArray) os) →
              w'.ownsRow wB.heap.size 9 1 (.slice (some ⟨gW, 0, none⟩) (roster S jm).length cW) (roster S jm).length ((roster S jm).map encStr) ∧ Below wB.heap.size wB w' := by
            rintro w' ⟨nn, os, rfl⟩
            have hgs := grownBy_sorted (w := wr) (g := gW) (n := nn) (os := os) (((sel S jm S.names.length).mergeSort fun x y => decide (x ≤ y)).toArray)
            refine ⟨?_, hbel.grown hgs hbel.size (fun j hj => by cases hj; exact hbase)⟩
            have := ownsRow_sorted (n := nn) (os := os) (ss := sel S jm S.names.length) (ts := (sel S jm S.names.length).mergeSort fun x y => decide (x ≤ y)) (by simp) hbase hb h1' h2' h3'
            rw [hlen, ← hros]
            exact this
          rw [← hlen] at hc ⊢
          clear hrow hH hros h1' h2' h3' h4' hb hbase hgl hlen hselk hbel MW
          generalize (sel S jm S.names.length).mergeSort (fun x y => decide (x ≤ y)) = srt at *
          go_wp2_with fail
          refine hc.mono ?_
          rintro e w2 ⟨rfl, hw2⟩
          obtain ⟨hrow2, hbel2⟩ := hA w2 hw2
          clear hw2 hA hc
          have M2 := M.below hbel2
          have hd : Hid ((roster S jm).Nodup ∧ (∀ x, x ∈ roster S jm → x ∈ S.names.map key)) := ⟨roster_nodup HT.out.1, fun x hx => (roster_mem.1 hx).1⟩
          have cR := roll_any w.heap.size aN aP aJ cN cP cJ S pm jm DP DJ w2 M2 HT.out.1 HT.out.2 hl
          generalize roster S jm = L at *
          go_wp2_with fail
          refine cR.mono ?_
          rintro e w3 ⟨q, pT, g, cap, bm, gp, vT, DM, C, rfl, R, bR⟩
          clear cR
          generalize hnL : L.length = n at *
          have hrow3 := hrow2.kept (⟨bR.os, bR.tape, bR.output, bR.size, fun k hk _ => bR.block k hk⟩ : w2.grownBy w3 none) (.inr (by simp [Value.ownBlock]))
          have b3 := hbel2.trans (weakB bR hbel2.size)
          clear hrow2 hbel2 bR M2
          have S4 := Blk.new w3 #[.slice (some ⟨g, 0, none⟩) n cap, .map (some bm), .slice (some ⟨gp, 0, none⟩) n n, .pointer (some ⟨pT, 0, none⟩)] 33
          have bl4 := (Below.refl w3.heap.size w3).alloc (Nat.le_refl _) (.cells #[.slice (some ⟨g, 0, none⟩) n cap, .map (some bm), .slice (some ⟨gp, 0, none⟩) n n, .pointer (some ⟨pT, 0, none⟩)] 33)
          have R4 := R.below bl4
          have s0 := S4.cell 0
          have s1 := S4.cell 1
          have s2 := S4.cell 2
          have s3 := S4.cell 3
          have hml : ∀ ty, _ := fun ty => R4.mm.own.len Yba.underlying29 ty
          rw [R4.ms] at hml
          go_wp2
          have row4 := hrow3.alloc (.cells #[.slice (some ⟨g, 0, none⟩) n cap, .map (some bm), .slice (some ⟨gp, 0, none⟩) n n, .pointer (some ⟨pT, 0, none⟩)] 33)
          have b4 := b3.trans (weakB bl4 b3.size)
          have z4 : (w3.alloc (.cells #[.slice (some ⟨g, 0, none⟩) n cap, .map (some bm), .slice (some ⟨gp, 0, none⟩) n n, .pointer (some ⟨pT, 0, none⟩)] 33)).heap.size = w3.heap.size + 1 := by simp
          clear s0 s1 s2 s3 hml hrow3 b3 bl4 R
          generalize w3.alloc (.cells #[.slice (some ⟨g, 0, none⟩) n cap, .map (some bm), .slice (some ⟨gp, 0, none⟩) n n, .pointer (some ⟨pT, 0, none⟩)] 33) = w4 at *
          generalize w3.heap.size = q4 at *
          have Z4 : Hid (w4.heap.size = q4 + 1) := z4
          have I0 : IntIs (w4.alloc (.cells #[.bool false, .slice none 0 0] 38)) (q4 + 1) (.slice none 0 0) 0 := by
            have := Blk.new w4 #[.bool false, .slice none 0 0] 38
            rw [z4] at this
            exact ⟨by simpa [Blk] using this, by simp [mag], .inl ⟨by simp [mag], rfl⟩⟩
          have B0 := (Below.refl w4.heap.size w4).alloc (Nat.le_refl _) (.cells #[.bool false, .slice none 0 0] 38)
          have M4 := M.below b4
          have HNL : Hid (L.length = n) := hnL
          clear z4 hnL
          go_loopw [17] (fun i wr => ∃ (k : Nat) (vS : Value), k ≤ n ∧ i = .int .i64 k ∧ IntIs wr (q4 + 1) vS (psum (fun x => (pm x).getD 0) L k) ∧ (∀ g, vS.ownBlock = some g → q4 + 1 ≤ g) ∧ Below w4.heap.size w4 wr) (fun i _ => n - (intOf i).toNat)
          case atStart => exact ⟨0, _, Nat.zero_le _, rfl, I0, (fun g hg => by cases hg), B0⟩
          case round =>
            obtain ⟨k, vS, hk, rfl, IS, hvS, hbel⟩ := hrel
            clear I0 B0
            have R5 := R4.below hbel
            have S5 : Blk wr q4 _ 33 := S4.turned (Turned.of_below (S := fun _ => False) (B := 0) hbel) (fun h => h)
            have s0 := S5.cell 0
            have s1 := S5.cell 1
            have s2 := S5.cell 2
            have s3 := S5.cell 3
            by_cases hlt : k < n
            · have hltL : k < L.length := by rw [HNL.out]; exact hlt
              obtain ⟨s, hs⟩ := key_ex (L.getD k [])
              have hmem : key s ∈ S.names.map key := by rw [← hs]; exact hd.out.2 _ (by simp [List.getD, hltL])
              obtain ⟨x, hx1, hx2⟩ := List.mem_map.1 hmem
              have hsl : s.size ≤ maxLen := by
                have := HT.out.2.2 x hx1
                have e : (key x).length = (key s).length := by rw [hx2]
                simp [key] at e
                omega
              have M5 := M4.below hbel
              have row5 := row4.kept (⟨hbel.os, hbel.tape, hbel.output, hbel.size, fun k hk _ => hbel.block k hk⟩ : w4.grownBy wr none) (.inr (by simp [Value.ownBlock]))
              have c1 : wr.cell? ⟨gW, k, none⟩ = some (.string s) := by
                rw [row5.cellAt k (by omega), ← encKey, ← hs]
                simp [List.getD, hltL]
              have c2 : wr.cell? ⟨g, k, none⟩ = some (.string s) := by
                rw [R5.rn.cellAt k (by omega), ← encKey, ← hs]
                simp [List.getD, hltL]
              have lk := R5.mm.look_ok s hsl k (by rw [← hs]; exact plc_at hd.out.1 hlt (by rw [HNL.out]; exact Nat.le_refl _))
              have cI := index8 aN cN S.names s wr M5.strs (by omega)
              obtain ⟨p5, v5, hc5, I5, ne5, ap5⟩ := R5.ps k hlt
              have c5 := (R5.bc.cell k).trans hc5
              rcases pos_cases S.names s with ⟨hpos, hno⟩ | ⟨i, hi, hpos, hei⟩
              · exact absurd (by rw [key_toList, key_toList, hx2]) (hno x hx1)
              rw [hpos] at cI
              have hpwi : (pm (L.getD k [])).getD 0 = S.pows.getD i 0 := by
                rw [hs, show key s = key (S.names.getD i ByteArray.empty) by rw [← key_toList, ← key_toList]; exact hei, HT.out.1.pw i hi]
                rfl
              have hir : -9223372036854775808 ≤ S.pows.getD i 0 ∧ S.pows.getD i 0 ≤ 9223372036854775807 := HT.out.2.1 _ (by simp [List.getD, show i < S.pows.length by omega])
              have hmT := mag_lt (fun x => (pm x).getD 0) L HPW.out k (by omega)
              obtain ⟨gP, rfl, hgP⟩ := row_form M.rP (by omega)
              have c6 := (M5.cellP (k := i) (by omega)).1
              rw [hpwi] at I5
              have HPI : Hid (psum (fun x => (pm x).getD 0) L (k + 1) = psum (fun x => (pm x).getD 0) L k + S.pows.getD i 0) := by show psum _ L k + (pm (L.getD k [])).getD 0 = _; rw [hpwi]
              have hmY := mag_one hir
              clear hx1 hx2 hmem hc5 hpwi hei hs hpos
              generalize S.pows.getD i 0 = y at *
              go_wp2_with fail
              refine cI.mono ?_
              rintro e w' ⟨rfl, rfl⟩
              clear cI
              go_wp2_with fail
              refine (newInt_any y hir.1 hir.2 _).mono ?_
              rintro e w6 ⟨p6, v6, rfl, I6, b6, l6, l6'⟩
              have hbel6 := hbel.trans (weakB b6 hbel.size)
              have S6 : Blk w6 q4 _ 33 := S4.turned (Turned.of_below (S := fun _ => False) (B := 0) hbel6) (fun h => h)
              have s62 := S6.cell 2
              have c56 : w6.cell? ⟨gp, k, none⟩ = some (.pointer (some ⟨p5, 0, none⟩)) := (b6.cell (p := ⟨gp, k, none⟩) R5.bc.lt).trans c5
              have J5 := I5.bel b6
              have hne : (p5 == p6) = false := by have := I5.lt; simp; omega
              have JS := IS.bel b6
              go_wp2_with fail
              refine (cmp_any p5 p6 v5 v6 y _ J5 I6 hne).mono ?_
              rintro e w7 ⟨rfl, t7⟩
              have KS := JS.turned t7 (fun h => h) (fun _ _ h => h)
              have K6 := I6.turned t7 (fun h => h) (fun _ _ h => h)
              have hneS : q4 + 1 ≠ p6 := by have := IS.lt; omega
              have hapS := apart_new IS.nat l6'
              go_wp2_with fail
              refine (add_any (q4 + 1) p6 vS v6 _ y _ KS K6 hneS hmT hmY hapS).mono ?_
              rintro e w8 ⟨rfl, v8, s8⟩
              have hbel7 := hbel6.trans (⟨t7.os, t7.tape, t7.output, t7.size, fun j hj => t7.block j (Nat.lt_of_lt_of_le hj hbel6.size) (fun h => h)⟩ : Below w4.heap.size w6 w7)
              have hbel8 := hbel7.trans (⟨s8.turned.os, s8.turned.tape, s8.turned.output, s8.turned.size, fun j hj => s8.turned.block j (Nat.lt_of_lt_of_le hj hbel7.size) (by
                have := Z4.out
                rintro (e | e)
                · omega
                · have := hvS j e; omega)⟩ : Below w4.heap.size w7 w8)
              have hv8 : ∀ g, v8.ownBlock = some g → q4 + 1 ≤ g := fun j hj => by
                rcases s8.place with e | ⟨j', e, hj'⟩
                · exact hvS j (e ▸ hj)
                · rw [e] at hj; cases hj
                  have := hbel7.size
                  have := Z4.out
                  omega
              have I8 := s8.int
              rw [← HPI.out] at I8
              clear s8 KS K6 JS J5 I6 s62 c56 S6 c5 c6 lk c1 c2 row5 M5
              go_wp2
              go_roundw
              case rel => exact ⟨k + 1, v8, by omega, by go_num, I8, hv8, hbel8⟩
              case measure => simp [intOf]; omega
            · obtain rfl : k = n := by omega
              have cC : ∀ W, Below wr.heap.size wr W → Calls Yba.prog 10 #[.pointer (some ⟨pT, 0, none⟩), .pointer (some ⟨q4 + 1, 0, none⟩)] W fun e w' => e = .returned (.int .i64 0) ∧ Turned W w' (fun _ => False) := fun W hW =>
                cmp_any pT (q4 + 1) vT vS _ W (R5.tot.bel hW) (IS.bel hW) (by have := R4.tot.lt; have := Z4.out; simp; omega)
              go_wp2_with fail
              refine (cC _ (Below.refl _ _)).mono ?_
              rintro e w5 ⟨rfl, t5⟩
              go_wp2
              go_ret
              exact ⟨rfl, (bB.trans (weakB (b4.trans (weakB hbel b4.size)) bB.size)).trans ⟨t5.os, t5.tape, t5.output, t5.size, fun k hk => t5.block k (by have := bB.size; have := b4.size; have := hbel.size; omega) (fun h => h)⟩⟩
    · clear cB
      go_enter Yba.func3, Yba.ntmps3
      go_wp2
      all_goals (go_ret; exact ⟨rfl, Below.refl _ _⟩)
  · clear cB
    go_enter Yba.func3, Yba.ntmps3
    go_wp2
    all_goals (go_ret; exact ⟨rfl, Below.refl _ _⟩)
end Go.Proofs.Ybulkbwco
