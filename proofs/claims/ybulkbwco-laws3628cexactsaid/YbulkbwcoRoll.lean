/-
  activeRoll, walked.
-/
import Derived.Test.YbulkbwcoRl
namespace Go.Proofs.Ybulkbwco
open Go.RowKit Go.Maps Go.WideMaps Go.Sort
set_option linter.unusedVariables false

theorem Yba.info31 : (Yba.prog.info? 31).map (fun i => (i.zero, i.size, i.bytes)) = some (some (.pointer none), 1, 8) := by kernel_rfl
theorem size33 : (Yba.prog.info? 33).map (·.size) = some 4 := by kernel_rfl
theorem run_mapN (n : Nat) (w : World) : (Instr.makeMap 29 (some (.int .i64 (n : Int)))).run Yba.prog w = .ok (.map (some w.heap.size)) (w.alloc (.map #[] 0)) := by
  simp [Instr.makeMap, asInt, asIntOf, Result.andThen]
theorem roster_le (S : St) (jm : Key → Bool) : (roster S jm).length ≤ S.names.length := by
  unfold roster
  rw [List.length_mergeSort]
  exact Nat.le_trans (List.length_filter_le _ _) (by simp)
theorem roster_nodup {S : St} {pm : Key → Option Int} {jm : Key → Bool} (T : Tie S pm jm) : (roster S jm).Nodup :=
  (List.mergeSort_perm _ _).nodup_iff.2 (T.nd.filter _)
theorem roster_mem {S : St} {jm : Key → Bool} {x : Key} : x ∈ roster S jm ↔ x ∈ S.names.map key ∧ jm x = false := by
  unfold roster
  rw [(List.mergeSort_perm _ _).mem_iff, List.mem_filter]
  simp

theorem pm_range {S : St} {pm : Key → Option Int} {jm : Key → Bool} (T : Tie S pm jm) (W : WF S) (x : Key) : -9223372036854775808 ≤ (pm x).getD 0 ∧ (pm x).getD 0 ≤ 9223372036854775807 := by
  cases hx : pm x with
  | none => simp
  | some p =>
    have hm := (T.has x).1 (by rw [hx]; rfl)
    obtain ⟨y, hy, hyx⟩ := List.mem_map.1 hm
    obtain ⟨i, hi, hie⟩ := List.getElem_of_mem hy
    have := T.pw i hi
    rw [show S.names.getD i ByteArray.empty = y by simp [List.getD, hi, hie], hyx, hx] at this
    have hip : i < S.pows.length := by rw [T.lp]; exact hi
    have hp := W.1 (S.pows.getD i 0) (by simp [List.getD, hip])
    simp only [Option.getD_some]
    rw [Option.some.inj this]
    exact hp
/-- The result's own block, as it is made. -/
def A33 : Obj := .cells #[.slice none 0 0, .map none, .slice none 0 0, .pointer none] 33
theorem bw {w w' : World} (h : Below (w.heap.size + 1) (w.alloc A33) w') : Below w.heap.size w w' :=
  ((Below.refl w.heap.size w).alloc (Nat.le_refl _) A33).trans ⟨h.os, h.tape, h.output, h.size, fun k hk => h.block k (by omega)⟩
theorem weakB {a b : Nat} {w w' : World} (h : Below b w w') (hab : a ≤ b) : Below a w w' := ⟨h.os, h.tape, h.output, h.size, fun k hk => h.block k (by omega)⟩
theorem bsz {w w' : World} (h : Below (w.heap.size + 1) (w.alloc A33) w') : w.heap.size + 1 ≤ w'.heap.size := by
  have := h.size
  simpa using this

set_option maxRecDepth 100000 in
set_option maxHeartbeats 4000000 in
theorem roll_any (B : Nat) (aN aP aJ : Option Addr) (cN cP cJ : Nat) (S : St) (pm : Key → Option Int) (jm : Key → Bool) (DP DJ : DataW Unit) (w : World) (M : Mem w B aN aP aJ cN cP cJ S pm jm DP DJ 4096) (T : Tie S pm jm) (W : WF S) (hl : S.names.length ≤ 1024) :
    Calls Yba.prog 7 #[.pointer (some ⟨B + 1 + 1, 0, none⟩)] w fun e w' => ∃ (q pT g cap bm gp : Nat) (vT : Value) (DM : DataW Unit) (C : Array Value), e = .returned (.agg #[.slice (some ⟨g, 0, none⟩) (roster S jm).length cap, .map (some bm), .slice (some ⟨gp, 0, none⟩) (roster S jm).length (roster S jm).length, .pointer (some ⟨pT, 0, none⟩)]) ∧
      Rl (w.heap.size + 1) w' q pT g cap bm gp (roster S jm).length (roster S jm) (fun x => (pm x).getD 0) (roster S jm).length (roster S jm).length (roster S jm).length vT DM C ∧ Below w.heap.size w w' := by
  have HT : Hid (Tie S pm jm ∧ WF S) := ⟨T, W⟩
  have HPW : Hid (∀ x, -9223372036854775808 ≤ (pm x).getD 0 ∧ (pm x).getD 0 ≤ 9223372036854775807) := pm_range T W
  clear T W
  obtain ⟨i9, hi9, z90, z91, z92⟩ := info_parts Yba.info9
  obtain ⟨i31, hi31, z310, z311, z312⟩ := info_parts Yba.info31
  have hsz := M.mp.own.size_le
  have hB := M.sz
  have k3 := M.c3
  have k4 := M.c4
  have k3a : ∀ o, (w.alloc o).cell? ⟨B + 1 + 1, 18, none⟩ = some (.map (some B)) := fun o => (M.below ((Below.refl _ w).alloc (Nat.le_refl _) o)).c3
  go_enter Yba.func7, Yba.ntmps7
  go_wp2_with (first
    | (at_len; refine wpList_len_own _ rfl _ 52 rfl 9 2 Yba.underlying52 _ B 4096 _ rfl (M.mp.own.alloc _) ?_)
    | (at_make; refine wpList_make_own _ rfl _ _ 22 rfl (w.heap.size + 1) 9 i9 (.string ⟨#[]⟩) 1 Yba.underlying22 hi9 z90 z91 _ _ _ (Maps.size DP) rfl rfl rfl (by rw [z92]; omega) (by unfold maxLen; omega) (by simp) ?_; intro w1 hrow1 hg1
       have M1 : Mem w1 B aN aP aJ cN cP cJ S pm jm DP DJ 4096 := M.below (((Below.refl _ w).alloc (Nat.le_refl _) _).grown hg1 (by simp) (fun j hj => by cases hj))
       have k31 : ∀ o1 o2, ((w1.alloc o1).alloc o2).cell? ⟨B + 1 + 1, 18, none⟩ = some (.map (some B)) := fun o1 o2 => (M1.below (((Below.refl _ w1).alloc (Nat.le_refl _) o1).alloc (by simp) o2)).c3)
    | (at_range; refine wpList_range_own _ rfl _ 52 rfl 9 2 law9 Yba.underlying52 _ B 4096 _ rfl ((M1.mp.own.alloc _).alloc _) ?_; intro w0 hrg0 hg0 hs0))
  go_frame
  have st0 : Blk w0 (w1.heap.size + 1) #[.slice (some ⟨w.heap.size + 1, 0, none⟩) 0 (size DP), .map none, .slice none 0 0, .pointer (some ⟨w1.heap.size, 0, none⟩)] 33 := by
    have := Blk.new (w1.alloc (Obj.cells #[Value.bool false, Value.slice none 0 0] 38)) #[.slice (some ⟨w.heap.size + 1, 0, none⟩) 0 (size DP), .map none, .slice none 0 0, .pointer (some ⟨w1.heap.size, 0, none⟩)] 33
    simp only [World.size_alloc] at this
    exact this.grown hg0 (by simp)
  have hszw : w.heap.size + 1 ≤ w1.heap.size := by have := hg1.size; simpa using this
  have tt0 : Blk w0 w1.heap.size #[.bool false, .slice none 0 0] 38 := ((Blk.new w1 _ _).alloc _).grown hg0 (by simp)
  have row0 : w0.ownsRow (w.heap.size + 1) 9 1 (.slice (some ⟨w.heap.size + 1, 0, none⟩) 0 (size DP)) 0 [] := by
    have := ((hrow1.alloc (Obj.cells #[Value.bool false, Value.slice none 0 0] 38)).alloc (Obj.cells #[.slice (some ⟨w.heap.size + 1, 0, none⟩) 0 (size DP), .map none, .slice none 0 0, .pointer (some ⟨w1.heap.size, 0, none⟩)] 33)).kept hg0 (Or.inr (by simp [Value.ownBlock]))
    simpa using this
  have bel0 : Below (w.heap.size + 1) (w.alloc A33) w0 := by
    have b1 : Below (w.heap.size + 1) (w.alloc A33) w1 := (Below.refl _ (w.alloc A33)).grown hg1 (by simp) (fun j hj => by cases hj)
    exact ((b1.alloc (by omega) _).alloc (by simp; omega) _).grown hg0 (by simp; omega) (fun j hj => by cases hj)
  simp only [World.size_alloc] at hrg0 hs0 ⊢
  have hs0' : w0.heap.size = w1.heap.size + 1 + 1 + 1 := hs0
  clear hs0 hrow1 hg0 k31 k3a
  go_loopw [4] (fun _ wr => ∃ (left : Lit → Bool) (cnt : Nat) (met : List Key) (g cap : Nat), wr.ranges Yba.prog 9 (plainElem (H := Unit) Yba.prog 2) B (w1.heap.size + 1 + 1) 4096 DP left cnt ∧ met.length + cnt ≤ size DP ∧
      wr.ownsRow (w.heap.size + 1) 9 1 (.slice (some ⟨g, 0, none⟩) (met.filter (fun x => !jm x)).length cap) (met.filter (fun x => !jm x)).length ((met.filter (fun x => !jm x)).map encStr) ∧
      Blk wr (w1.heap.size + 1) #[.slice (some ⟨g, 0, none⟩) (met.filter (fun x => !jm x)).length cap, .map none, .slice none 0 0, .pointer (some ⟨w1.heap.size, 0, none⟩)] 33 ∧ Blk wr w1.heap.size #[.bool false, .slice none 0 0] 38 ∧ Hid (Collected DP left met) ∧ Below (w.heap.size + 1) (w.alloc A33) wr)
    (fun _ wr => wr.rangeLeft B (w1.heap.size + 1 + 1))
  case atStart => exact ⟨_, _, [], w.heap.size + 1, size DP, hrg0, by simp, row0, st0, tt0, Collected.start DP, bel0⟩
  case round =>
    obtain ⟨left, cnt, met, g, cap, hrg, hcs, hrow, hst, htt, hC, hbel⟩ := hrel
    clear hrg0 row0 st0 tt0 bel0
    have MW : Mem wr B aN aP aJ cN cP cJ S pm jm DP DJ 4096 := M.below (bw hbel)
    go_wp2_with (first
      | (at_next; refine wpList_next_ranges _ rfl _ rfl 9 law9 (plainElem Yba.prog 2) encStr (Value.int .i64) (fun key kl hk => by obtain ⟨x, hx, _⟩ := Maps.keyOf_str Yba.underlying9 hk; exact ⟨x, hx⟩) (fun v y hv => by obtain ⟨c, rfl, _⟩ := plainElem_int_inv Yba.underlying2 hv; exact ⟨c, rfl⟩) B (w1.heap.size + 1 + 1) 4096 _ _ _ rfl hrg ?_ ?_))
    · intro hc0 hl0
      have hros := roster_of HT.out.1 M.mp.has hC.out hl0
      rcases hrow.2 with ⟨hnil, _⟩ | ⟨g', cap', cur, hv', hbase, hb, h1, h2, h3, h4⟩
      · cases hnil
      cases hv'
      have hfl : (met.filter (fun x => !jm x)).length ≤ met.length := List.length_filter_le _ _
      have hH : Holds encStr wr g 0 (met.filter (fun x => !jm x)).toArray := holds_of_block hb (by simpa using h4)
      have hgl : g < wr.heap.size := (Array.getElem?_eq_some_iff.1 hb).1
      have hc := Yba.slices_Sort_string g 0 cap (met.filter (fun x => !jm x)) wr hH hgl (Nat.lt_of_le_of_lt hfl (by omega))
      have hlen : (roster S jm).length = (met.filter (fun x => !jm x)).length := by rw [← hros, List.length_mergeSort]
      have hne1 := row_blk hrow hst (by decide)
      have hne2 := row_blk hrow htt (by decide)
      have hn : (roster S jm).length ≤ 1024 := Nat.le_trans (roster_le S jm) hl
      have hA : ∀ w', (∃ nn os, w' = grow (putRow encStr (Sort.ahead wr nn) g 0 ((met.filter (fun x => !jm x)).mergeSort fun x y => decide (x ≤ y)).toArray) os) → 
          w'.ownsRow (w.heap.size + 1) 9 1 (.slice (some ⟨g, 0, none⟩) (roster S jm).length cap) (roster S jm).length ((roster S jm).map encStr) ∧ Blk w' (w1.heap.size + 1) #[.slice (some ⟨g, 0, none⟩) (roster S jm).length cap, .map none, .slice none 0 0, .pointer (some ⟨w1.heap.size, 0, none⟩)] 33 ∧ Blk w' w1.heap.size #[.bool false, .slice none 0 0] 38 ∧ Below (w.heap.size + 1) (w.alloc A33) w' := by
        rintro w' ⟨nn, os, rfl⟩
        have hgs := grownBy_sorted (w := wr) (g := g) (n := nn) (os := os) (((met.filter (fun x => !jm x)).mergeSort fun x y => decide (x ≤ y)).toArray)
        refine ⟨?_, ?_, htt.grown hgs hne2, hbel.grown hgs (bsz hbel) (fun j hj => by cases hj; exact hbase)⟩
        · have := ownsRow_sorted (n := nn) (os := os) (ss := met.filter (fun x => !jm x)) (ts := (met.filter (fun x => !jm x)).mergeSort fun x y => decide (x ≤ y)) (by simp) hbase hb h1 h2 h3
          rw [hlen, ← hros]
          exact this
        · rw [hlen]
          exact hst.grown hgs hne1
      have q0 := hst.cell 0
      have q0f := hst.free 0
      rw [← hlen] at q0 hc
      clear hrg hcs hrow hst htt hC hbel MW hH hros h1 h2 h3 h4 hb hbase hgl hfl hlen hne1 hne2
      generalize (met.filter (fun x => !jm x)).mergeSort (fun x y => decide (x ≤ y)) = srt at *
      have hd : Hid ((roster S jm).Nodup ∧ ∀ x, x ∈ roster S jm → x ∈ S.names.map key) := ⟨roster_nodup HT.out.1, fun x hx => (roster_mem.1 hx).1⟩
      generalize hLe : roster S jm = L at *
      have HLe : Hid (roster S jm = L) := hLe
      clear hLe
      clear hl0 hc0
      have hmk : ∀ W : World, (Instr.makeSlice 30 (.int .i64 (L.length : Int)) (.int .i64 (L.length : Int))).run Yba.prog W = .ok (.slice (some ⟨W.heap.size, 0, none⟩) L.length L.length) (W.alloc (.cells (madeCells #[.pointer none] L.length) 31)) := fun W => run_make_row' 30 31 (.pointer none) 8 Yba.underlying30 Yba.info31 rfl .i64 .i64 L.length (by omega) (by omega) W
      go_wp2_with fail
      refine hc.mono ?_
      rintro e w2 ⟨rfl, hw2⟩
      obtain ⟨hrow2, hst2, htt2, hbel2⟩ := hA w2 hw2
      clear hw2 hA hc q0 q0f
      have q0 := hst2.cell 0
      have hmm := run_mapN L.length
      have s1 := hst2.alloc (.map #[] 0)
      have s1c := s1.cell 1
      have s1f := s1.free 1
      have s2 := s1.set 1 (.map (some w2.heap.size))
      have s2c := s2.cell 0
      have s3 := s2.alloc (.cells (madeCells #[.pointer none] L.length) 31)
      have s3c := s3.cell 2
      have s3f := s3.free 2
      have s4 := s3.set 2 (.slice (some ⟨w2.heap.size + 1, 0, none⟩) L.length L.length)
      have s4c := s4.cell 0
      go_wp2
      obtain ⟨R0, b0⟩ := rl_start (pw := fun x => (pm x).getD 0) hst2 htt2 hrow2 (by omega) (by omega) (bsz hbel2) rfl
      have B0 := hbel2.trans b0
      clear b0 hst2 htt2 hrow2 hmm hmk s1 s1c s1f s2 s2c s3 s3c s3f s4 s4c q0
      have hsz2 := (bsz hbel2)
      generalize w2.heap.size = bm at *
      go_loopw [53] (fun i wr => ∃ (k : Nat) (vT : Value) (DM : DataW Unit) (C : Array Value), k ≤ L.length ∧ i = .int .i64 k ∧ Rl (w.heap.size + 1) wr (w1.heap.size + 1) w1.heap.size g cap bm (bm + 1) L.length L (fun x => (pm x).getD 0) k k k vT DM C ∧ Below (w.heap.size + 1) (w.alloc A33) wr) (fun i _ => L.length - (intOf i).toNat)
      case atStart => exact ⟨0, _, _, _, Nat.zero_le _, rfl, R0, B0⟩
      case round =>
        obtain ⟨k, vT, DM, C, hk, rfl, R, hbel⟩ := hrel
        clear R0 B0
        by_cases hlt : k < L.length
        · obtain ⟨s, hs⟩ := key_ex (L.getD k [])
          have hmem : key s ∈ S.names.map key := by rw [← hs]; exact hd.out.2 _ (by simp [List.getD, hlt])
          obtain ⟨x, hx1, hx2⟩ := List.mem_map.1 hmem
          have hsl : s.size ≤ maxLen := by
            have := HT.out.2.2 x hx1
            have e : (key x).length = (key s).length := by rw [hx2]
            simp [key] at e
            omega
          have hpm : (pm (key s)).isSome = true := (HT.out.1.has _).2 hmem
          obtain ⟨p, hp⟩ := Option.isSome_iff_exists.1 hpm
          have hpr : -9223372036854775808 ≤ p ∧ p ≤ 9223372036854775807 := by
            obtain ⟨i, hi, hie⟩ := List.getElem_of_mem hx1
            have := HT.out.1.pw i hi
            rw [show S.names.getD i ByteArray.empty = x by simp [List.getD, hi, hie], hx2, hp] at this
            have hip : i < S.pows.length := by rw [HT.out.1.lp]; exact hi
            refine HT.out.2.1 p ?_
            rw [Option.some.inj this]
            simp [List.getD, hip]
          have hpk : (fun x => (pm x).getD 0) (L.getD k []) = p := by show (pm (L.getD k [])).getD 0 = p; rw [hs, hp]; rfl
          have q0 : wr.cell? ⟨g, k, none⟩ = some (.string s) := by
            rw [R.rn.cellAt k (by omega), ← encKey, ← hs]
            simp [List.getD, hlt]
          have q1 := R.st.cell 1
          have hkey := keyOf_string_mk (P := Yba.prog) Yba.underlying9 hsl
          clear hmem hx1 hx2 hpm
          go_wp2_with (first
            | (at_mapUpdate; refine wpList_mapUpdate_own _ rfl _ _ _ 29 rfl 9 3 law9 Yba.underlying29 _ bm k DM rfl R.mm.own (by unfold maxLen; omega) _ _ _ rfl rfl hkey _ [] (plainElem_int Yba.underlying3 (wf_i64 (by omega))) ?_; intro w3 ho3 hg3
               have R3 := R.put hd.out.1 hlt (by rw [hs]; exact ho3) hg3
               have b3 := hbel.grown hg3 (bsz hbel) (fun j hj => by cases hj; exact R.bM)
               have M3 := M.below (bw b3)))
          clear R hbel ho3 hg3 q0 q1
          generalize DM.put (.string (L.getD k [])) (.lit (.int .i64 (k : Int))) = DM3 at R3
          have q2 := R3.st.cell 2
          have k33 := M3.c3
          have lk := M3.mp.look s hsl p hp
          obtain ⟨cv, hcv⟩ : ∃ cv, C[k]? = some cv := ⟨_, Array.getElem?_eq_getElem (by rw [R3.cs]; exact hlt)⟩
          have hS : ∀ W, Below w3.heap.size w3 W → W.cell? ⟨w1.heap.size + 1, 2, none⟩ = some (.slice (some ⟨bm + 1, 0, none⟩) L.length L.length) ∧ W.cell? ⟨B + 1 + 1, 18, none⟩ = some (.map (some B)) ∧ (Instr.lookup 52 (.map (some B)) (.string s) false).run Yba.prog W = .ok (.int .i64 p) W :=
            fun W hW => ⟨(R3.below hW).st.cell 2, (M3.below hW).c3, (M3.below hW).mp.look s hsl p hp⟩
          go_region_held3 (fun W => W.cell? ⟨w1.heap.size + 1, 2, none⟩ = some (.slice (some ⟨bm + 1, 0, none⟩) L.length L.length) ∧ W.cell? ⟨B + 1 + 1, 18, none⟩ = some (.map (some B)) ∧ (Instr.lookup 52 (.map (some B)) (.string s) false).run Yba.prog W = .ok (.int .i64 p) W) (first | exact hS _ (Below.refl _ _).drew | exact hS _ bb4 | exact hS5)
            (first
              | (go_at_call 9; refine (newInt_any p hpr.1 hpr.2 _).mono ?_; rintro e w4 ⟨pp, vv, rfl, I4, b4, l4, l4'⟩; have bb4 := (Below.refl w3.heap.size w3).drew.trans b4; have R4 := R3.below bb4; have c4 := (R4.bc.cell k).trans hcv; have f4 := R4.bc.free k; have R5 := R4.store hlt (by rw [hpk]; exact I4) (by have := R3.tot.lt; have := l4; simp at this; omega) (apart_new R3.tot.nat (fun j hj => by have := l4' j hj; simpa using this))
                 have b5 := (b3.trans ((Below.refl _ _).drew.trans (weakB b4 (by have := bsz b3; simp; omega)))).setCell (p := ⟨bm + 1, k, none⟩) R3.bP (.pointer (some ⟨pp, 0, none⟩)); have M5 := M.below (bw b5); have hS5 := And.intro (R5.st.cell 2) (And.intro M5.c3 (M5.mp.look s hsl p hp))))
          clear hS hS5 M5 c4 f4 R4 bb4 b4 l4 l4' I4 R3 M3 b3 lk k33 q2 hcv
          generalize w4.setCell ⟨bm + 1, k, none⟩ (.pointer (some ⟨pp, 0, none⟩)) = w5 at R5 b5 ⊢
          generalize C.setIfInBounds k (.pointer (some ⟨pp, 0, none⟩)) = C5 at R5
          obtain ⟨p5, v5, hc5, I5, ne5, ap5⟩ := R5.ps k (Nat.lt_succ_self _)
          have hpw : ∀ x, -9223372036854775808 ≤ (pm x).getD 0 ∧ (pm x).getD 0 ≤ 9223372036854775807 := HPW.out
          have hmT := mag_lt (fun x => (pm x).getD 0) L hpw k (by omega)
          have hmY := mag_one (hpw (L.getD k []))
          have q2 := R5.st.cell 2
          have q3 := R5.st.cell 3
          have qk := (R5.bc.cell k).trans hc5
          have HC5 : Hid (C5[k]? = some (.pointer (some ⟨p5, 0, none⟩))) := hc5
          clear hc5 hpw hs hpk
          go_wp2_with fail
          go_region_held3 (fun W => W.cell? ⟨w1.heap.size + 1, 2, none⟩ = some (.slice (some ⟨bm + 1, 0, none⟩) L.length L.length) ∧ W.cell? ⟨w1.heap.size + 1, 3, none⟩ = some (.pointer (some ⟨w1.heap.size, 0, none⟩)) ∧ W.cell? ⟨bm + 1, k, none⟩ = some (.pointer (some ⟨p5, 0, none⟩))) (first | go_keep | exact hS6)
            (first
              | (go_at_call 11; refine (add_any w1.heap.size p5 vT v5 _ _ _ (R5.tot.bel (Below.refl _ _).drew) (I5.bel (Below.refl _ _).drew) (Ne.symm ne5) hmT hmY ap5).mono ?_; rintro e w6 ⟨rfl, v6, s6⟩; have R6 := (R5.below (Below.refl _ _).drew).sum s6 (by have := bsz b5; simpa using this); have hS6 := And.intro (R6.st.cell 2) (And.intro (R6.st.cell 3) ((R6.bc.cell k).trans HC5.out))))
          have b6 := R5.bel_sum b5 s6 (bsz b5)
          clear hS6 R5 b5 s6 q2 q3 qk HC5 I5 ne5 ap5 hmT hmY
          go_wp2
          go_roundw
          case rel => exact ⟨k + 1, v6, _, _, by omega, by go_num, R6, b6⟩
          case measure => simp [intOf]; omega
        · obtain rfl : k = L.length := by omega
          have a0 := R.st.cell 0
          have a1 := R.st.cell 1
          have a2 := R.st.cell 2
          have a3 := R.st.cell 3
          have z : Blk wr w.heap.size #[.slice none 0 0, .map none, .slice none 0 0, .pointer none] 33 := (hbel.block _ (Nat.lt_succ_self _)).trans (Blk.new w _ _)
          have z0 := z.cell 0
          have z1 := z.cell 1
          have z2 := z.cell 2
          have z3 := z.cell 3
          have y0 := z.free 0
          have y1 := z.free 1
          have y2 := z.free 2
          have y3 := z.free 3
          obtain ⟨R1, t1⟩ := R.low (j := 0) (.slice (some ⟨g, 0, none⟩) L.length cap) z (by omega)
          obtain ⟨R2, t2⟩ := R1.low (j := 1) (.map (some bm)) t1 (by omega)
          obtain ⟨R3, t3⟩ := R2.low (j := 2) (.slice (some ⟨bm + 1, 0, none⟩) L.length L.length) t2 (by omega)
          obtain ⟨R4, t4⟩ := R3.low (j := 3) (.pointer (some ⟨w1.heap.size, 0, none⟩)) t3 (by omega)
          have b4 := ((((bw hbel).setCell (p := ⟨w.heap.size, 0, none⟩) (Nat.le_refl _) (.slice (some ⟨g, 0, none⟩) L.length cap)).setCell (p := ⟨w.heap.size, 1, none⟩) (Nat.le_refl _) (.map (some bm))).setCell (p := ⟨w.heap.size, 2, none⟩) (Nat.le_refl _) (.slice (some ⟨bm + 1, 0, none⟩) L.length L.length)).setCell (p := ⟨w.heap.size, 3, none⟩) (Nat.le_refl _) (.pointer (some ⟨w1.heap.size, 0, none⟩))
          have t5 : Blk _ w.heap.size #[.slice (some ⟨g, 0, none⟩) L.length cap, .map (some bm), .slice (some ⟨bm + 1, 0, none⟩) L.length L.length, .pointer (some ⟨w1.heap.size, 0, none⟩)] 33 := t4
          have x0 := t4.cell 0
          have x1 := t4.cell 1
          have x2 := t4.cell 2
          have x3 := t4.cell 3
          clear z t1 t2 t3
          go_wp2
          refine bodyPost_ret (results_cell_row rfl _ _ w.heap.size 33 _ (0, 0) _ rfl t5 Yba.underlying33 rfl size33) rfl ?_
          rw [HLe.out]
          exact ⟨_, _, _, _, _, _, _, _, _, rfl, R4, b4⟩
    · intro x c kl yd yp w2 cnt2 hkey hlk hv hat hrg2 hlt hg2 hs2 hen
      obtain ⟨x', ex, rfl, hxl⟩ := Maps.keyOf_str Yba.underlying9 hkey
      obtain rfl : x = x' := encStr_inj ex
      obtain ⟨s, rfl⟩ := key_ex x
      rw [encKey] at hen hkey ⊢
      have hsl : s.size ≤ maxLen := by rw [show s.size = (key s).length by simp [key]]; exact hxl
      have hrow2 := hrow.kept hg2 (Or.inr (row_ne_iter hrow hrg).symm)
      have hst2 := hst.grown hg2 (by simp)
      have htt2 := htt.grown hg2 (by simp; omega)
      have hbel2 : Below (w.heap.size + 1) (w.alloc A33) w2 := hbel.grown hg2 (bsz hbel) (fun j hj => by cases hj; omega)
      have M2 := M.below (bw hbel2)
      have hC2 : Hid (Collected DP (fun z => left z && !z.sameKey (.string (key s))) (met ++ [key s])) := hC.out.step hlk hat
      have hmeas : wr.rangeLeft B (w1.heap.size + 1 + 1) = cnt := hrg.left_eq
      have hlen2 : (met ++ [key s]).length + cnt2 ≤ size DP := by simp; omega
      have hfl : (met.filter (fun x => !jm x)).length ≤ met.length := List.length_filter_le _ _
      have k42 := M2.c4
      have lk := M2.mj.look s hsl
      clear hs2 hv hat hg2 ex hC hrow hst htt hrg MW hbel
      cases hj : jm (key s)
      · have hf := filter_snoc_true (fun x => !jm x) met (key s) (by simp [hj])
        generalize met.filter (fun x => !jm x) = ss at *
        rw [hj] at lk
        have q0 := hst2.cell 0
        have q0f := hst2.free 0
        clear hj
        go_wp2_with (first
          | (at_builtin; refine wpList_append_lies _ rfl _ _ 22 rfl (w.heap.size + 1) 9 i9 _ 1 16 Yba.underlying22 hi9 z90 z91 z92 rfl (by omega) _ _ _ rfl (hrow2.alloc _) ⟨w2.heap.size, 0, none⟩ 1 1 [Value.string s] rfl rfl (cell_one_new _ _ _) (by intro u hu; simp at hu; subst hu; rfl) (by omega) (by unfold maxLen; omega) (by omega) (by have := (bsz hbel2); simp; omega) (w2.heap.size + 1) (by simp) ?_; intro g3 c3 w3 ho3 hg3 hor hgl; have hg3' : (w2.alloc (.cells #[.string s] 9)).grownBy w3 (some g) := hg3
             clear hg3 hor; have hne3 := row_blk hrow2 hst2 (by decide); have hst3 := (hst2.alloc (.cells #[.string s] 9)).grown hg3' hne3; have q3f := hst3.free 0; have q3c := hst3.cell 0))
        have hrg3 := (hrg2.alloc (.cells #[.string s] 9)).kept hg3' (row_ne_low hrow2 (by omega)) (row_ne_iter hrow2 hrg2)
        have htt3 := (htt2.alloc (.cells #[.string s] 9)).grown hg3' (row_blk hrow2 htt2 (by decide))
        have hgw := (hrow2.lt g rfl).1
        have hb3 := (hbel2.alloc (bsz hbel2) (.cells #[.string s] 9)).grown hg3' (by have := (bsz hbel2); simp; omega) (fun j hj => by cases hj; exact hgw)
        have hg4 : w3.grownBy (w3.setCell ⟨w1.heap.size + 1, 0, none⟩ (.slice (some ⟨g3, 0, none⟩) (ss.length + 1) c3)) (some (w1.heap.size + 1)) := grown_set _ _ _
        have hrg4 := hrg3.kept hg4 (by simp; omega) (by simp)
        have hst4 := hst3.set 0 (.slice (some ⟨g3, 0, none⟩) (ss.length + 1) c3)
        go_roundw
        case rel =>
          refine ⟨_, cnt2, met ++ [key s], g3, c3, hrg4, hlen2, ?_, ?_, htt3.grown hg4 (by simp), hC2, hb3.grown hg4 (by have := bsz hb3; omega) (fun j hj => by cases hj; omega)⟩
          · rw [hf]
            have := ho3.kept hg4 (Or.inr (row_blk ho3 hst3 (by decide)).symm)
            simpa [encKey] using this
          · rw [hf]
            simpa using hst4
        case measure => rw [hrg4.left_eq, hmeas]; exact hlt
      · have hf := filter_snoc_false (fun x => !jm x) met (key s) (by simp [hj])
        rw [hj] at lk
        rw [← hf] at hrow2 hst2
        clear hj
        go_wp2
        go_roundw
        case rel => exact ⟨_, cnt2, met ++ [key s], g, cap, hrg2, hlen2, hrow2, hst2, htt2, hC2, hbel2⟩
        case measure => rw [hrg2.left_eq, hmeas]; exact hlt
end Go.Proofs.Ybulkbwco
