/-
  zzs3628cbuild, walked: the first loop.
-/
import Derived.Test.YbulkbwcoMem
namespace Go.Proofs.Ybulkbwco
open Go.RowKit Go.Maps Go.WideMaps
set_option linter.unusedVariables false

/-- What is kept of the lists: the powers are int64s, the names can be read. -/
def WF (S : St) : Prop := (∀ p ∈ S.pows, -9223372036854775808 ≤ p ∧ p ≤ 9223372036854775807) ∧ ∀ x ∈ S.names, x.size ≤ maxLen
/-- The first loop's tie: beside Tie, who is jailed is a name. -/
def Tie1 (k : Nat) (S : St) (pm : Key → Option Int) (jm : Key → Bool) : Prop := Tie S pm jm ∧ S.names.length ≤ k ∧ (∀ x, jm x = true → x ∈ S.names.map key) ∧ WF S
theorem wf_i64 {p : Int} (h : -9223372036854775808 ≤ p ∧ p ≤ 9223372036854775807) : (Lit.int .i64 p).wf = true := WalkArith.wf_i64 h

theorem tie1_new {k : Nat} {S : St} {pm : Key → Option Int} {jm : Key → Bool} (h : Tie1 k S pm jm) (v : ByteArray) (p : Int) (j : Bool) (hv : key v ∉ S.names.map key) (hp : -9223372036854775808 ≤ p ∧ p ≤ 9223372036854775807) (hs : v.size ≤ maxLen) :
    Tie1 (k + 1) ⟨S.names ++ [v], S.pows ++ [p], S.jail ++ [j]⟩ (upd pm (key v) (some p)) (if j = true then upd jm (key v) true else jm) := by
  obtain ⟨h1, h2, h3, h4, h5⟩ := h
  have hj : jm (key v) = false := by
    cases e : jm (key v)
    · rfl
    · exact absurd (h3 _ e) hv
  refine ⟨tie_new h1 v p j hv hj, by simp; omega, fun x hx => ?_, fun q hq => ?_, fun y hy => ?_⟩
  · show x ∈ (S.names ++ [v]).map key
    rw [List.map_append, List.mem_append]
    by_cases e : x = key v
    · exact .inr (by simp [e])
    · left
      split at hx
      · rw [upd_other _ _ e] at hx; exact h3 x hx
      · exact h3 x hx
  · rcases List.mem_append.1 hq with h | h
    · exact h4 q h
    · simp at h; subst h; exact hp
  · rcases List.mem_append.1 hy with h | h
    · exact h5 y h
    · simp at h; subst h; exact hs
theorem tie1_old {k : Nat} {S : St} {pm : Key → Option Int} {jm : Key → Bool} (h : Tie1 k S pm jm) (v : ByteArray) (p : Int) (i : Nat) (hi : i < S.names.length) (e : key v = key (S.names.getD i ByteArray.empty)) (hp : -9223372036854775808 ≤ p ∧ p ≤ 9223372036854775807) :
    Tie1 (k + 1) ⟨S.names, S.pows.set i p, S.jail⟩ (upd pm (key v) (some p)) jm := by
  obtain ⟨h1, h2, h3, h4, h5⟩ := h
  refine ⟨tie_pow h1 v p i hi e, by show S.names.length ≤ k + 1; omega, h3, fun q hq => ?_, h5⟩
  rcases List.mem_or_eq_of_mem_set hq with h | h
  · exact h4 q h
  · subst h; exact hp
theorem tie1_jail {k : Nat} {S : St} {pm : Key → Option Int} {jm : Key → Bool} (h : Tie1 k S pm jm) (v : ByteArray) (i : Nat) (hi : i < S.names.length) (e : key v = key (S.names.getD i ByteArray.empty)) :
    Tie1 k ⟨S.names, S.pows, S.jail.set i true⟩ pm (upd jm (key v) true) := by
  obtain ⟨h1, h2, h3, h4, h5⟩ := h
  refine ⟨tie_jail h1 v i hi e, h2, fun x hx => ?_, h4, h5⟩
  by_cases e' : x = key v
  · rw [e', e]; exact getD_mem hi
  · rw [upd_other _ _ e'] at hx; exact h3 x hx

theorem Yba.info9 : (Yba.prog.info? 9).map (fun i => (i.zero, i.size, i.bytes)) = some (some (.string ByteArray.empty), 1, 16) := by kernel_rfl
theorem Yba.info2 : (Yba.prog.info? 2).map (fun i => (i.zero, i.size, i.bytes)) = some (some (.int .i64 0), 1, 8) := by kernel_rfl
theorem Yba.info4 : (Yba.prog.info? 4).map (fun i => (i.zero, i.size, i.bytes)) = some (some (.bool false), 1, 1) := by kernel_rfl

set_option maxRecDepth 100000 in
set_option maxHeartbeats 4000000 in
theorem build_any (av ap aj ax : Option Addr) (cv cp cj cx : Nat) (vs : List ByteArray) (ps : List Int) (js : List Bool) (xs : List ByteArray) (w : World) (hV : StrsAt w av vs) (hP : IntsAt .i64 w ap ps) (hJ : BoolsAt w aj js) (hX : StrsAt w ax xs)
    (lv : vs.length ≤ 1024) (lx : xs.length ≤ 1024) (wv : ∀ x ∈ vs, x.size ≤ maxLen) (wx : ∀ x ∈ xs, x.size ≤ maxLen) (wp : ∀ j, -9223372036854775808 ≤ ps.getD j 0 ∧ ps.getD j 0 ≤ 9223372036854775807) (lp9 : ps.length ≤ 9223372036854775807) (lj9 : js.length ≤ 9223372036854775807) :
    Calls Yba.prog 5 #[.slice av vs.length cv, .slice ap ps.length cp, .slice aj js.length cj, .slice ax xs.length cx] w fun e w' => ∃ (aN aP aJ : Option Addr) (cN cP cJ : Nat) (S : St) (pm : Key → Option Int) (jm : Key → Bool) (DP DJ : DataW Unit), e = .returned (.tuple #[.pointer (some ⟨w.heap.size + 1 + 1, 0, none⟩), .slice aN S.names.length cN, .slice aP S.pows.length cP, .slice aJ S.jail.length cJ]) ∧
      Tie S pm jm ∧ S.names.length ≤ 1024 ∧ WF S ∧ Mem w' w.heap.size aN aP aJ cN cP cJ S pm jm DP DJ 4096 ∧ Below w.heap.size w w' := by
  have hmm := @run_makeMap Yba.prog
  obtain ⟨i9, hi9, z90, z91, z92⟩ := info_parts Yba.info9
  obtain ⟨i2, hi2, z20, z21, z22⟩ := info_parts Yba.info2
  obtain ⟨i4, hi4, z40, z41, z42⟩ := info_parts Yba.info4
  obtain ⟨nv, hnv⟩ : ∃ nv, nv = vs.length := ⟨_, rfl⟩
  obtain ⟨np, hnp⟩ : ∃ np, np = ps.length := ⟨_, rfl⟩
  obtain ⟨nj, hnj⟩ : ∃ nj, nj = js.length := ⟨_, rfl⟩
  obtain ⟨nx, hnx⟩ : ∃ nx, nx = xs.length := ⟨_, rfl⟩
  rw [← hnv] at lv ⊢
  rw [← hnp] at lp9 ⊢
  rw [← hnj] at lj9 ⊢
  rw [← hnx] at lx ⊢
  have HL : Hid (nv = vs.length ∧ np = ps.length ∧ nj = js.length ∧ nx = xs.length) := ⟨hnv, hnp, hnj, hnx⟩
  clear hnv hnp hnj hnx
  have M0 := mem_start w #[.int .u64 0, .pointer none, .pointer none, .slice none 0 0, .bool false, .int .u64 0, .pointer none, .pointer none, .int .u64 0, .string ⟨#[]⟩, .pointer none, .pointer none, .pointer none, .pointer none, .int .u64 0, .pointer none, .slice none 0 0, .map none, .map (some w.heap.size), .map (some (w.heap.size + 1)), .map none, .map none, .map none, .map none, .map none, .map none, .bool false, .int .u64 0, .map none, .slice none 0 0, .map none, .map none] rfl rfl
  have B0 : ∀ o1 o2 o3, Below w.heap.size w (((w.alloc o1).alloc o2).alloc o3) := fun o1 o2 o3 => (((Below.refl _ w).alloc (Nat.le_refl _) o1).alloc (by simp) o2).alloc (by simp; omega) o3
  go_enter Yba.func5, Yba.ntmps5
  go_wp2
  clear hmm
  go_loopw [13, 14, 15, 16] (fun vN vP vJ i wr => ∃ (k : Nat) (aN aP aJ : Option Addr) (cN cP cJ : Nat) (S : St) (pm : Key → Option Int) (jm : Key → Bool) (DP DJ : DataW Unit), k ≤ nv ∧ i = .int .i64 k ∧ vN = .slice aN S.names.length cN ∧ vP = .slice aP S.pows.length cP ∧ vJ = .slice aJ S.jail.length cJ ∧
      Hid (Tie1 k S pm jm) ∧ Mem wr w.heap.size aN aP aJ cN cP cJ S pm jm DP DJ (2 * k) ∧ Below w.heap.size w wr) (fun _ _ _ i _ => nv - (intOf i).toNat)
  case atStart =>
    refine ⟨0, none, none, none, 0, 0, 0, ⟨[], [], []⟩, fun _ => none, fun _ => false, .map [], .map [], Nat.zero_le _, rfl, rfl, rfl, rfl, (show Hid _ from ⟨⟨rfl, rfl, by simp, fun x => by simp, fun i hi => by simp at hi, fun i hi => by simp at hi⟩, Nat.le_refl _, fun x hx => by simp at hx, fun p hp => by simp at hp, fun x hx => by simp at hx⟩), M0, B0 _ _ _⟩
  case round =>
    obtain ⟨k, aN, aP, aJ, cN, cP, cJ, S, pm, jm, DP, DJ, hk, rfl, rfl, rfl, rfl, HT, M, hbel⟩ := hrel
    clear M0 B0
    by_cases hlt : k < nv
    · obtain ⟨bv, ov, rfl, hbv, hcv⟩ := hV (by intro h; rw [HL.out.1, h] at hlt; simp at hlt)
      have hkv : k < vs.length := by rw [← HL.out.1]; exact hlt
      have qv : wr.cell? ⟨bv, ov + k, none⟩ = some (.string (vs.getD k ByteArray.empty)) := (hbel.cell (p := ⟨bv, ov + k, none⟩) hbv).trans (hcv k hkv)
      have hvs : (vs.getD k ByteArray.empty).size ≤ maxLen := by rw [getD_lt vs k hkv]; exact wv _ (List.getElem_mem hkv)
      generalize vs.getD k ByteArray.empty = v at qv hvs
      clear hcv
      have k3 := M.c3
      have hkey := keyOf_string_mk (P := Yba.prog) Yba.underlying9 hvs
      have hlen : S.names.length ≤ 4096 := by have := HT.out.2.1; omega
      have hlN : S.names.length ≤ 1024 := by have := HT.out.2.1; omega
      have hlP' : S.pows.length ≤ 1024 := by rw [HT.out.1.lp]; exact hlN
      have hlJ' : S.jail.length ≤ 1024 := by rw [HT.out.1.lj]; exact hlN
      have cI : ∀ W, StrsAt W aN S.names → Calls Yba.prog 8 #[.slice aN S.names.length cN, .string v] W fun e w' => e = .returned (.int .i64 (pos S.names v)) ∧ w' = W := fun W h => index8 aN cN S.names v W h hlen
      by_cases hpl : k < np
      · obtain ⟨bp, op, rfl, hbp, hcp⟩ := hP (by intro h; rw [HL.out.2.1, h] at hpl; simp at hpl)
        have qp : wr.cell? ⟨bp, op + k, none⟩ = some (.int .i64 (ps.getD k 0)) := (hbel.cell (p := ⟨bp, op + k, none⟩) hbp).trans (hcp k (by rw [← HL.out.2.1]; exact hpl))
        have wpv := wp k
        generalize ps.getD k 0 = pv at qp wpv
        clear hcp wp
        rcases pos_cases S.names v with ⟨hpos, hno'⟩ | ⟨i, hi, hpos, hei'⟩
        · have hno : key v ∉ S.names.map key := fun h => by
            obtain ⟨x, hx, e⟩ := List.mem_map.1 h
            exact hno' x hx (by rw [key_toList, key_toList, e])
          rw [hpos] at cI
          clear hno' hpos
          by_cases hjl : k < nj
          · obtain ⟨bj, oj, rfl, hbj, hcj⟩ := hJ (by intro h; rw [HL.out.2.2.1, h] at hjl; simp at hjl)
            have qj : wr.cell? ⟨bj, oj + k, none⟩ = some (.bool (js.getD k false)) := (hbel.cell (p := ⟨bj, oj + k, none⟩) hbj).trans (hcj k (by rw [← HL.out.2.2.1]; exact hjl))
            generalize js.getD k false = j at qj
            clear hcj
            cases j
            · go_wp2_with (first | (at_mapUpdate; refine wpList_mapUpdate_own _ rfl _ _ _ 52 rfl 9 2 law9 Yba.underlying52 _ w.heap.size (2 * k) DP rfl M.mp.own (by unfold maxLen; omega) _ _ _ rfl rfl hkey _ [] (plainElem_int Yba.underlying2 (wf_i64 wpv)) ?_; intro w1 ho1 hg1; have M1 := mem_p M (key v) pv ho1 hg1; have b1 := hbel.grown hg1 hbel.size (fun j hj => by cases hj; exact Nat.le_refl _); clear ho1 hg1; have MA := M1; have bA := b1))
              refine (cI _ MA.strs).mono ?_
              rintro e w' ⟨rfl, rfl⟩
              go_wp2_with (first | (at_builtin; refine wpList_append_lies _ rfl _ _ 22 rfl (w.heap.size + 3) 9 i9 _ 1 16 Yba.underlying22 hi9 z90 z91 z92 rfl (by omega) _ _ _ rfl (MA.rN.alloc _) ⟨w'.heap.size, 0, none⟩ 1 1 [Value.string v] rfl rfl (cell_one_new _ _ _) (by intro u hu; simp at hu; subst hu; rfl) (by omega) (by unfold maxLen; omega) (by omega) (by have := MA.sz; simp; omega) (w'.heap.size + 1) (by simp) ?_; intro gN cN' wN hoN hgN _ _; have MN := mem_N (MA.below ((Below.refl _ _).alloc (Nat.le_refl _) _)) v hoN hgN; have bN := (bA.alloc bA.size _).grown hgN (by have := bA.size; simp; omega) (fun j hj => by have := (MA.rN.lt j hj).1; omega); clear hoN hgN MA bA) | (at_builtin; refine wpList_append_lies _ rfl _ _ 23 rfl (w.heap.size + 3) 2 i2 _ 1 8 Yba.underlying23 hi2 z20 z21 z22 rfl (by omega) _ _ _ rfl (show World.ownsRow _ _ _ _ (.slice aP S.pows.length cP) S.pows.length (S.pows.map (Value.int .i64)) from MN.rP.alloc _) ⟨wN.heap.size, 0, none⟩ 1 1 [Value.int .i64 pv] rfl rfl (cell_one_new _ _ _) (by intro u hu; simp at hu; subst hu; rfl) (by omega) (by unfold maxLen; omega) (by omega) (by have := MN.sz; simp; omega) (wN.heap.size + 1) (by simp) ?_; intro gP cP' wP hoP hgP _ _; have MP := mem_P (MN.below ((Below.refl _ _).alloc (Nat.le_refl _) _)) pv hoP hgP; have bP := (bN.alloc bN.size _).grown hgP (by have := bN.size; simp; omega) (fun j hj => by have := (MN.rP.lt j hj).1; omega); clear hoP hgP MN bN) | (at_builtin; refine wpList_append_lies _ rfl _ _ 24 rfl (w.heap.size + 3) 4 i4 _ 1 1 Yba.underlying24 hi4 z40 z41 z42 rfl (by omega) _ _ _ rfl (show World.ownsRow _ _ _ _ (.slice aJ S.jail.length cJ) S.jail.length (S.jail.map Value.bool) from MP.rJ.alloc _) ⟨wP.heap.size, 0, none⟩ 1 1 [Value.bool false] rfl rfl (cell_one_new _ _ _) (by intro u hu; simp at hu; subst hu; rfl) (by omega) (by unfold maxLen; omega) (by omega) (by have := MP.sz; simp; omega) (wP.heap.size + 1) (by simp) ?_; intro gJ cJ' wJ hoJ hgJ _ _; have MJ := mem_J (MP.below ((Below.refl _ _).alloc (Nat.le_refl _) _)) false hoJ hgJ; have bJ := (bP.alloc bP.size _).grown hgJ (by have := bP.size; simp; omega) (fun j hj => by have := (MP.rJ.lt j hj).1; omega); clear hoJ hgJ MP bP))
              go_roundw
              case rel => exact ⟨k + 1, _, _, _, _, _, _, _, _, _, _, _, by omega, by go_num, by simp, by simp, by simp, (show Hid _ from tie1_new HT.out v pv false hno wpv hvs), MJ.more (by omega), bJ⟩
              case measure => simp [intOf]; omega
            · go_wp2_with (first | (at_mapUpdate; refine wpList_mapUpdate_own _ rfl _ _ _ 52 rfl 9 2 law9 Yba.underlying52 _ w.heap.size (2 * k) DP rfl M.mp.own (by unfold maxLen; omega) _ _ _ rfl rfl hkey _ [] (plainElem_int Yba.underlying2 (wf_i64 wpv)) ?_; intro w1 ho1 hg1; have M1 := mem_p M (key v) pv ho1 hg1; have b1 := hbel.grown hg1 hbel.size (fun j hj => by cases hj; exact Nat.le_refl _); clear ho1 hg1; have k4 := M1.c4) | (at_mapUpdate; refine wpList_mapUpdate_own _ rfl _ _ _ 53 rfl 9 4 law9 Yba.underlying53 _ (w.heap.size + 1) (2 * k + 1) DJ rfl M1.mj.own (by unfold maxLen; omega) _ _ _ rfl rfl hkey _ [] (plainElem_bool Yba.underlying4 true) ?_; intro w2 ho2 hg2; have MA := mem_j M1 (key v) ho2 hg2; have bA := b1.grown hg2 b1.size (fun j hj => by cases hj; omega); clear ho2 hg2 k4))
              refine (cI _ MA.strs).mono ?_
              rintro e w' ⟨rfl, rfl⟩
              go_wp2_with (first | (at_builtin; refine wpList_append_lies _ rfl _ _ 22 rfl (w.heap.size + 3) 9 i9 _ 1 16 Yba.underlying22 hi9 z90 z91 z92 rfl (by omega) _ _ _ rfl (MA.rN.alloc _) ⟨w'.heap.size, 0, none⟩ 1 1 [Value.string v] rfl rfl (cell_one_new _ _ _) (by intro u hu; simp at hu; subst hu; rfl) (by omega) (by unfold maxLen; omega) (by omega) (by have := MA.sz; simp; omega) (w'.heap.size + 1) (by simp) ?_; intro gN cN' wN hoN hgN _ _; have MN := mem_N (MA.below ((Below.refl _ _).alloc (Nat.le_refl _) _)) v hoN hgN; have bN := (bA.alloc bA.size _).grown hgN (by have := bA.size; simp; omega) (fun j hj => by have := (MA.rN.lt j hj).1; omega); clear hoN hgN MA bA) | (at_builtin; refine wpList_append_lies _ rfl _ _ 23 rfl (w.heap.size + 3) 2 i2 _ 1 8 Yba.underlying23 hi2 z20 z21 z22 rfl (by omega) _ _ _ rfl (show World.ownsRow _ _ _ _ (.slice aP S.pows.length cP) S.pows.length (S.pows.map (Value.int .i64)) from MN.rP.alloc _) ⟨wN.heap.size, 0, none⟩ 1 1 [Value.int .i64 pv] rfl rfl (cell_one_new _ _ _) (by intro u hu; simp at hu; subst hu; rfl) (by omega) (by unfold maxLen; omega) (by omega) (by have := MN.sz; simp; omega) (wN.heap.size + 1) (by simp) ?_; intro gP cP' wP hoP hgP _ _; have MP := mem_P (MN.below ((Below.refl _ _).alloc (Nat.le_refl _) _)) pv hoP hgP; have bP := (bN.alloc bN.size _).grown hgP (by have := bN.size; simp; omega) (fun j hj => by have := (MN.rP.lt j hj).1; omega); clear hoP hgP MN bN) | (at_builtin; refine wpList_append_lies _ rfl _ _ 24 rfl (w.heap.size + 3) 4 i4 _ 1 1 Yba.underlying24 hi4 z40 z41 z42 rfl (by omega) _ _ _ rfl (show World.ownsRow _ _ _ _ (.slice aJ S.jail.length cJ) S.jail.length (S.jail.map Value.bool) from MP.rJ.alloc _) ⟨wP.heap.size, 0, none⟩ 1 1 [Value.bool true] rfl rfl (cell_one_new _ _ _) (by intro u hu; simp at hu; subst hu; rfl) (by omega) (by unfold maxLen; omega) (by omega) (by have := MP.sz; simp; omega) (wP.heap.size + 1) (by simp) ?_; intro gJ cJ' wJ hoJ hgJ _ _; have MJ := mem_J (MP.below ((Below.refl _ _).alloc (Nat.le_refl _) _)) true hoJ hgJ; have bJ := (bP.alloc bP.size _).grown hgJ (by have := bP.size; simp; omega) (fun j hj => by have := (MP.rJ.lt j hj).1; omega); clear hoJ hgJ MP bP))
              go_roundw
              case rel => exact ⟨k + 1, _, _, _, _, _, _, _, _, _, _, _, by omega, by go_num, by simp, by simp, by simp, (show Hid _ from tie1_new HT.out v pv true hno wpv hvs), MJ.more (by omega), bJ⟩
              case measure => simp [intOf]; omega
          · go_wp2_with (first | (at_mapUpdate; refine wpList_mapUpdate_own _ rfl _ _ _ 52 rfl 9 2 law9 Yba.underlying52 _ w.heap.size (2 * k) DP rfl M.mp.own (by unfold maxLen; omega) _ _ _ rfl rfl hkey _ [] (plainElem_int Yba.underlying2 (wf_i64 wpv)) ?_; intro w1 ho1 hg1; have M1 := mem_p M (key v) pv ho1 hg1; have b1 := hbel.grown hg1 hbel.size (fun j hj => by cases hj; exact Nat.le_refl _); clear ho1 hg1; have MA := M1; have bA := b1))
            refine (cI _ MA.strs).mono ?_
            rintro e w' ⟨rfl, rfl⟩
            go_wp2_with (first | (at_builtin; refine wpList_append_lies _ rfl _ _ 22 rfl (w.heap.size + 3) 9 i9 _ 1 16 Yba.underlying22 hi9 z90 z91 z92 rfl (by omega) _ _ _ rfl (MA.rN.alloc _) ⟨w'.heap.size, 0, none⟩ 1 1 [Value.string v] rfl rfl (cell_one_new _ _ _) (by intro u hu; simp at hu; subst hu; rfl) (by omega) (by unfold maxLen; omega) (by omega) (by have := MA.sz; simp; omega) (w'.heap.size + 1) (by simp) ?_; intro gN cN' wN hoN hgN _ _; have MN := mem_N (MA.below ((Below.refl _ _).alloc (Nat.le_refl _) _)) v hoN hgN; have bN := (bA.alloc bA.size _).grown hgN (by have := bA.size; simp; omega) (fun j hj => by have := (MA.rN.lt j hj).1; omega); clear hoN hgN MA bA) | (at_builtin; refine wpList_append_lies _ rfl _ _ 23 rfl (w.heap.size + 3) 2 i2 _ 1 8 Yba.underlying23 hi2 z20 z21 z22 rfl (by omega) _ _ _ rfl (show World.ownsRow _ _ _ _ (.slice aP S.pows.length cP) S.pows.length (S.pows.map (Value.int .i64)) from MN.rP.alloc _) ⟨wN.heap.size, 0, none⟩ 1 1 [Value.int .i64 pv] rfl rfl (cell_one_new _ _ _) (by intro u hu; simp at hu; subst hu; rfl) (by omega) (by unfold maxLen; omega) (by omega) (by have := MN.sz; simp; omega) (wN.heap.size + 1) (by simp) ?_; intro gP cP' wP hoP hgP _ _; have MP := mem_P (MN.below ((Below.refl _ _).alloc (Nat.le_refl _) _)) pv hoP hgP; have bP := (bN.alloc bN.size _).grown hgP (by have := bN.size; simp; omega) (fun j hj => by have := (MN.rP.lt j hj).1; omega); clear hoP hgP MN bN) | (at_builtin; refine wpList_append_lies _ rfl _ _ 24 rfl (w.heap.size + 3) 4 i4 _ 1 1 Yba.underlying24 hi4 z40 z41 z42 rfl (by omega) _ _ _ rfl (show World.ownsRow _ _ _ _ (.slice aJ S.jail.length cJ) S.jail.length (S.jail.map Value.bool) from MP.rJ.alloc _) ⟨wP.heap.size, 0, none⟩ 1 1 [Value.bool false] rfl rfl (cell_one_new _ _ _) (by intro u hu; simp at hu; subst hu; rfl) (by omega) (by unfold maxLen; omega) (by omega) (by have := MP.sz; simp; omega) (wP.heap.size + 1) (by simp) ?_; intro gJ cJ' wJ hoJ hgJ _ _; have MJ := mem_J (MP.below ((Below.refl _ _).alloc (Nat.le_refl _) _)) false hoJ hgJ; have bJ := (bP.alloc bP.size _).grown hgJ (by have := bP.size; simp; omega) (fun j hj => by have := (MP.rJ.lt j hj).1; omega); clear hoJ hgJ MP bP))
            go_roundw
            case rel => exact ⟨k + 1, _, _, _, _, _, _, _, _, _, _, _, by omega, by go_num, by simp, by simp, by simp, (show Hid _ from tie1_new HT.out v pv false hno wpv hvs), MJ.more (by omega), bJ⟩
            case measure => simp [intOf]; omega
        · have hei : key v = key (S.names.getD i ByteArray.empty) := by rw [← key_toList, ← key_toList]; exact hei'
          rw [hpos] at cI
          clear hei' hpos
          have hiP : i < S.pows.length := by rw [HT.out.1.lp]; exact hi
          have hiJ : i < S.jail.length := by rw [HT.out.1.lj]; exact hi
          obtain ⟨gP, rfl, _⟩ := row_form M.rP (by omega)
          obtain ⟨gJ, rfl, _⟩ := row_form M.rJ (by omega)
          have hgne : gP ≠ gJ := by rcases rows_apart M.rP M.rJ (by decide) with h | h <;> first | exact fun e => h (by rw [e]; rfl) | cases h
          by_cases hjl : k < nj
          · obtain ⟨bj, oj, rfl, hbj, hcj⟩ := hJ (by intro h; rw [HL.out.2.2.1, h] at hjl; simp at hjl)
            have qj : wr.cell? ⟨bj, oj + k, none⟩ = some (.bool (js.getD k false)) := (hbel.cell (p := ⟨bj, oj + k, none⟩) hbj).trans (hcj k (by rw [← HL.out.2.2.1]; exact hjl))
            generalize js.getD k false = j at qj
            clear hcj
            cases j
            · go_wp2_with (first | (at_mapUpdate; refine wpList_mapUpdate_own _ rfl _ _ _ 52 rfl 9 2 law9 Yba.underlying52 _ w.heap.size (2 * k) DP rfl M.mp.own (by unfold maxLen; omega) _ _ _ rfl rfl hkey _ [] (plainElem_int Yba.underlying2 (wf_i64 wpv)) ?_; intro w1 ho1 hg1; have M1 := mem_p M (key v) pv ho1 hg1; have b1 := hbel.grown hg1 hbel.size (fun j hj => by cases hj; exact Nat.le_refl _); clear ho1 hg1; have MA := M1; have bA := b1; obtain ⟨e5, f5⟩ := MA.cellP hiP; obtain ⟨e6, f6⟩ := MA.cellJ hiJ))
              refine (cI _ MA.strs).mono ?_
              rintro e w' ⟨rfl, rfl⟩
              have MF := mem_setP MA i pv
              have bF := bA.setCell (p := ⟨gP, i, none⟩) (by have := (MA.rP.lt gP rfl).1; show _ ≤ gP; omega) (.int .i64 pv)
              clear MA bA M M1 b1 cI k3 hkey
              go_wp2
              go_roundw
              case rel => exact ⟨k + 1, aN, some ⟨gP, 0, none⟩, some ⟨gJ, 0, none⟩, cN, cP, cJ, ⟨S.names, S.pows.set i pv, S.jail⟩, _, _, _, _, by omega, by go_num, rfl, by simp, by simp, (show Hid _ from tie1_old HT.out v pv i hi hei wpv), MF.more (by omega), bF⟩
              case measure => simp [intOf]; omega
            · go_wp2_with (first | (at_mapUpdate; refine wpList_mapUpdate_own _ rfl _ _ _ 52 rfl 9 2 law9 Yba.underlying52 _ w.heap.size (2 * k) DP rfl M.mp.own (by unfold maxLen; omega) _ _ _ rfl rfl hkey _ [] (plainElem_int Yba.underlying2 (wf_i64 wpv)) ?_; intro w1 ho1 hg1; have M1 := mem_p M (key v) pv ho1 hg1; have b1 := hbel.grown hg1 hbel.size (fun j hj => by cases hj; exact Nat.le_refl _); clear ho1 hg1; have k4 := M1.c4) | (at_mapUpdate; refine wpList_mapUpdate_own _ rfl _ _ _ 53 rfl 9 4 law9 Yba.underlying53 _ (w.heap.size + 1) (2 * k + 1) DJ rfl M1.mj.own (by unfold maxLen; omega) _ _ _ rfl rfl hkey _ [] (plainElem_bool Yba.underlying4 true) ?_; intro w2 ho2 hg2; have MA := mem_j M1 (key v) ho2 hg2; have bA := b1.grown hg2 b1.size (fun j hj => by cases hj; omega); clear ho2 hg2 k4; obtain ⟨e5, f5⟩ := MA.cellP hiP; obtain ⟨e6, f6⟩ := MA.cellJ hiJ))
              refine (cI _ MA.strs).mono ?_
              rintro e w' ⟨rfl, rfl⟩
              have MF := mem_setJ (mem_setP MA i pv) i true
              have bF := (bA.setCell (p := ⟨gP, i, none⟩) (by have := (MA.rP.lt gP rfl).1; show _ ≤ gP; omega) (.int .i64 pv)).setCell (p := ⟨gJ, i, none⟩) (by have := (MA.rJ.lt gJ rfl).1; show _ ≤ gJ; omega) (.bool true)
              clear MA bA M M1 b1 cI k3 hkey
              go_wp2
              go_roundw
              case rel => exact ⟨k + 1, aN, some ⟨gP, 0, none⟩, some ⟨gJ, 0, none⟩, cN, cP, cJ, ⟨S.names, S.pows.set i pv, S.jail.set i true⟩, _, _, _, _, by omega, by go_num, rfl, by simp, by simp, (show Hid _ from tie1_jail (tie1_old HT.out v pv i hi hei wpv) v i hi hei), MF.more (by omega), bF⟩
              case measure => simp [intOf]; omega
          · go_wp2_with (first | (at_mapUpdate; refine wpList_mapUpdate_own _ rfl _ _ _ 52 rfl 9 2 law9 Yba.underlying52 _ w.heap.size (2 * k) DP rfl M.mp.own (by unfold maxLen; omega) _ _ _ rfl rfl hkey _ [] (plainElem_int Yba.underlying2 (wf_i64 wpv)) ?_; intro w1 ho1 hg1; have M1 := mem_p M (key v) pv ho1 hg1; have b1 := hbel.grown hg1 hbel.size (fun j hj => by cases hj; exact Nat.le_refl _); clear ho1 hg1; have MA := M1; have bA := b1; obtain ⟨e5, f5⟩ := MA.cellP hiP; obtain ⟨e6, f6⟩ := MA.cellJ hiJ))
            refine (cI _ MA.strs).mono ?_
            rintro e w' ⟨rfl, rfl⟩
            have MF := mem_setP MA i pv
            have bF := bA.setCell (p := ⟨gP, i, none⟩) (by have := (MA.rP.lt gP rfl).1; show _ ≤ gP; omega) (.int .i64 pv)
            clear MA bA M M1 b1 cI k3 hkey
            go_wp2
            go_roundw
            case rel => exact ⟨k + 1, aN, some ⟨gP, 0, none⟩, some ⟨gJ, 0, none⟩, cN, cP, cJ, ⟨S.names, S.pows.set i pv, S.jail⟩, _, _, _, _, by omega, by go_num, rfl, by simp, by simp, (show Hid _ from tie1_old HT.out v pv i hi hei wpv), MF.more (by omega), bF⟩
            case measure => simp [intOf]; omega
      · have wpv : -9223372036854775808 ≤ (1 : Int) ∧ (1 : Int) ≤ 9223372036854775807 := by omega
        clear wp
        rcases pos_cases S.names v with ⟨hpos, hno'⟩ | ⟨i, hi, hpos, hei'⟩
        · have hno : key v ∉ S.names.map key := fun h => by
            obtain ⟨x, hx, e⟩ := List.mem_map.1 h
            exact hno' x hx (by rw [key_toList, key_toList, e])
          rw [hpos] at cI
          clear hno' hpos
          by_cases hjl : k < nj
          · obtain ⟨bj, oj, rfl, hbj, hcj⟩ := hJ (by intro h; rw [HL.out.2.2.1, h] at hjl; simp at hjl)
            have qj : wr.cell? ⟨bj, oj + k, none⟩ = some (.bool (js.getD k false)) := (hbel.cell (p := ⟨bj, oj + k, none⟩) hbj).trans (hcj k (by rw [← HL.out.2.2.1]; exact hjl))
            generalize js.getD k false = j at qj
            clear hcj
            cases j
            · go_wp2_with (first | (at_mapUpdate; refine wpList_mapUpdate_own _ rfl _ _ _ 52 rfl 9 2 law9 Yba.underlying52 _ w.heap.size (2 * k) DP rfl M.mp.own (by unfold maxLen; omega) _ _ _ rfl rfl hkey _ [] (plainElem_int Yba.underlying2 (wf_i64 wpv)) ?_; intro w1 ho1 hg1; have M1 := mem_p M (key v) 1 ho1 hg1; have b1 := hbel.grown hg1 hbel.size (fun j hj => by cases hj; exact Nat.le_refl _); clear ho1 hg1; have MA := M1; have bA := b1))
              refine (cI _ MA.strs).mono ?_
              rintro e w' ⟨rfl, rfl⟩
              go_wp2_with (first | (at_builtin; refine wpList_append_lies _ rfl _ _ 22 rfl (w.heap.size + 3) 9 i9 _ 1 16 Yba.underlying22 hi9 z90 z91 z92 rfl (by omega) _ _ _ rfl (MA.rN.alloc _) ⟨w'.heap.size, 0, none⟩ 1 1 [Value.string v] rfl rfl (cell_one_new _ _ _) (by intro u hu; simp at hu; subst hu; rfl) (by omega) (by unfold maxLen; omega) (by omega) (by have := MA.sz; simp; omega) (w'.heap.size + 1) (by simp) ?_; intro gN cN' wN hoN hgN _ _; have MN := mem_N (MA.below ((Below.refl _ _).alloc (Nat.le_refl _) _)) v hoN hgN; have bN := (bA.alloc bA.size _).grown hgN (by have := bA.size; simp; omega) (fun j hj => by have := (MA.rN.lt j hj).1; omega); clear hoN hgN MA bA) | (at_builtin; refine wpList_append_lies _ rfl _ _ 23 rfl (w.heap.size + 3) 2 i2 _ 1 8 Yba.underlying23 hi2 z20 z21 z22 rfl (by omega) _ _ _ rfl (show World.ownsRow _ _ _ _ (.slice aP S.pows.length cP) S.pows.length (S.pows.map (Value.int .i64)) from MN.rP.alloc _) ⟨wN.heap.size, 0, none⟩ 1 1 [Value.int .i64 1] rfl rfl (cell_one_new _ _ _) (by intro u hu; simp at hu; subst hu; rfl) (by omega) (by unfold maxLen; omega) (by omega) (by have := MN.sz; simp; omega) (wN.heap.size + 1) (by simp) ?_; intro gP cP' wP hoP hgP _ _; have MP := mem_P (MN.below ((Below.refl _ _).alloc (Nat.le_refl _) _)) 1 hoP hgP; have bP := (bN.alloc bN.size _).grown hgP (by have := bN.size; simp; omega) (fun j hj => by have := (MN.rP.lt j hj).1; omega); clear hoP hgP MN bN) | (at_builtin; refine wpList_append_lies _ rfl _ _ 24 rfl (w.heap.size + 3) 4 i4 _ 1 1 Yba.underlying24 hi4 z40 z41 z42 rfl (by omega) _ _ _ rfl (show World.ownsRow _ _ _ _ (.slice aJ S.jail.length cJ) S.jail.length (S.jail.map Value.bool) from MP.rJ.alloc _) ⟨wP.heap.size, 0, none⟩ 1 1 [Value.bool false] rfl rfl (cell_one_new _ _ _) (by intro u hu; simp at hu; subst hu; rfl) (by omega) (by unfold maxLen; omega) (by omega) (by have := MP.sz; simp; omega) (wP.heap.size + 1) (by simp) ?_; intro gJ cJ' wJ hoJ hgJ _ _; have MJ := mem_J (MP.below ((Below.refl _ _).alloc (Nat.le_refl _) _)) false hoJ hgJ; have bJ := (bP.alloc bP.size _).grown hgJ (by have := bP.size; simp; omega) (fun j hj => by have := (MP.rJ.lt j hj).1; omega); clear hoJ hgJ MP bP))
              go_roundw
              case rel => exact ⟨k + 1, _, _, _, _, _, _, _, _, _, _, _, by omega, by go_num, by simp, by simp, by simp, (show Hid _ from tie1_new HT.out v 1 false hno wpv hvs), MJ.more (by omega), bJ⟩
              case measure => simp [intOf]; omega
            · go_wp2_with (first | (at_mapUpdate; refine wpList_mapUpdate_own _ rfl _ _ _ 52 rfl 9 2 law9 Yba.underlying52 _ w.heap.size (2 * k) DP rfl M.mp.own (by unfold maxLen; omega) _ _ _ rfl rfl hkey _ [] (plainElem_int Yba.underlying2 (wf_i64 wpv)) ?_; intro w1 ho1 hg1; have M1 := mem_p M (key v) 1 ho1 hg1; have b1 := hbel.grown hg1 hbel.size (fun j hj => by cases hj; exact Nat.le_refl _); clear ho1 hg1; have k4 := M1.c4) | (at_mapUpdate; refine wpList_mapUpdate_own _ rfl _ _ _ 53 rfl 9 4 law9 Yba.underlying53 _ (w.heap.size + 1) (2 * k + 1) DJ rfl M1.mj.own (by unfold maxLen; omega) _ _ _ rfl rfl hkey _ [] (plainElem_bool Yba.underlying4 true) ?_; intro w2 ho2 hg2; have MA := mem_j M1 (key v) ho2 hg2; have bA := b1.grown hg2 b1.size (fun j hj => by cases hj; omega); clear ho2 hg2 k4))
              refine (cI _ MA.strs).mono ?_
              rintro e w' ⟨rfl, rfl⟩
              go_wp2_with (first | (at_builtin; refine wpList_append_lies _ rfl _ _ 22 rfl (w.heap.size + 3) 9 i9 _ 1 16 Yba.underlying22 hi9 z90 z91 z92 rfl (by omega) _ _ _ rfl (MA.rN.alloc _) ⟨w'.heap.size, 0, none⟩ 1 1 [Value.string v] rfl rfl (cell_one_new _ _ _) (by intro u hu; simp at hu; subst hu; rfl) (by omega) (by unfold maxLen; omega) (by omega) (by have := MA.sz; simp; omega) (w'.heap.size + 1) (by simp) ?_; intro gN cN' wN hoN hgN _ _; have MN := mem_N (MA.below ((Below.refl _ _).alloc (Nat.le_refl _) _)) v hoN hgN; have bN := (bA.alloc bA.size _).grown hgN (by have := bA.size; simp; omega) (fun j hj => by have := (MA.rN.lt j hj).1; omega); clear hoN hgN MA bA) | (at_builtin; refine wpList_append_lies _ rfl _ _ 23 rfl (w.heap.size + 3) 2 i2 _ 1 8 Yba.underlying23 hi2 z20 z21 z22 rfl (by omega) _ _ _ rfl (show World.ownsRow _ _ _ _ (.slice aP S.pows.length cP) S.pows.length (S.pows.map (Value.int .i64)) from MN.rP.alloc _) ⟨wN.heap.size, 0, none⟩ 1 1 [Value.int .i64 1] rfl rfl (cell_one_new _ _ _) (by intro u hu; simp at hu; subst hu; rfl) (by omega) (by unfold maxLen; omega) (by omega) (by have := MN.sz; simp; omega) (wN.heap.size + 1) (by simp) ?_; intro gP cP' wP hoP hgP _ _; have MP := mem_P (MN.below ((Below.refl _ _).alloc (Nat.le_refl _) _)) 1 hoP hgP; have bP := (bN.alloc bN.size _).grown hgP (by have := bN.size; simp; omega) (fun j hj => by have := (MN.rP.lt j hj).1; omega); clear hoP hgP MN bN) | (at_builtin; refine wpList_append_lies _ rfl _ _ 24 rfl (w.heap.size + 3) 4 i4 _ 1 1 Yba.underlying24 hi4 z40 z41 z42 rfl (by omega) _ _ _ rfl (show World.ownsRow _ _ _ _ (.slice aJ S.jail.length cJ) S.jail.length (S.jail.map Value.bool) from MP.rJ.alloc _) ⟨wP.heap.size, 0, none⟩ 1 1 [Value.bool true] rfl rfl (cell_one_new _ _ _) (by intro u hu; simp at hu; subst hu; rfl) (by omega) (by unfold maxLen; omega) (by omega) (by have := MP.sz; simp; omega) (wP.heap.size + 1) (by simp) ?_; intro gJ cJ' wJ hoJ hgJ _ _; have MJ := mem_J (MP.below ((Below.refl _ _).alloc (Nat.le_refl _) _)) true hoJ hgJ; have bJ := (bP.alloc bP.size _).grown hgJ (by have := bP.size; simp; omega) (fun j hj => by have := (MP.rJ.lt j hj).1; omega); clear hoJ hgJ MP bP))
              go_roundw
              case rel => exact ⟨k + 1, _, _, _, _, _, _, _, _, _, _, _, by omega, by go_num, by simp, by simp, by simp, (show Hid _ from tie1_new HT.out v 1 true hno wpv hvs), MJ.more (by omega), bJ⟩
              case measure => simp [intOf]; omega
          · go_wp2_with (first | (at_mapUpdate; refine wpList_mapUpdate_own _ rfl _ _ _ 52 rfl 9 2 law9 Yba.underlying52 _ w.heap.size (2 * k) DP rfl M.mp.own (by unfold maxLen; omega) _ _ _ rfl rfl hkey _ [] (plainElem_int Yba.underlying2 (wf_i64 wpv)) ?_; intro w1 ho1 hg1; have M1 := mem_p M (key v) 1 ho1 hg1; have b1 := hbel.grown hg1 hbel.size (fun j hj => by cases hj; exact Nat.le_refl _); clear ho1 hg1; have MA := M1; have bA := b1))
            refine (cI _ MA.strs).mono ?_
            rintro e w' ⟨rfl, rfl⟩
            go_wp2_with (first | (at_builtin; refine wpList_append_lies _ rfl _ _ 22 rfl (w.heap.size + 3) 9 i9 _ 1 16 Yba.underlying22 hi9 z90 z91 z92 rfl (by omega) _ _ _ rfl (MA.rN.alloc _) ⟨w'.heap.size, 0, none⟩ 1 1 [Value.string v] rfl rfl (cell_one_new _ _ _) (by intro u hu; simp at hu; subst hu; rfl) (by omega) (by unfold maxLen; omega) (by omega) (by have := MA.sz; simp; omega) (w'.heap.size + 1) (by simp) ?_; intro gN cN' wN hoN hgN _ _; have MN := mem_N (MA.below ((Below.refl _ _).alloc (Nat.le_refl _) _)) v hoN hgN; have bN := (bA.alloc bA.size _).grown hgN (by have := bA.size; simp; omega) (fun j hj => by have := (MA.rN.lt j hj).1; omega); clear hoN hgN MA bA) | (at_builtin; refine wpList_append_lies _ rfl _ _ 23 rfl (w.heap.size + 3) 2 i2 _ 1 8 Yba.underlying23 hi2 z20 z21 z22 rfl (by omega) _ _ _ rfl (show World.ownsRow _ _ _ _ (.slice aP S.pows.length cP) S.pows.length (S.pows.map (Value.int .i64)) from MN.rP.alloc _) ⟨wN.heap.size, 0, none⟩ 1 1 [Value.int .i64 1] rfl rfl (cell_one_new _ _ _) (by intro u hu; simp at hu; subst hu; rfl) (by omega) (by unfold maxLen; omega) (by omega) (by have := MN.sz; simp; omega) (wN.heap.size + 1) (by simp) ?_; intro gP cP' wP hoP hgP _ _; have MP := mem_P (MN.below ((Below.refl _ _).alloc (Nat.le_refl _) _)) 1 hoP hgP; have bP := (bN.alloc bN.size _).grown hgP (by have := bN.size; simp; omega) (fun j hj => by have := (MN.rP.lt j hj).1; omega); clear hoP hgP MN bN) | (at_builtin; refine wpList_append_lies _ rfl _ _ 24 rfl (w.heap.size + 3) 4 i4 _ 1 1 Yba.underlying24 hi4 z40 z41 z42 rfl (by omega) _ _ _ rfl (show World.ownsRow _ _ _ _ (.slice aJ S.jail.length cJ) S.jail.length (S.jail.map Value.bool) from MP.rJ.alloc _) ⟨wP.heap.size, 0, none⟩ 1 1 [Value.bool false] rfl rfl (cell_one_new _ _ _) (by intro u hu; simp at hu; subst hu; rfl) (by omega) (by unfold maxLen; omega) (by omega) (by have := MP.sz; simp; omega) (wP.heap.size + 1) (by simp) ?_; intro gJ cJ' wJ hoJ hgJ _ _; have MJ := mem_J (MP.below ((Below.refl _ _).alloc (Nat.le_refl _) _)) false hoJ hgJ; have bJ := (bP.alloc bP.size _).grown hgJ (by have := bP.size; simp; omega) (fun j hj => by have := (MP.rJ.lt j hj).1; omega); clear hoJ hgJ MP bP))
            go_roundw
            case rel => exact ⟨k + 1, _, _, _, _, _, _, _, _, _, _, _, by omega, by go_num, by simp, by simp, by simp, (show Hid _ from tie1_new HT.out v 1 false hno wpv hvs), MJ.more (by omega), bJ⟩
            case measure => simp [intOf]; omega
        · have hei : key v = key (S.names.getD i ByteArray.empty) := by rw [← key_toList, ← key_toList]; exact hei'
          rw [hpos] at cI
          clear hei' hpos
          have hiP : i < S.pows.length := by rw [HT.out.1.lp]; exact hi
          have hiJ : i < S.jail.length := by rw [HT.out.1.lj]; exact hi
          obtain ⟨gP, rfl, _⟩ := row_form M.rP (by omega)
          obtain ⟨gJ, rfl, _⟩ := row_form M.rJ (by omega)
          have hgne : gP ≠ gJ := by rcases rows_apart M.rP M.rJ (by decide) with h | h <;> first | exact fun e => h (by rw [e]; rfl) | cases h
          by_cases hjl : k < nj
          · obtain ⟨bj, oj, rfl, hbj, hcj⟩ := hJ (by intro h; rw [HL.out.2.2.1, h] at hjl; simp at hjl)
            have qj : wr.cell? ⟨bj, oj + k, none⟩ = some (.bool (js.getD k false)) := (hbel.cell (p := ⟨bj, oj + k, none⟩) hbj).trans (hcj k (by rw [← HL.out.2.2.1]; exact hjl))
            generalize js.getD k false = j at qj
            clear hcj
            cases j
            · go_wp2_with (first | (at_mapUpdate; refine wpList_mapUpdate_own _ rfl _ _ _ 52 rfl 9 2 law9 Yba.underlying52 _ w.heap.size (2 * k) DP rfl M.mp.own (by unfold maxLen; omega) _ _ _ rfl rfl hkey _ [] (plainElem_int Yba.underlying2 (wf_i64 wpv)) ?_; intro w1 ho1 hg1; have M1 := mem_p M (key v) 1 ho1 hg1; have b1 := hbel.grown hg1 hbel.size (fun j hj => by cases hj; exact Nat.le_refl _); clear ho1 hg1; have MA := M1; have bA := b1; obtain ⟨e5, f5⟩ := MA.cellP hiP; obtain ⟨e6, f6⟩ := MA.cellJ hiJ))
              refine (cI _ MA.strs).mono ?_
              rintro e w' ⟨rfl, rfl⟩
              have MF := mem_setP MA i 1
              have bF := bA.setCell (p := ⟨gP, i, none⟩) (by have := (MA.rP.lt gP rfl).1; show _ ≤ gP; omega) (.int .i64 1)
              clear MA bA M M1 b1 cI k3 hkey
              go_wp2
              go_roundw
              case rel => exact ⟨k + 1, aN, some ⟨gP, 0, none⟩, some ⟨gJ, 0, none⟩, cN, cP, cJ, ⟨S.names, S.pows.set i 1, S.jail⟩, _, _, _, _, by omega, by go_num, rfl, by simp, by simp, (show Hid _ from tie1_old HT.out v 1 i hi hei wpv), MF.more (by omega), bF⟩
              case measure => simp [intOf]; omega
            · go_wp2_with (first | (at_mapUpdate; refine wpList_mapUpdate_own _ rfl _ _ _ 52 rfl 9 2 law9 Yba.underlying52 _ w.heap.size (2 * k) DP rfl M.mp.own (by unfold maxLen; omega) _ _ _ rfl rfl hkey _ [] (plainElem_int Yba.underlying2 (wf_i64 wpv)) ?_; intro w1 ho1 hg1; have M1 := mem_p M (key v) 1 ho1 hg1; have b1 := hbel.grown hg1 hbel.size (fun j hj => by cases hj; exact Nat.le_refl _); clear ho1 hg1; have k4 := M1.c4) | (at_mapUpdate; refine wpList_mapUpdate_own _ rfl _ _ _ 53 rfl 9 4 law9 Yba.underlying53 _ (w.heap.size + 1) (2 * k + 1) DJ rfl M1.mj.own (by unfold maxLen; omega) _ _ _ rfl rfl hkey _ [] (plainElem_bool Yba.underlying4 true) ?_; intro w2 ho2 hg2; have MA := mem_j M1 (key v) ho2 hg2; have bA := b1.grown hg2 b1.size (fun j hj => by cases hj; omega); clear ho2 hg2 k4; obtain ⟨e5, f5⟩ := MA.cellP hiP; obtain ⟨e6, f6⟩ := MA.cellJ hiJ))
              refine (cI _ MA.strs).mono ?_
              rintro e w' ⟨rfl, rfl⟩
              have MF := mem_setJ (mem_setP MA i 1) i true
              have bF := (bA.setCell (p := ⟨gP, i, none⟩) (by have := (MA.rP.lt gP rfl).1; show _ ≤ gP; omega) (.int .i64 1)).setCell (p := ⟨gJ, i, none⟩) (by have := (MA.rJ.lt gJ rfl).1; show _ ≤ gJ; omega) (.bool true)
              clear MA bA M M1 b1 cI k3 hkey
              go_wp2
              go_roundw
              case rel => exact ⟨k + 1, aN, some ⟨gP, 0, none⟩, some ⟨gJ, 0, none⟩, cN, cP, cJ, ⟨S.names, S.pows.set i 1, S.jail.set i true⟩, _, _, _, _, by omega, by go_num, rfl, by simp, by simp, (show Hid _ from tie1_jail (tie1_old HT.out v 1 i hi hei wpv) v i hi hei), MF.more (by omega), bF⟩
              case measure => simp [intOf]; omega
          · go_wp2_with (first | (at_mapUpdate; refine wpList_mapUpdate_own _ rfl _ _ _ 52 rfl 9 2 law9 Yba.underlying52 _ w.heap.size (2 * k) DP rfl M.mp.own (by unfold maxLen; omega) _ _ _ rfl rfl hkey _ [] (plainElem_int Yba.underlying2 (wf_i64 wpv)) ?_; intro w1 ho1 hg1; have M1 := mem_p M (key v) 1 ho1 hg1; have b1 := hbel.grown hg1 hbel.size (fun j hj => by cases hj; exact Nat.le_refl _); clear ho1 hg1; have MA := M1; have bA := b1; obtain ⟨e5, f5⟩ := MA.cellP hiP; obtain ⟨e6, f6⟩ := MA.cellJ hiJ))
            refine (cI _ MA.strs).mono ?_
            rintro e w' ⟨rfl, rfl⟩
            have MF := mem_setP MA i 1
            have bF := bA.setCell (p := ⟨gP, i, none⟩) (by have := (MA.rP.lt gP rfl).1; show _ ≤ gP; omega) (.int .i64 1)
            clear MA bA M M1 b1 cI k3 hkey
            go_wp2
            go_roundw
            case rel => exact ⟨k + 1, aN, some ⟨gP, 0, none⟩, some ⟨gJ, 0, none⟩, cN, cP, cJ, ⟨S.names, S.pows.set i 1, S.jail⟩, _, _, _, _, by omega, by go_num, rfl, by simp, by simp, (show Hid _ from tie1_old HT.out v 1 i hi hei wpv), MF.more (by omega), bF⟩
            case measure => simp [intOf]; omega
    · have e : k = nv := by omega
      subst e
      go_wp2
      go_loopw [21] (fun i wr2 => ∃ (m : Nat) (jl : List Bool) (jm2 : Key → Bool) (DJ2 : DataW Unit), m ≤ nx ∧ i = .int .i64 m ∧ Hid (jl.length = S.jail.length ∧ Tie ⟨S.names, S.pows, jl⟩ pm jm2) ∧ Mem wr2 w.heap.size aN aP aJ cN cP cJ ⟨S.names, S.pows, jl⟩ pm jm2 DP DJ2 (2 * k + m) ∧ Below w.heap.size w wr2) (fun i _ => nx - (intOf i).toNat)
      case atStart => exact ⟨0, S.jail, jm, DJ, Nat.zero_le _, rfl, (show Hid _ from ⟨rfl, HT.out.1⟩), M, hbel⟩
      case round =>
        obtain ⟨m, jl, jm2, DJ2, hm, rfl, HT2, M2, hbel2⟩ := hrel
        have hlN : S.names.length ≤ 1024 := by have := HT.out.2.1; omega
        by_cases hlt2 : m < nx
        · obtain ⟨bx, ox, rfl, hbx, hcx⟩ := hX (by intro h; rw [HL.out.2.2.2, h] at hlt2; simp at hlt2)
          have hkx : m < xs.length := by rw [← HL.out.2.2.2]; exact hlt2
          have qx : wr.cell? ⟨bx, ox + m, none⟩ = some (.string (xs.getD m ByteArray.empty)) := (hbel2.cell (p := ⟨bx, ox + m, none⟩) hbx).trans (hcx m hkx)
          have hxs : (xs.getD m ByteArray.empty).size ≤ maxLen := by rw [getD_lt xs m hkx]; exact wx _ (List.getElem_mem hkx)
          generalize xs.getD m ByteArray.empty = v at qx hxs
          clear hcx
          have k4 := M2.c4
          have hkey := keyOf_string_mk (P := Yba.prog) Yba.underlying9 hxs
          have cI : ∀ W, StrsAt W aN S.names → Calls Yba.prog 8 #[.slice aN S.names.length cN, .string v] W fun e w' => e = .returned (.int .i64 (pos S.names v)) ∧ w' = W := fun W h => index8 aN cN S.names v W h (by omega)
          rcases pos_cases S.names v with ⟨hpos, hno'⟩ | ⟨i, hi, hpos, hei'⟩
          · have hno : key v ∉ S.names.map key := fun h => by
              obtain ⟨x, hx, e⟩ := List.mem_map.1 h
              exact hno' x hx (by rw [key_toList, key_toList, e])
            rw [hpos] at cI
            clear hno' hpos
            go_wp2_with (first | (at_mapUpdate; refine wpList_mapUpdate_own _ rfl _ _ _ 53 rfl 9 4 law9 Yba.underlying53 _ (w.heap.size + 1) (2 * k + m) DJ2 rfl M2.mj.own (by unfold maxLen; omega) _ _ _ rfl rfl hkey _ [] (plainElem_bool Yba.underlying4 true) ?_; intro w2 ho2 hg2; have MA := mem_j M2 (key v) ho2 hg2; have bA := hbel2.grown hg2 hbel2.size (fun j hj => by cases hj; omega); clear ho2 hg2 k4))
            refine (cI _ MA.strs).mono ?_
            rintro e w' ⟨rfl, rfl⟩
            go_wp2
            go_roundw
            case rel => exact ⟨m + 1, jl, _, _, by omega, by go_num, (show Hid _ from ⟨HT2.out.1, tie_far HT2.out.2 v hno⟩), MA, bA⟩
            case measure => simp [intOf]; omega
          · have hei : key v = key (S.names.getD i ByteArray.empty) := by rw [← key_toList, ← key_toList]; exact hei'
            rw [hpos] at cI
            clear hei' hpos
            have hjl : jl.length = S.jail.length := HT2.out.1
            have hiJ : i < jl.length := by have := HT2.out.2.lj; simp at this; omega
            have hiJ' : i < S.jail.length := by omega
            clear hjl
            obtain ⟨gJ, rfl, _⟩ := row_form M2.rJ (by show 0 < jl.length; omega)
            go_wp2_with (first | (at_mapUpdate; refine wpList_mapUpdate_own _ rfl _ _ _ 53 rfl 9 4 law9 Yba.underlying53 _ (w.heap.size + 1) (2 * k + m) DJ2 rfl M2.mj.own (by unfold maxLen; omega) _ _ _ rfl rfl hkey _ [] (plainElem_bool Yba.underlying4 true) ?_; intro w2 ho2 hg2; have MA := mem_j M2 (key v) ho2 hg2; have bA := hbel2.grown hg2 hbel2.size (fun j hj => by cases hj; omega); clear ho2 hg2 k4; obtain ⟨e6, f6⟩ := MA.cellJ hiJ))
            refine (cI _ MA.strs).mono ?_
            rintro e w' ⟨rfl, rfl⟩
            have MF := mem_setJ MA i true
            have bF := bA.setCell (p := ⟨gJ, i, none⟩) (by have := (MA.rJ.lt gJ rfl).1; show _ ≤ gJ; omega) (.bool true)
            clear MA bA M2 cI hkey M
            go_wp2
            go_roundw
            case rel => exact ⟨m + 1, jl.set i true, _, _, by omega, by go_num, (show Hid _ from ⟨by rw [List.length_set]; exact HT2.out.1, tie_jail HT2.out.2 v i hi hei⟩), MF, bF⟩
            case measure => simp [intOf]; omega
        · have e : m = nx := by omega
          subst e
          have ejl : S.jail.length = jl.length := HT2.out.1.symm
          have MF := M2.more (m := 4096) (by omega)
          have HE : Hid (S.jail.length = jl.length) := ejl
          clear M2 M ejl
          go_wp2
          refine bodyPost_ret (v := .tuple #[.pointer (some ⟨w.heap.size + 1 + 1, 0, none⟩), .slice aN S.names.length cN, .slice aP S.pows.length cP, .slice aJ S.jail.length cJ]) (by simp [results, Yba.results5, go_sem]) rfl ?_
          refine ⟨aN, aP, aJ, cN, cP, cJ, ⟨S.names, S.pows, jl⟩, pm, jm2, DP, DJ2, by rw [HE.out], HT2.out.2, hlN, ⟨HT.out.2.2.2.1, HT.out.2.2.2.2⟩, MF, hbel2⟩
end Go.Proofs.Ybulkbwco
