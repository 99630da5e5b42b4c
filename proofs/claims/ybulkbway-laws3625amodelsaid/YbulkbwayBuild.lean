/-
  zzs3625abuild, zzs3625anodes, walked.
-/
import Derived.Test.YbulkbwayBeats
namespace Go.Proofs.Ybulkbway
open Go.RowKit
set_option linter.unusedVariables false

/-- What is known of a slice of strings that came in. -/
def StrsAt (w : World) (a : Option Addr) (ns : List ByteArray) : Prop :=
  ns ≠ [] → ∃ b off, a = some ⟨b, off, none⟩ ∧ b < w.heap.size ∧ ∀ j, j < ns.length → w.cell? ⟨b, off + j, none⟩ = some (.string (ns.getD j ByteArray.empty))
/-- What is known of a slice of integers that came in. -/
def IntsAt (k : IntKind) (w : World) (a : Option Addr) (zs : List Int) : Prop :=
  zs ≠ [] → ∃ b off, a = some ⟨b, off, none⟩ ∧ b < w.heap.size ∧ ∀ j, j < zs.length → w.cell? ⟨b, off + j, none⟩ = some (.int k (zs.getD j 0))
theorem StrsAt.on {w w' : World} {a : Option Addr} {ns : List ByteArray} (h : StrsAt w a ns) (hb : Below w.heap.size w w') : StrsAt w' a ns := fun hn => by
  obtain ⟨b, off, e, hl, hc⟩ := h hn
  exact ⟨b, off, e, Nat.lt_of_lt_of_le hl hb.size, fun j hj => (hb.cell (p := ⟨b, off + j, none⟩) hl).trans (hc j hj)⟩
theorem IntsAt.on {k : IntKind} {w w' : World} {a : Option Addr} {ns : List Int} (h : IntsAt k w a ns) (hb : Below w.heap.size w w') : IntsAt k w' a ns := fun hn => by
  obtain ⟨b, off, e, hl, hc⟩ := h hn
  exact ⟨b, off, e, Nat.lt_of_lt_of_le hl hb.size, fun j hj => (hb.cell (p := ⟨b, off + j, none⟩) hl).trans (hc j hj)⟩

/-! ### THE PLAIN FUNCTIONS -/
def ghost : ByteArray := ⟨#[103, 104, 111, 115, 116]⟩
def nameAt (ns : List ByteArray) (p : Int) : ByteArray := if p % ((ns.length : Int) + 1) < ns.length then ns.getD (p % ((ns.length : Int) + 1)).toNat ByteArray.empty else ghost
def memAt (ns : List ByteArray) (ps is : List Int) (i : Nat) : ByteArray × Int := (nameAt ns (ps.getD i 0), is.getD i 0)
def upTo (ns : List ByteArray) (ps is : List Int) (k : Nat) : List (ByteArray × Int) := (List.range k).map (memAt ns ps is)
def buildP (ns : List ByteArray) (ps is : List Int) : List (ByteArray × Int) := if ps.length = 0 then [(ghost, 0)] else upTo ns ps is ps.length
def memCells (ms : List (ByteArray × Int)) : List Value := ms.flatMap fun m => [.string m.1, .int .u64 m.2]
theorem memCells_snoc (ms : List (ByteArray × Int)) (m : ByteArray × Int) : memCells (ms ++ [m]) = memCells ms ++ [.string m.1, .int .u64 m.2] := by simp [memCells]
theorem upTo_succ (ns : List ByteArray) (ps is : List Int) (k : Nat) : upTo ns ps is (k + 1) = upTo ns ps is k ++ [memAt ns ps is k] := by simp [upTo, List.range_succ]

theorem Yba.info32 : (Yba.prog.info? 32).map (fun i => (i.zero, i.size, i.bytes)) = some (some (.agg #[.string ByteArray.empty, .int .u64 0]), 2, 24) := by kernel_rfl
theorem Yba.info50 : (Yba.prog.info? 50).map (fun i => (i.zero, i.size, i.bytes)) = some (some (.agg #[.string ByteArray.empty, .string ByteArray.empty]), 2, 32) := by kernel_rfl

/-- What a round's append does to the relation. -/
theorem build_step {w wr w2 : World} {c k : Nat} {ns : List ByteArray} {ps is : List Int} {nm : ByteArray} {inc : Int} {o : Obj} (hm : memAt ns ps is k = (nm, inc)) (hbel : Below w.heap.size w wr)
    (h : w2.ownsRow w.heap.size 32 2 (.slice (some ⟨w.heap.size, 0, none⟩) (k + 1) c) (k + 1) (memCells (upTo ns ps is k) ++ [.string nm, .int .u64 inc])) (hg : (wr.alloc o).grownBy w2 (some w.heap.size)) :
    w2.ownsRow w.heap.size 32 2 (.slice (some ⟨w.heap.size, 0, none⟩) (k + 1) c) (k + 1) (memCells (upTo ns ps is (k + 1))) ∧ Below w.heap.size w w2 := by
  rw [upTo_succ, memCells_snoc, hm]
  refine ⟨h, (hbel.alloc hbel.size o).grown hg (by have := hbel.size; simp; omega) (fun j hj => by cases hj; exact Nat.le_refl _)⟩

theorem getD_out (is : List Int) (k : Nat) (h : is.length ≤ k) : is.getD k 0 = 0 := by simp [List.getD, h]
theorem pick_in (p : Int) (nn : Nat) : ∃ kk : Nat, p % ((nn : Int) + 1) = kk ∧ kk ≤ nn := by
  refine ⟨(p % ((nn : Int) + 1)).toNat, ?_, ?_⟩
  · have := Int.emod_nonneg p (b := (nn : Int) + 1) (by omega); omega
  · have := Int.emod_lt_of_pos p (b := (nn : Int) + 1) (by omega); have := Int.emod_nonneg p (b := (nn : Int) + 1) (by omega); omega

set_option maxRecDepth 100000 in
set_option maxHeartbeats 1000000 in
theorem build_any (an ap ai : Option Addr) (cn cp ci : Nat) (ns : List ByteArray) (ps is : List Int) (w : World) (hN : StrsAt w an ns) (hP : IntsAt .u8 w ap ps) (hI : IntsAt .u64 w ai is)
    (ln : ns.length ≤ 1024) (lp : ps.length ≤ 1024) (li : is.length ≤ 1024) (hp : ∀ j, 0 ≤ ps.getD j 0 ∧ ps.getD j 0 ≤ 255) :
    Calls Yba.prog 5 #[.slice an ns.length cn, .slice ap ps.length cp, .slice ai is.length ci] w fun e w' => ∃ c, e = .returned (.slice (some ⟨w.heap.size, 0, none⟩) (buildP ns ps is).length c) ∧
      w'.ownsRow w.heap.size 32 2 (.slice (some ⟨w.heap.size, 0, none⟩) (buildP ns ps is).length c) (buildP ns ps is).length (memCells (buildP ns ps is)) ∧ Below w.heap.size w w' := by
  obtain ⟨i0, hi, hz0, hz1, hz2⟩ := info_parts Yba.info32
  obtain ⟨nn, hnn⟩ : ∃ nn, nn = ns.length := ⟨_, rfl⟩
  obtain ⟨np, hnp⟩ : ∃ np, np = ps.length := ⟨_, rfl⟩
  obtain ⟨ni, hni⟩ : ∃ ni, ni = is.length := ⟨_, rfl⟩
  rw [← hnn] at ln ⊢
  rw [← hnp] at lp ⊢
  rw [← hni] at li ⊢
  have HL : Hid (nn = ns.length ∧ np = ps.length ∧ ni = is.length) := ⟨hnn, hnp, hni⟩
  clear hnn hnp hni
  go_enter Yba.func5, Yba.ntmps5
  go_wp2_with (first
    | (at_make; refine wpList_make_own _ rfl _ _ 25 rfl w.heap.size 32 i0 _ 2 Yba.underlying25 hi hz0 hz1 .i64 .i64 _ (np + 1) rfl rfl (by omega) (by rw [hz2]; omega) (by unfold maxLen; omega) (Nat.le_refl _) ?_; intro w1 hown1 hgrow1))
  go_loopw [7, 8] (fun v i wr => ∃ k : Nat, k ≤ np ∧ i = .int .i64 k ∧ v = .slice (some ⟨w.heap.size, 0, none⟩) k (np + 1) ∧
      wr.ownsRow w.heap.size 32 2 (.slice (some ⟨w.heap.size, 0, none⟩) k (np + 1)) k (memCells (upTo ns ps is k)) ∧ Below w.heap.size w wr) (fun _ i _ => np - (intOf i).toNat)
  case atStart => exact ⟨0, Nat.zero_le _, rfl, rfl, hown1, (Below.refl _ _).grown hgrow1 (Nat.le_refl _) (fun j hj => by cases hj)⟩
  case round =>
    obtain ⟨k, hk, rfl, rfl, hown, hbel⟩ := hrel
    clear hown1 hgrow1
    by_cases hlt : k < np
    · obtain ⟨bp, op, rfl, hbp, hcp⟩ := hP (by intro h; rw [HL.out.2.1, h] at hlt; simp at hlt)
      have qp : wr.cell? ⟨bp, op + k, none⟩ = some (.int .u8 (ps.getD k 0)) := (hbel.cell (p := ⟨bp, op + k, none⟩) hbp).trans (hcp k (by rw [← HL.out.2.1]; exact hlt))
      obtain ⟨hp0, hp1⟩ := hp k
      obtain ⟨kk, hkk, hkn⟩ := pick_in (ps.getD k 0) nn
      obtain ⟨p, hpe⟩ : ∃ p, p = ps.getD k 0 := ⟨_, rfl⟩
      have hme : memAt ns ps is k = (nameAt ns p, is.getD k 0) := by rw [hpe]; rfl
      rw [← hpe] at hp0 hp1 hkk qp
      have HM : Hid (memAt ns ps is k = (nameAt ns p, is.getD k 0)) := hme
      clear hcp hpe hme hp
      have hroom : k + 1 ≤ np + 1 := by omega
      by_cases hkl : kk < nn
      · obtain ⟨bn, on, rfl, hbn, hcn⟩ := hN (by intro h; rw [HL.out.1, h] at hkl; simp at hkl)
        have qn : wr.cell? ⟨bn, on + kk, none⟩ = some (.string (ns.getD kk ByteArray.empty)) := (hbel.cell (p := ⟨bn, on + kk, none⟩) hbn).trans (hcn kk (by rw [← HL.out.1]; exact hkl))
        have hnm : nameAt ns p = ns.getD kk ByteArray.empty := by unfold nameAt; rw [← HL.out.1, hkk, if_pos (by omega)]; simp
        rw [← hnm] at qn
        have HM2 : Hid (memAt ns ps is k = (nameAt ns p, is.getD k 0)) := HM
        generalize nameAt ns p = nm at HM2 qn
        clear hcn hnm HM
        by_cases hil : k < ni
        · obtain ⟨bi, oi, rfl, hbi, hci⟩ := hI (by intro h; rw [HL.out.2.2, h] at hil; simp at hil)
          have qi : wr.cell? ⟨bi, oi + k, none⟩ = some (.int .u64 (is.getD k 0)) := (hbel.cell (p := ⟨bi, oi + k, none⟩) hbi).trans (hci k (by rw [← HL.out.2.2]; exact hil))
          generalize is.getD k 0 = inc at HM2 qi
          clear hci
          go_wp2_with (first | (at_builtin; refine wpList_append_fits _ rfl _ _ 25 rfl w.heap.size 32 i0 2 Yba.underlying25 hi hz1 w.heap.size k (np + 1) _ rfl (hown.alloc _) ⟨wr.heap.size, 0, none⟩ 1 1 [.string nm, .int .u64 inc] rfl rfl (cell_two_new _ _ _ _) (by intro u hu; simp at hu; rcases hu with rfl | rfl <;> rfl) hroom ?_; intro w2 hown2 hgrow2; have R := build_step HM2 hbel hown2 hgrow2; clear hown2 hgrow2 hown))
          go_roundw
          case rel => exact ⟨k + 1, by omega, by go_num, rfl, R.1, R.2⟩
          case measure => simp [intOf]; omega
        · have hi0 : is.getD k 0 = 0 := getD_out is k (by rw [← HL.out.2.2]; omega)
          rw [hi0] at HM2
          clear hi0
          go_wp2_with (first | (at_builtin; refine wpList_append_fits _ rfl _ _ 25 rfl w.heap.size 32 i0 2 Yba.underlying25 hi hz1 w.heap.size k (np + 1) _ rfl (hown.alloc _) ⟨wr.heap.size, 0, none⟩ 1 1 [.string nm, .int .u64 0] rfl rfl (cell_two_new _ _ _ _) (by intro u hu; simp at hu; rcases hu with rfl | rfl <;> rfl) hroom ?_; intro w2 hown2 hgrow2; have R := build_step HM2 hbel hown2 hgrow2; clear hown2 hgrow2 hown))
          go_roundw
          case rel => exact ⟨k + 1, by omega, by go_num, rfl, R.1, R.2⟩
          case measure => simp [intOf]; omega
      · have hnm : nameAt ns p = ⟨#[103, 104, 111, 115, 116]⟩ := by unfold nameAt; rw [← HL.out.1, hkk, if_neg (by omega)]; rfl
        have HM2 : Hid (memAt ns ps is k = (nameAt ns p, is.getD k 0)) := HM
        rw [hnm] at HM2
        clear hnm HM
        by_cases hil : k < ni
        · obtain ⟨bi, oi, rfl, hbi, hci⟩ := hI (by intro h; rw [HL.out.2.2, h] at hil; simp at hil)
          have qi : wr.cell? ⟨bi, oi + k, none⟩ = some (.int .u64 (is.getD k 0)) := (hbel.cell (p := ⟨bi, oi + k, none⟩) hbi).trans (hci k (by rw [← HL.out.2.2]; exact hil))
          generalize is.getD k 0 = inc at HM2 qi
          clear hci
          go_wp2_with (first | (at_builtin; refine wpList_append_fits _ rfl _ _ 25 rfl w.heap.size 32 i0 2 Yba.underlying25 hi hz1 w.heap.size k (np + 1) _ rfl (hown.alloc _) ⟨wr.heap.size, 0, none⟩ 1 1 [.string ⟨#[103, 104, 111, 115, 116]⟩, .int .u64 inc] rfl rfl (cell_two_new _ _ _ _) (by intro u hu; simp at hu; rcases hu with rfl | rfl <;> rfl) hroom ?_; intro w2 hown2 hgrow2; have R := build_step HM2 hbel hown2 hgrow2; clear hown2 hgrow2 hown))
          go_roundw
          case rel => exact ⟨k + 1, by omega, by go_num, rfl, R.1, R.2⟩
          case measure => simp [intOf]; omega
        · have hi0 : is.getD k 0 = 0 := getD_out is k (by rw [← HL.out.2.2]; omega)
          rw [hi0] at HM2
          clear hi0
          go_wp2_with (first | (at_builtin; refine wpList_append_fits _ rfl _ _ 25 rfl w.heap.size 32 i0 2 Yba.underlying25 hi hz1 w.heap.size k (np + 1) _ rfl (hown.alloc _) ⟨wr.heap.size, 0, none⟩ 1 1 [.string ⟨#[103, 104, 111, 115, 116]⟩, .int .u64 0] rfl rfl (cell_two_new _ _ _ _) (by intro u hu; simp at hu; rcases hu with rfl | rfl <;> rfl) hroom ?_; intro w2 hown2 hgrow2; have R := build_step HM2 hbel hown2 hgrow2; clear hown2 hgrow2 hown))
          go_roundw
          case rel => exact ⟨k + 1, by omega, by go_num, rfl, R.1, R.2⟩
          case measure => simp [intOf]; omega
    · have e : k = np := by omega
      subst e
      by_cases h0 : k = 0
      · subst h0
        have eB : buildP ns ps is = [(ghost, 0)] := by unfold buildP; rw [if_pos HL.out.2.1.symm]
        rw [show memCells (upTo ns ps is 0) = [] from rfl] at hown
        have hgr : ∀ w2, (wr.alloc (.cells #[.string ⟨#[103, 104, 111, 115, 116]⟩, .int .u64 0] 32)).grownBy w2 (some w.heap.size) → Below w.heap.size w w2 := fun w2 hg => (hbel.alloc hbel.size _).grown hg (by have := hbel.size; simp; omega) (fun j hj => by cases hj; exact Nat.le_refl _)
        go_wp2_with (first | (at_builtin; refine wpList_append_fits _ rfl _ _ 25 rfl w.heap.size 32 i0 2 Yba.underlying25 hi hz1 w.heap.size 0 1 _ rfl (hown.alloc _) ⟨wr.heap.size, 0, none⟩ 1 1 [.string ⟨#[103, 104, 111, 115, 116]⟩, .int .u64 0] rfl rfl (cell_two_new _ _ _ _) (by intro u hu; simp at hu; rcases hu with rfl | rfl <;> rfl) (Nat.le_refl _) ?_; intro w2 hown2 hgrow2; have R := hgr w2 hgrow2; clear hgrow2 hown hgr))
        go_ret
        rw [eB]
        exact ⟨_, rfl, hown2, R⟩
      · have eB : buildP ns ps is = upTo ns ps is k := by unfold buildP; rw [← HL.out.2.1, if_neg h0]
        have eL : (upTo ns ps is k).length = k := by simp [upTo]
        have hk0 : ((k : Int) == 0) = false := by simp; omega
        have EB : Hid (buildP ns ps is = upTo ns ps is k ∧ (upTo ns ps is k).length = k) := ⟨eB, eL⟩
        clear eB eL
        go_wp2
        go_ret
        rw [EB.out.1, EB.out.2]
        exact ⟨_, rfl, hown, hbel⟩

/-! ### zzs3625anodes -/
def nodeCells (ns : List ByteArray) : List Value := ns.flatMap fun x => [.string x, .string ⟨#[104, 58, 49]⟩]
theorem nodeCells_succ (ns : List ByteArray) (k : Nat) (h : k < ns.length) : nodeCells (ns.take (k + 1)) = nodeCells (ns.take k) ++ [.string (ns.getD k ByteArray.empty), .string ⟨#[104, 58, 49]⟩] := by
  rw [List.take_succ_eq_append_getElem h, getD_lt ns k h]; unfold nodeCells; rw [List.flatMap_append]; rfl
theorem nodes_step {w wr w2 : World} {c k : Nat} {ns : List ByteArray} {nm : ByteArray} {o : Obj} (hk : k < ns.length) (hm : nm = ns.getD k ByteArray.empty) (hbel : Below w.heap.size w wr)
    (h : w2.ownsRow w.heap.size 50 2 (.slice (some ⟨w.heap.size, 0, none⟩) (k + 1) c) (k + 1) (nodeCells (ns.take k) ++ [.string nm, .string ⟨#[104, 58, 49]⟩])) (hg : (wr.alloc o).grownBy w2 (some w.heap.size)) :
    w2.ownsRow w.heap.size 50 2 (.slice (some ⟨w.heap.size, 0, none⟩) (k + 1) c) (k + 1) (nodeCells (ns.take (k + 1))) ∧ Below w.heap.size w w2 := by
  rw [nodeCells_succ ns k hk, ← hm]
  refine ⟨h, (hbel.alloc hbel.size o).grown hg (by have := hbel.size; simp; omega) (fun j hj => by cases hj; exact Nat.le_refl _)⟩

set_option maxRecDepth 100000 in
set_option maxHeartbeats 1000000 in
theorem nodes_any (an : Option Addr) (cn : Nat) (ns : List ByteArray) (w : World) (hN : StrsAt w an ns) (ln : ns.length ≤ 1024) :
    Calls Yba.prog 6 #[.slice an ns.length cn] w fun e w' => e = .returned (.slice (some ⟨w.heap.size, 0, none⟩) ns.length ns.length) ∧
      w'.ownsRow w.heap.size 50 2 (.slice (some ⟨w.heap.size, 0, none⟩) ns.length ns.length) ns.length (nodeCells ns) ∧ Below w.heap.size w w' := by
  obtain ⟨i0, hi, hz0, hz1, hz2⟩ := info_parts Yba.info50
  obtain ⟨nn, hnn⟩ : ∃ nn, nn = ns.length := ⟨_, rfl⟩
  rw [← hnn] at ln ⊢
  have HL : Hid (nn = ns.length) := hnn
  clear hnn
  go_enter Yba.func6, Yba.ntmps6
  go_wp2_with (first
    | (at_make; refine wpList_make_own _ rfl _ _ 28 rfl w.heap.size 50 i0 _ 2 Yba.underlying28 hi hz0 hz1 .i64 .i64 _ nn rfl rfl (by omega) (by rw [hz2]; omega) (by unfold maxLen; omega) (Nat.le_refl _) ?_; intro w1 hown1 hgrow1))
  go_loopw [3, 4] (fun v i wr => ∃ k : Nat, k ≤ nn ∧ i = .int .i64 k ∧ v = .slice (some ⟨w.heap.size, 0, none⟩) k nn ∧
      wr.ownsRow w.heap.size 50 2 (.slice (some ⟨w.heap.size, 0, none⟩) k nn) k (nodeCells (ns.take k)) ∧ Below w.heap.size w wr) (fun _ i _ => nn - (intOf i).toNat)
  case atStart => exact ⟨0, Nat.zero_le _, rfl, rfl, hown1, (Below.refl _ _).grown hgrow1 (Nat.le_refl _) (fun j hj => by cases hj)⟩
  case round =>
    obtain ⟨k, hk, rfl, rfl, hown, hbel⟩ := hrel
    clear hown1 hgrow1
    by_cases hlt : k < nn
    · obtain ⟨bn, on, rfl, hbn, hcn⟩ := hN (by intro h; rw [HL.out, h] at hlt; simp at hlt)
      have hks : k < ns.length := by rw [← HL.out]; exact hlt
      have qn : wr.cell? ⟨bn, on + k, none⟩ = some (.string (ns.getD k ByteArray.empty)) := (hbel.cell (p := ⟨bn, on + k, none⟩) hbn).trans (hcn k hks)
      obtain ⟨nm, hnm⟩ : ∃ nm, nm = ns.getD k ByteArray.empty := ⟨_, rfl⟩
      rw [← hnm] at qn
      have HM : Hid (nm = ns.getD k ByteArray.empty) := hnm
      clear hnm hcn
      have hroom : k + 1 ≤ nn := hlt
      go_wp2_with (first | (at_builtin; refine wpList_append_fits _ rfl _ _ 28 rfl w.heap.size 50 i0 2 Yba.underlying28 hi hz1 w.heap.size k nn _ rfl (hown.alloc _) ⟨wr.heap.size, 0, none⟩ 1 1 [.string nm, .string ⟨#[104, 58, 49]⟩] rfl rfl (cell_two_new _ _ _ _) (by intro u hu; simp at hu; rcases hu with rfl | rfl <;> rfl) hroom ?_; intro w2 hown2 hgrow2; have R := nodes_step hks HM hbel hown2 hgrow2; clear hown2 hgrow2 hown))
      go_roundw
      case rel => exact ⟨k + 1, by omega, by go_num, rfl, R.1, R.2⟩
      case measure => simp [intOf]; omega
    · have e : k = nn := by omega
      subst e
      have et : ns.take k = ns := List.take_of_length_le (by rw [HL.out]; exact Nat.le_refl _)
      rw [et] at hown
      clear et
      go_wp2
      go_ret
      exact ⟨rfl, hown, hbel⟩

/-! ### from what is owned to what lies there -/
theorem flat2 {α : Type} (f g : α → Value) (l : List α) (d : α) : ∀ j, j < l.length → (l.flatMap fun x => [f x, g x])[j * 2]? = some (f (l.getD j d)) ∧ (l.flatMap fun x => [f x, g x])[j * 2 + 1]? = some (g (l.getD j d)) := by
  induction l with
  | nil => intro j hj; simp at hj
  | cons x l ih =>
    intro j hj
    match j with
    | 0 => simp
    | j + 1 =>
      have := ih j (by simpa using hj)
      simp only [List.flatMap_cons, List.getD_cons_succ]
      rw [show (j + 1) * 2 = j * 2 + 1 + 1 by omega]
      simpa using this
theorem nodesAt_of {w : World} {g c : Nat} {ns : List ByteArray} (h : w.ownsRow g 50 2 (.slice (some ⟨g, 0, none⟩) ns.length c) ns.length (nodeCells ns)) : NodesAt w g ns ⟨#[104, 58, 49]⟩ := by
  refine ⟨(h.lt g rfl).2, fun j hj => ?_⟩
  have := flat2 Value.string (fun _ => Value.string ⟨#[104, 58, 49]⟩) ns ByteArray.empty j hj
  rw [h.cellAt (j * 2) (by omega), h.cellAt (j * 2 + 1) (by omega)]
  exact this
/-- What is known of members in memory: block g holds, two cells an element, the names and the incs. -/
def MemsAt (w : World) (g : Nat) (ms : List (ByteArray × Int)) : Prop :=
  g < w.heap.size ∧ ∀ j, j < ms.length → w.cell? ⟨g, j * 2, none⟩ = some (.string (ms.getD j (ghost, 0)).1) ∧ w.cell? ⟨g, j * 2 + 1, none⟩ = some (.int .u64 (ms.getD j (ghost, 0)).2)
theorem MemsAt.below {w w' : World} {B g : Nat} {ms : List (ByteArray × Int)} (h : MemsAt w g ms) (hb : Below B w w') (hB : g < B) : MemsAt w' g ms :=
  ⟨Nat.lt_of_lt_of_le h.1 hb.size, fun j hj => ⟨(hb.cell (p := ⟨g, j * 2, none⟩) hB).trans (h.2 j hj).1, (hb.cell (p := ⟨g, j * 2 + 1, none⟩) hB).trans (h.2 j hj).2⟩⟩
theorem memsAt_of {w : World} {g c : Nat} {ms : List (ByteArray × Int)} (h : w.ownsRow g 32 2 (.slice (some ⟨g, 0, none⟩) ms.length c) ms.length (memCells ms)) : MemsAt w g ms := by
  refine ⟨(h.lt g rfl).2, fun j hj => ?_⟩
  have := flat2 (fun m : ByteArray × Int => Value.string m.1) (fun m => Value.int .u64 m.2) ms (ghost, 0) j hj
  rw [h.cellAt (j * 2) (by omega), h.cellAt (j * 2 + 1) (by omega)]
  exact this
theorem buildP_pos (ns : List ByteArray) (ps is : List Int) : 0 < (buildP ns ps is).length := by
  unfold buildP; split
  · simp
  · simp [upTo]; omega
theorem buildP_le (ns : List ByteArray) (ps is : List Int) (h : ps.length ≤ 1024) : (buildP ns ps is).length ≤ 1024 := by
  unfold buildP; split
  · simp
  · simpa [upTo] using h
end Go.Proofs.Ybulkbway
