/-
  Functions (function 6), walked.
-/
import Derived.Test.YbulkbwhyPlain
import Derived.Laws.EntriesVeiled
namespace Go.Proofs.Ybulkbwhy
open Go.RowKit Go.Maps Go.WideMaps Go.Sort
set_option linter.unusedVariables false

/-- Block p is the row C of type t, nothing frozen. -/
def Blk (w : World) (p : Nat) (C : Array Value) (t : TypeId) : Prop := w.heap[p]? = some (.cells C t (0, 0))
theorem Blk.cell {w : World} {p : Nat} {C : Array Value} {t : TypeId} (h : Blk w p C t) (j : Nat) : w.cell? ⟨p, j, Option.none⟩ = C[j]? := by simp [World.cell?, show w.heap[p]? = _ from h]
theorem Blk.free {w : World} {p : Nat} {C : Array Value} {t : TypeId} (h : Blk w p C t) (j : Nat) : w.frozen? ⟨p, j, Option.none⟩ = false := by simp [World.frozen?, show w.heap[p]? = _ from h]
theorem Blk.lt {w : World} {p : Nat} {C : Array Value} {t : TypeId} (h : Blk w p C t) : p < w.heap.size := (Array.getElem?_eq_some_iff.1 h).1
theorem Blk.new (w : World) (C : Array Value) (t : TypeId) : Blk (w.alloc (.cells C t)) w.heap.size C t := by
  show (w.heap.push _)[w.heap.size]? = _
  simp
theorem Blk.alloc {w : World} {p : Nat} {C : Array Value} {t : TypeId} (h : Blk w p C t) (o : Obj) : Blk (w.alloc o) p C t := (Below.heap_alloc w o p h.lt).trans h
theorem Blk.grown {w w' : World} {p : Nat} {C : Array Value} {t : TypeId} {r : Option Nat} (h : Blk w p C t) (hg : w.grownBy w' r) (hne : some p ≠ r) : Blk w' p C t := (hg.block p h.lt hne).trans h
theorem Blk.below {w w' : World} {p : Nat} {C : Array Value} {t : TypeId} {B : Nat} (h : Blk w p C t) (hb : Below B w w') (hp : p < B) : Blk w' p C t := (hb.block p hp).trans h
theorem map_blk {w : World} {k : TypeId} {R : Value → Option (DataW Unit × List MemPlace)} {b n : Nat} {D : DataW Unit} (h : w.ownsMap Yba.prog k R b n D) {p : Nat} {C : Array Value} {t : TypeId} (kb : Blk w p C t) : b ≠ p := by
  obtain ⟨es, cl, h1, _⟩ := h
  intro e
  subst e
  unfold Blk at kb
  rw [h1] at kb
  cases kb
theorem MapF.below {un : Value → Option Int} {w w' : World} {b n : Nat} {pm : Key → Option Nat} {D : DataW Unit} {B : Nat} (h : MapF un w b n pm D) (hb : Below B w w') (hp : b < B) : MapF un w' b n pm D := h.keep (hb.block b hp)
theorem MapF.grown {un : Value → Option Int} {w w' : World} {b n : Nat} {pm : Key → Option Nat} {D : DataW Unit} {r : Option Nat} (h : MapF un w b n pm D) (hg : w.grownBy w' r) (hne : some b ≠ r) : MapF un w' b n pm D := h.keep (hg.block b h.lt hne)

theorem run_map46 (n : Nat) (w : World) : (Instr.makeMap 46 (some (.int .i64 (n : Int)))).run Yba.prog w = .ok (.map (some w.heap.size)) (w.alloc (.map #[] 0)) := by
  simp [Instr.makeMap, asInt, asIntOf, Result.andThen]

/-- What the new map holds once the keys of met have come. -/
def part (pm : Key → Option Nat) (met : List Key) : Key → Option Nat := fun x => if x ∈ met then pm x else Option.none
theorem part_nil (pm : Key → Option Nat) : part pm [] = fun _ => Option.none := by funext x; simp [part]
theorem part_snoc (pm : Key → Option Nat) (met : List Key) (x : Key) : part pm (met ++ [x]) = upd (part pm met) x (pm x) := by
  funext y
  unfold part upd
  by_cases e : y = x
  · subst e; simp
  · simp [e]
theorem part_all {w : World} {un : Value → Option Int} {b n : Nat} {pm : Key → Option Nat} {D : DataW Unit} (M : MapF un w b n pm D) {left : Lit → Bool} {met : List Key} (hC : Collected D left met) (hl : ∀ kl, left kl = false) : part pm met = pm := by
  funext x
  unfold part
  by_cases hx : x ∈ met
  · rw [if_pos hx]
  · rw [if_neg hx]
    have : ¬ (has D (.string x) = true ∧ left (.string x) = false) := fun h => hx ((hC.2 x).2 h)
    rw [hl, M.has] at this
    cases h : pm x with
    | none => rfl
    | some v => rw [h] at this; simp at this
theorem met_size {w : World} {un : Value → Option Int} {b n : Nat} {pm : Key → Option Nat} {D : DataW Unit} (M : MapF un w b n pm D) {left : Lit → Bool} {met : List Key} (hC : Collected D left met) (hl : ∀ kl, left kl = false) : met.length = Maps.size D := by
  have := (hC.perm M.own law9 Yba.underlying9 hl).length_eq
  rw [this]
  obtain ⟨es, rfl, _⟩ := M.own.tidy law9
  simp [strKeys, Maps.size]

set_option maxRecDepth 100000 in
set_option maxHeartbeats 4000000 in
theorem fun_any (w : World) (q B n : Nat) (C : Array Value) (pm : Key → Option Nat) (D : DataW Unit) (hq : Blk w q C 44) (hC0 : C[0]? = some (.map (some B))) (M : MapF unS w B n pm D) (hn : n ≤ 300) :
    Calls Yba.prog 6 #[.pointer (some ⟨q, 0, Option.none⟩)] w fun e w' => ∃ (b m : Nat) (D' : DataW Unit), e = .returned (.map (some b)) ∧ MapF unF w' b m pm D' ∧ Maps.size D' = Maps.size D ∧ Below w.heap.size w w' := by
  have hsz := M.own.size_le
  have k0 := (hq.cell 0).trans hC0
  have k1 : ∀ o, (w.alloc o).cell? ⟨q, 0, Option.none⟩ = some (.map (some B)) := fun o => ((hq.alloc o).cell 0).trans hC0
  have hmm := run_map46 (Maps.size D)
  have hBl := M.lt
  go_enter Yba.func6, Yba.ntmps6
  go_wp2_with (first
    | (at_len; refine wpList_len_own _ rfl _ 23 rfl 9 33 Yba.underlying23 _ B n _ rfl M.own ?_)
    | (at_range; refine wpList_range_own _ rfl _ 23 rfl 9 33 law9 Yba.underlying23 _ B n _ rfl (M.own.alloc _) ?_; intro w0 hrg0 hg0 hs0))
  go_frame
  simp only [World.size_alloc] at hrg0 hs0 ⊢
  have F0 : MapF unF w0 w.heap.size ([] : List Key).length (part pm []) (.map []) := by
    rw [part_nil]
    exact (MapF.start unF w).grown hg0 (by simp)
  have b0 : Below w.heap.size w w0 := ((Below.refl _ w).alloc (Nat.le_refl _) _).grown hg0 (by simp) (fun j hj => by cases hj)
  clear k0 k1 hmm hg0
  go_loopw [4] (fun _ wr => ∃ (left : Lit → Bool) (cnt : Nat) (met : List Key) (DF : DataW Unit), wr.ranges Yba.prog 9 (Rd unS) B (w.heap.size + 1) n D left cnt ∧ met.length + cnt ≤ Maps.size D ∧ MapF unF wr w.heap.size met.length (part pm met) DF ∧ Maps.size DF = met.length ∧ Hid (Collected D left met) ∧ Below w.heap.size w wr ∧ w.heap.size + 2 ≤ wr.heap.size) (fun _ wr => wr.rangeLeft B (w.heap.size + 1))
  case atStart => exact ⟨_, _, [], .map [], hrg0, by simp, F0, rfl, Collected.start D, b0, by omega⟩
  case round =>
    obtain ⟨left, cnt, met, DF, hrg, hcs, F, hDF, hC, hbel, hsz2⟩ := hrel
    clear hrg0 F0 b0
    go_wp2_with (first
      | (at_next; refine wpList_next_ranges _ rfl _ rfl 9 law9 (Rd unS) encStr decS (fun key kl hk => by obtain ⟨x, hx, _⟩ := Maps.keyOf_str Yba.underlying9 hk; exact ⟨x, hx⟩) (fun v y hv => by obtain ⟨c, rfl, _⟩ := Rd_inv pair_S hv; exact ⟨c, rfl⟩) B (w.heap.size + 1) n _ _ _ rfl hrg ?_ ?_))
    · intro hc0 hl0
      have hall := part_all M hC.out hl0
      have hsm := met_size M hC.out hl0
      rw [hall] at F
      clear hC hrg hcs hl0 hall
      go_wp2
      go_ret
      exact ⟨_, _, DF, rfl, F, by rw [hDF, hsm], hbel⟩
    · intro x c kl yd yp w2 cnt2 hkey hlk hv hat hrg2 hlt hg2 hs2 hen
      obtain ⟨x', ex, rfl, hxl⟩ := Maps.keyOf_str Yba.underlying9 hkey
      obtain rfl : x = x' := encStr_inj ex
      obtain ⟨s, rfl⟩ := key_ex x
      rw [encKey] at hen hkey ⊢
      have hsl : s.size ≤ maxLen := by rw [show s.size = (key s).length by simp [key]]; exact hxl
      have hpm : (pm (key s)).isSome = true := by rw [← M.has]; exact has_true_of_atKey hat
      obtain ⟨p, hp⟩ := Option.isSome_iff_exists.1 hpm
      have hcp : c = p := by
        obtain ⟨c', e1, hc', e2⟩ := Rd_inv pair_S hv
        have h1 := M.at_ _ p hp (.lit (.bool true))
        simp only [Prod.mk.injEq] at e2
        rw [hat, e2.1] at h1
        have h2 := lit_inj_i h1
        by_cases hneg : c < 0
        · rw [h2, decS_nat] at e1
          unfold decS at e1
          rw [if_pos hneg] at e1
          simp [stv, fnv] at e1
        · exact good_S _ _ (by omega) (by omega) (by rw [e1, h2])
      subst hcp
      rw [decS_nat] at hen ⊢
      have hnew : key s ∉ met := fun hx => by have := ((hC.out.2 _).1 hx).2; rw [hlk] at this; cases this
      have hC2 : Hid (Collected D (fun z => left z && !z.sameKey (.string (key s))) (met ++ [key s])) := hC.out.step hlk hat
      have hmeas : wr.rangeLeft B (w.heap.size + 1) = cnt := hrg.left_eq
      have F2 := F.grown hg2 (by simp)
      have hbel2 : Below w.heap.size w w2 := hbel.grown hg2 hbel.size (fun j hj => by cases hj; omega)
      have hsz3 : w.heap.size + 2 ≤ w2.heap.size := by omega
      clear hv hat ex hC hrg hbel F hg2 hpm hs2
      have hst : stv p = .agg #[.func (.func 5) #[] #[.pointer (some ⟨p, 0, Option.none⟩)], .slice Option.none 0 0, .nilFunc, .nilFunc] := rfl
      rw [hst] at hen ⊢
      have hfd : ∀ o, MapF unF (w2.alloc o) w.heap.size met.length (part pm met) DF := fun o => F2.grown (World.grownBy_alloc w2 o Option.none) (by simp)
      have hR : Rd unF (.func (.func 5) #[] #[.pointer (some ⟨p, 0, Option.none⟩)]) = some (.lit (.int .i64 (p : Int)), []) := by have := Rd_mk pair_F (p : Int) (by omega); rw [decF_nat] at this; exact this
      go_wp2_with (first
        | (at_mapUpdate; (refine wpList_mapUpdate_own _ rfl _ _ _ 46 rfl 9 28 law9 Yba.underlying46 _ w.heap.size met.length DF rfl (hfd _).own (by unfold maxLen; omega) _ _ _ rfl rfl hkey (.lit (.int .i64 (p : Int))) [] hR ?_; intro w3 ho3 hg3)))
      have hF3 := F2.put (key s) p ho3
      have hsp := F2.size_put (key s) (.lit (.int .i64 (p : Int)))
      have hpn : part pm met (key s) = Option.none := by unfold part; rw [if_neg hnew]
      rw [hpn] at hsp
      rw [← hp, ← part_snoc] at hF3
      have hrg3 := (hrg2.alloc _).kept hg3 (by simp; omega) (by simp)
      have b3 := (hbel2.alloc hbel2.size _).grown hg3 (by have := hbel2.size; simp; omega) (fun j hj => by cases hj; exact Nat.le_refl _)
      have hs3 := hg3.size
      rw [World.size_alloc] at hs3
      go_frame
      go_roundw
      case rel => exact ⟨_, cnt2, met ++ [key s], _, hrg3, by simp; omega, by simpa using hF3, by rw [hsp]; simp [hDF], hC2, b3, by omega⟩
      case measure => rw [hrg3.left_eq, hmeas]; exact hlt
end Go.Proofs.Ybulkbwhy
