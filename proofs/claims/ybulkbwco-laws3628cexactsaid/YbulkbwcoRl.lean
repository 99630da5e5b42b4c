/-
  The roll's memory: the struct, the names, the places, the powers, the total.
-/
import Derived.Test.YbulkbwcoRoll0
import Derived.Deep.OwnRows
namespace Go.Proofs.Ybulkbwco
open Go.RowKit Go.Maps Go.WideMaps Go.Sort
set_option linter.unusedVariables false

/-- The places after k rounds. -/
def plc (L : List Key) : Nat → Key → Option Int
  | 0 => fun _ => none
  | k + 1 => upd (plc L k) (L.getD k []) (some (k : Int))
theorem getD_nodup {L : List Key} (nd : L.Nodup) {i j : Nat} (hi : i < L.length) (hj : j < L.length) (e : L.getD i [] = L.getD j []) : i = j := by
  simp only [List.getD, List.getElem?_eq_getElem hi, List.getElem?_eq_getElem hj, Option.getD_some] at e
  exact (List.getElem_inj nd).1 e
theorem plc_at {L : List Key} (nd : L.Nodup) {i k : Nat} (hi : i < k) (hk : k ≤ L.length) : plc L k (L.getD i []) = some (i : Int) := by
  induction k with
  | zero => omega
  | succ k ih =>
    show upd (plc L k) (L.getD k []) (some (k : Int)) (L.getD i []) = _
    by_cases e : i = k
    · subst e; exact upd_same _ _ _
    · rw [upd_other _ _ (fun h => e (getD_nodup nd (by omega) (by omega) h))]
      exact ih (by omega) (by omega)
theorem plc_none {L : List Key} (nd : L.Nodup) {k j : Nat} (hj : k ≤ j) (hk : j < L.length) : plc L k (L.getD j []) = none := by
  induction k with
  | zero => rfl
  | succ k ih =>
    show upd (plc L k) (L.getD k []) (some (k : Int)) (L.getD j []) = _
    rw [upd_other _ _ (fun h => by have := getD_nodup nd hk (by omega) h; omega)]
    exact ih (by omega)
/-- The sum of the first k powers. -/
def psum (pw : Key → Int) (L : List Key) : Nat → Int
  | 0 => 0
  | k + 1 => psum pw L k + pw (L.getD k [])
theorem psum_le (pw : Key → Int) (L : List Key) (hp : ∀ x, -9223372036854775808 ≤ pw x ∧ pw x ≤ 9223372036854775807) (k : Nat) : -(9223372036854775808 * (k : Int)) ≤ psum pw L k ∧ psum pw L k ≤ 9223372036854775808 * (k : Int) := by
  induction k with
  | zero => simp [psum]
  | succ k ih =>
    have := hp (L.getD k [])
    simp only [psum]
    push_cast
    omega
theorem mag_lt (pw : Key → Int) (L : List Key) (hp : ∀ x, -9223372036854775808 ≤ pw x ∧ pw x ≤ 9223372036854775807) (k : Nat) (hk : k ≤ 1024) : mag (psum pw L k) < 170141183460469231731687303715884105728 := by
  have := psum_le pw L hp k
  unfold mag
  split <;> omega
theorem mag_one {x : Int} (h : -9223372036854775808 ≤ x ∧ x ≤ 9223372036854775807) : mag x < 18446744073709551616 := by
  unfold mag
  split <;> omega
theorem nat_blk {w : World} {v : Value} {n : Int} (h : NatAt w v n) {g : Nat} (hg : v.ownBlock = some g) : ∃ C, Blk w g C 67 := by
  rcases h.2 with ⟨_, rfl⟩ | ⟨g', c, cur, rfl, hh⟩
  · cases hg
  · cases hg; exact ⟨cur, hh.row⟩
theorem map_blk {w : World} {k : TypeId} {R : Value → Option (DataW Unit × List MemPlace)} {b n : Nat} {D : DataW Unit} (h : w.ownsMap Yba.prog k R b n D) {p : Nat} {C : Array Value} {t : TypeId} (kb : Blk w p C t) : b ≠ p := by
  obtain ⟨es, cl, h1, _⟩ := h
  intro e
  subst e
  rw [show w.heap[b]? = _ from kb] at h1
  cases h1
theorem row_free {w w' : World} {base e n : Nat} {v : Value} {xs : List Value} (h : w.ownsRow base e 1 v n xs) (hs : w.heap.size ≤ w'.heap.size) (hb : ∀ g, v.ownBlock = some g → w'.heap[g]? = w.heap[g]?) : w'.ownsRow base e 1 v n xs := by
  refine ⟨h.1, ?_⟩
  rcases h.2 with h | ⟨g, cap, cur, rfl, h1, h2, h3⟩
  · exact .inl h
  · exact .inr ⟨g, cap, cur, rfl, h1, (hb g rfl).trans h2, h3⟩

structure Rl (base : Nat) (w : World) (q pT g cap bm gp n : Nat) (L : List Key) (pw : Key → Int) (km kc kt : Nat) (vT : Value) (DM : DataW Unit) (C : Array Value) : Prop where
  mm : MapI 3 w bm km (plc L km) DM
  ms : Maps.size DM = km
  rn : w.ownsRow base 9 1 (.slice (some ⟨g, 0, none⟩) n cap) n (L.map encStr)
  st : Blk w q #[.slice (some ⟨g, 0, none⟩) n cap, .map (some bm), .slice (some ⟨gp, 0, none⟩) n n, .pointer (some ⟨pT, 0, none⟩)] 33
  bc : Blk w gp C 31
  cs : C.size = n
  ps : ∀ i, i < kc → ∃ p v, C[i]? = some (.pointer (some ⟨p, 0, none⟩)) ∧ IntIs w p v (pw (L.getD i [])) ∧ p ≠ pT ∧ (vT.ownBlock = none ∨ vT.ownBlock ≠ v.ownBlock)
  tot : IntIs w pT vT (psum pw L kt)
  bT : base ≤ pT
  bV : ∀ g, vT.ownBlock = some g → base ≤ g
  bM : base ≤ bm
  bP : base ≤ gp
  bQ : base ≤ q

variable {base : Nat} {w w' : World} {q pT g cap bm gp n : Nat} {L : List Key} {pw : Key → Int} {km kc kt : Nat} {vT : Value} {DM : DataW Unit} {C : Array Value}

theorem IntIs.bel {w w' : World} {p : Nat} {v : Value} {T : Int} (h : IntIs w p v T) (hb : Below w.heap.size w w') : IntIs w' p v T := h.turned (Turned.of_below (S := fun _ => False) (B := 0) hb) (fun h => h) (fun _ _ h => h)

theorem Rl.below (h : Rl base w q pT g cap bm gp n L pw km kc kt vT DM C) (hb : Below w.heap.size w w') : Rl base w' q pT g cap bm gp n L pw km kc kt vT DM C := by
  have hg : w.grownBy w' none := ⟨hb.os, hb.tape, hb.output, hb.size, fun k hk _ => hb.block k hk⟩
  exact { h with
    mm := h.mm.keep (hb.block bm (by obtain ⟨es, cl, h1, _⟩ := h.mm.own; exact (Array.getElem?_eq_some_iff.1 h1).1))
    rn := h.rn.kept hg (.inr (by simp [Value.ownBlock]))
    st := h.st.grown hg (by simp)
    bc := h.bc.grown hg (by simp)
    ps := fun i hi => by
      obtain ⟨p, v, h1, h2, h3⟩ := h.ps i hi
      exact ⟨p, v, h1, h2.bel hb, h3⟩
    tot := h.tot.bel hb }
/-- A place is set. -/
theorem Rl.put (h : Rl base w q pT g cap bm gp n L pw km kc kt vT DM C) (nd : L.Nodup) (hk : km < L.length) (ho : w'.ownsMap Yba.prog 9 (plainElem (H := Unit) Yba.prog 3) bm (km + 1) (DM.put (.string (L.getD km [])) (.lit (.int .i64 (km : Int))))) (hg : w.grownBy w' (some bm)) :
    Rl base w' q pT g cap bm gp n L pw (km + 1) kc kt vT (DM.put (.string (L.getD km [])) (.lit (.int .i64 (km : Int)))) C := by
  have hne : ∀ {p : Nat} {C : Array Value} {t : TypeId}, Blk w p C t → some p ≠ some bm := fun hp e => map_blk h.mm.own hp (Option.some.inj e).symm
  have hint : ∀ {p : Nat} {v : Value} {T : Int}, IntIs w p v T → IntIs w' p v T := fun {p v T} hi => hi.keep (hg.block p hi.lt (hne (show Blk w p _ 38 from hi.blk))) (fun j hj => by
    obtain ⟨c, hc⟩ := nat_blk hi.nat hj
    exact hg.block j hc.lt (hne hc))
  obtain ⟨es, hD, hpw, _⟩ := h.mm.own.entries law9
  refine { h with
    mm := h.mm.put _ _ ho
    ms := ?_
    rn := h.rn.kept hg (.inr (fun e => ?_))
    st := h.st.grown hg (hne h.st)
    bc := h.bc.grown hg (hne h.bc)
    ps := fun i hi => by
      obtain ⟨p, v, h1, h2, h3⟩ := h.ps i hi
      exact ⟨p, v, h1, hint h2, h3⟩
    tot := hint h.tot }
  · rw [Maps.size_put ⟨es, hD, hpw⟩, h.mm.has, plc_none nd (Nat.le_refl _) hk, h.ms]
    rfl
  · rcases h.rn.2 with ⟨h', _⟩ | ⟨g', cap', cur, h', hb, hg', _⟩
    · cases h'
    · cases h'
      exact hne (show Blk w g cur 9 from hg') e
/-- A power is stored. -/
theorem Rl.store (h : Rl base w q pT g cap bm gp n L pw km kc kt vT DM C) (hk : kc < n) {p : Nat} {v : Value} (hi : IntIs w p v (pw (L.getD kc []))) (hp : p ≠ pT) (hv : vT.ownBlock = none ∨ vT.ownBlock ≠ v.ownBlock) :
    Rl base (w.setCell ⟨gp, kc, none⟩ (.pointer (some ⟨p, 0, none⟩))) q pT g cap bm gp n L pw km (kc + 1) kt vT DM (C.setIfInBounds kc (.pointer (some ⟨p, 0, none⟩))) := by
  have hg := grown_set w ⟨gp, kc, none⟩ (.pointer (some ⟨p, 0, none⟩))
  have hint : ∀ {p' : Nat} {v : Value} {T : Int}, IntIs w p' v T → IntIs (w.setCell ⟨gp, kc, none⟩ (.pointer (some ⟨p, 0, none⟩))) p' v T := fun {p' v T} hi => hi.keep (hg.block p' hi.lt (fun e => Blk.apart (show Blk w p' _ 38 from hi.blk) h.bc (by decide) (Option.some.inj e))) (fun j hj => by
    obtain ⟨c, hc⟩ := nat_blk hi.nat hj
    exact hg.block j hc.lt (fun e => Blk.apart hc h.bc (by decide) (Option.some.inj e)))
  refine { h with
    mm := h.mm.keep (hg.block bm (by obtain ⟨es, cl, h1, _⟩ := h.mm.own; exact (Array.getElem?_eq_some_iff.1 h1).1) (fun e => map_blk h.mm.own h.bc (Option.some.inj e)))
    rn := h.rn.kept hg (.inr (row_blk h.rn h.bc (by decide)).symm)
    st := h.st.grown hg (fun e => Blk.apart h.st h.bc (by decide) (Option.some.inj e))
    bc := h.bc.set kc _
    cs := by simp [h.cs]
    ps := fun i hi' => ?_
    tot := hint h.tot }
  by_cases e : i = kc
  · subst e
    exact ⟨p, v, by simp [h.cs, hk], hint hi, hp, hv⟩
  · obtain ⟨p', v', h1, h2, h3⟩ := h.ps i (by omega)
    exact ⟨p', v', by rw [Array.getElem?_setIfInBounds_ne (Ne.symm e)]; exact h1, hint h2, h3⟩
/-- The total has grown. -/
theorem Rl.sum (h : Rl base w q pT g cap bm gp n L pw km kc kt vT DM C) {v' : Value} (s : Sum1 w w' pT vT v' (psum pw L kt + pw (L.getD kt []))) (hbw : base ≤ w.heap.size) :
    Rl base w' q pT g cap bm gp n L pw km kc (kt + 1) v' DM C := by
  have tb : Blk w pT _ 38 := h.tot.blk
  have hne : ∀ {p : Nat} {C : Array Value} {t : TypeId}, Blk w p C t → t ≠ 38 → t ≠ 67 → ¬ (p = pT ∨ vT.ownBlock = some p) := by
    rintro p c t hp h1 h2 (e | e)
    · exact Blk.apart hp tb h1 e
    · obtain ⟨c', hc'⟩ := nat_blk h.tot.nat e
      exact Blk.apart hp hc' h2 rfl
  have hm : ¬ (bm = pT ∨ vT.ownBlock = some bm) := by
    rintro (e | e)
    · exact map_blk h.mm.own tb e
    · obtain ⟨c', hc'⟩ := nat_blk h.tot.nat e
      exact map_blk h.mm.own hc' rfl
  refine { h with
    mm := h.mm.keep (s.turned.block bm (by obtain ⟨es, cl, h1, _⟩ := h.mm.own; exact (Array.getElem?_eq_some_iff.1 h1).1) hm)
    rn := row_free h.rn s.turned.size (fun j hj => ?_)
    st := h.st.turned s.turned (hne h.st (by decide) (by decide))
    bc := h.bc.turned s.turned (hne h.bc (by decide) (by decide))
    ps := fun i hi => ?_
    tot := s.int
    bV := fun j hj => ?_ }
  · rcases h.rn.2 with ⟨h', _⟩ | ⟨g', cap', cur, h', hb, hg', _⟩
    · cases h'
    · cases h'
      cases hj
      have hb' : Blk w g cur 9 := hg'
      exact s.turned.block g hb'.lt (hne hb' (by decide) (by decide))
  · obtain ⟨p, v, h1, h2, h3, h4⟩ := h.ps i hi
    refine ⟨p, v, h1, h2.turned s.turned ?_ ?_, h3, ?_⟩
    · rintro (e | e)
      · exact h3 e
      · exact h2.apart h.tot.nat e
    · rintro j hj (e | e)
      · subst e; exact h.tot.apart h2.nat hj
      · rcases h4 with h4 | h4
        · rw [h4] at e; cases e
        · exact h4 (e.trans hj.symm)
    · rcases s.place with e | ⟨j, e, hj⟩
      · rw [e]; exact h4
      · right
        rw [e]
        intro e'
        have := h2.nat.lt j e'.symm
        omega
  · rcases s.place with e | ⟨j', e, hj'⟩
    · exact h.bV j (e ▸ hj)
    · rw [e] at hj; cases hj; omega
theorem apart_new {w : World} {v u : Value} {n : Int} (h : NatAt w v n) (l : ∀ g, u.ownBlock = some g → w.heap.size ≤ g) : v.ownBlock = none ∨ v.ownBlock ≠ u.ownBlock := by
  cases hv : v.ownBlock with
  | none => exact .inl rfl
  | some j =>
    right
    intro e
    have := h.lt j hv
    have := l j e.symm
    omega
theorem Rl.bel_sum (h : Rl base w q pT g cap bm gp n L pw km kc kt vT DM C) {a : World} (hb : Below base a w) {v' : Value} {X : Int} (s : Sum1 w.drew w' pT vT v' X) (hs : base ≤ w.heap.size) : Below base a w' :=
  hb.trans ⟨s.turned.os, s.turned.tape, s.turned.output, s.turned.size, fun k hk => s.turned.block k (Nat.lt_of_lt_of_le hk hs) (by
    rintro (e | e)
    · have := h.bT; omega
    · have := h.bV k e; omega)⟩
/-- A store into a block of another kind. -/
theorem Rl.low (h : Rl base w q pT g cap bm gp n L pw km kc kt vT DM C) {b j : Nat} {c : Array Value} (u : Value) (hb : Blk w b c 33) (hq : b ≠ q) : Rl base (w.setCell ⟨b, j, none⟩ u) q pT g cap bm gp n L pw km kc kt vT DM C ∧ Blk (w.setCell ⟨b, j, none⟩ u) b (c.setIfInBounds j u) 33 := by
  have hg := grown_set w ⟨b, j, none⟩ u
  have hint : ∀ {p' : Nat} {v : Value} {T : Int}, IntIs w p' v T → IntIs (w.setCell ⟨b, j, none⟩ u) p' v T := fun {p' v T} hi => hi.keep (hg.block p' hi.lt (fun e => Blk.apart (show Blk w p' _ 38 from hi.blk) hb (by decide) (Option.some.inj e))) (fun j hj => by
    obtain ⟨c, hc⟩ := nat_blk hi.nat hj
    exact hg.block j hc.lt (fun e => Blk.apart hc hb (by decide) (Option.some.inj e)))
  refine ⟨{ h with
    mm := h.mm.keep (hg.block bm (by obtain ⟨es, cl, h1, _⟩ := h.mm.own; exact (Array.getElem?_eq_some_iff.1 h1).1) (fun e => map_blk h.mm.own hb (Option.some.inj e)))
    rn := h.rn.kept hg (.inr (row_blk h.rn hb (by decide)).symm)
    st := h.st.grown hg (by simp; omega)
    bc := h.bc.grown hg (fun e => Blk.apart h.bc hb (by decide) (Option.some.inj e))
    ps := fun i hi' => ?_
    tot := hint h.tot }, hb.set j u⟩
  obtain ⟨p', v', h1, h2, h3⟩ := h.ps i hi'
  exact ⟨p', v', h1, hint h2, h3⟩
/-- At the start of the second loop. -/
theorem rl_start {w2 : World} (pw : Key → Int) (hst2 : Blk w2 q #[.slice (some ⟨g, 0, none⟩) n cap, .map none, .slice none 0 0, .pointer (some ⟨pT, 0, none⟩)] 33) (htt2 : Blk w2 pT #[.bool false, .slice none 0 0] 38) (hrow2 : w2.ownsRow base 9 1 (.slice (some ⟨g, 0, none⟩) n cap) n (L.map encStr)) (bT : base ≤ pT) (bQ : base ≤ q) (bs : base ≤ w2.heap.size) (hn : L.length = n) :
    Rl base ((((w2.alloc (.map #[] 0)).setCell ⟨q, 1, none⟩ (.map (some w2.heap.size))).alloc (.cells (madeCells #[.pointer none] n) 31)).setCell ⟨q, 2, none⟩ (.slice (some ⟨w2.heap.size + 1, 0, none⟩) n n)) q pT g cap w2.heap.size (w2.heap.size + 1) n L pw 0 0 0 (.slice none 0 0) (.map []) (madeCells #[.pointer none] n) ∧
    Below base w2 ((((w2.alloc (.map #[] 0)).setCell ⟨q, 1, none⟩ (.map (some w2.heap.size))).alloc (.cells (madeCells #[.pointer none] n) 31)).setCell ⟨q, 2, none⟩ (.slice (some ⟨w2.heap.size + 1, 0, none⟩) n n)) := by
  have g2 := grown_set (w2.alloc (.map #[] 0)) ⟨q, 1, none⟩ (.map (some w2.heap.size))
  have hql := hst2.lt
  have hne := hst2.apart htt2 (by decide)
  generalize e2 : (w2.alloc (.map #[] 0)).setCell ⟨q, 1, none⟩ (.map (some w2.heap.size)) = W2 at g2
  have z2 : W2.heap.size = w2.heap.size + 1 := by rw [← e2]; simp [World.setCell]
  have g3 : W2.grownBy (W2.alloc (.cells (madeCells #[.pointer none] n) 31)) none := World.grownBy_alloc _ _ _
  have g4 := grown_set (W2.alloc (.cells (madeCells #[.pointer none] n) 31)) ⟨q, 2, none⟩ (.slice (some ⟨w2.heap.size + 1, 0, none⟩) n n)
  have s4 := (((hst2.alloc (.map #[] 0)).set 1 (.map (some w2.heap.size))).alloc (.cells (madeCells #[.pointer none] n) 31)).set 2 (.slice (some ⟨w2.heap.size + 1, 0, none⟩) n n)
  rw [e2] at s4
  have hm0 : MapI 3 (w2.alloc (.map #[] 0)) w2.heap.size 0 (plc L 0) (.map []) := ⟨World.ownsMap_made w2 _ _ _, fun x => rfl, fun x p hp => by cases hp⟩
  have hb3 := Blk.new W2 (madeCells #[.pointer none] n) 31
  rw [z2] at hb3
  refine ⟨{
    mm := ((hm0.keep (g2.block _ (by simp) (by simp; omega))).keep (g3.block _ (by omega) (by simp))).keep (g4.block _ (by simp; omega) (by simp; omega))
    ms := rfl
    rn := (((hrow2.alloc _).kept g2 (.inr (row_blk hrow2 hst2 (by decide)).symm)).alloc _).kept g4 (.inr (row_blk hrow2 hst2 (by decide)).symm)
    st := by simpa using s4
    bc := hb3.grown g4 (by simp; omega)
    cs := by simp [madeCells]
    ps := fun i hi => by omega
    tot := ⟨?_, by simp [mag, psum], .inl ⟨by simp [mag, psum], rfl⟩⟩
    bT := bT
    bV := fun j hj => by cases hj
    bM := bs
    bP := by omega
    bQ := bQ }, ?_⟩
  · have := (((htt2.alloc (.map #[] 0)).grown g2 (by simp; omega)).alloc (.cells (madeCells #[.pointer none] n) 31)).grown g4 (by simp; omega)
    simpa [psum, Blk] using this
  · exact ((((Below.refl base w2).alloc bs _).grown g2 (by simp; omega) (fun j hj => by cases hj; exact bQ)).alloc (by omega) _).grown g4 (by simp; omega) (fun j hj => by cases hj; exact bQ)
end Go.Proofs.Ybulkbwco
