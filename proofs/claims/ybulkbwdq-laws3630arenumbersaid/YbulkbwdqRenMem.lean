/-
  The law's memory and its plain side.
-/
import Derived.Test.YbulkbwdqNum
import Derived.Laws.CopyRow
namespace Go.Proofs.Ybulkbwdq
open Go.RowKit
set_option linter.unusedVariables false

theorem made_zero32 (n : Nat) : (madeCells (Value.int .i32 0).cells (n * 1)).toList = (List.replicate n (0 : Int)).map (Value.int .i32) := by
  apply List.ext_getElem (by simp [madeCells])
  intro j h1 h2
  simp [madeCells, Value.cells, Nat.mod_one]
/-- 'copy' of m int32 into a row of m. -/
theorem copy_full (w : World) (base gD m : Nat) (ty : TypeId) (a : Addr) (sCap : Nat) (xs : List Int) (ys : List Value) (hD : w.ownsRow base 21 1 (.slice (some ⟨gD, 0, none⟩) m m) m ys) (hl : xs.length = m) (hsrc : ∀ j, j < m → w.cell? (a.add j) = some (.int .i32 (xs.getD j 0))) :
    ∃ w', (Builtin.copy_ #[23, 23] ty #[.slice (some ⟨gD, 0, none⟩) m m, .slice (some a) m sCap]).run Yba.prog w = .ok (.int .i64 m) w' ∧ w'.ownsRow base 21 1 (.slice (some ⟨gD, 0, none⟩) m m) m (xs.map (Value.int .i32)) ∧ w.grownBy w' (some gD) := by
  rcases hD.2 with ⟨h', _⟩ | ⟨g, cap, cur, h', hb, hg, h1, h2, h3, h4⟩
  · cases h'
  · cases h'
    have hz : cur.toList.drop m = [] := List.drop_of_length_le (by simp [h3])
    have := run_copy_row (P := Yba.prog) w 23 23 ty 21 gD 0 m m a m sCap cur 21 (xs.map (Value.int .i32)) Yba.underlying23 (by kernel_rfl) hg (by simp [hl]) (fun j v hj => by
      rw [List.getElem?_map] at hj
      obtain ⟨x, hx, rfl⟩ := Option.map_eq_some_iff.1 hj
      have hjl := (List.getElem?_eq_some_iff.1 hx).1
      rw [hsrc j (by omega)]
      simp [List.getD, hx]) (by simp [hl, h3]) (by intro v hv; obtain ⟨x, _, rfl⟩ := List.mem_map.1 hv; rfl)
    refine ⟨w.setRow gD (xs.map (Value.int .i32)).toArray, by rw [this]; simp [hl, goInt, hz], ?_, ?_⟩
    · exact ⟨by simp [hl], .inr ⟨gD, m, (xs.map (Value.int .i32)).toArray, rfl, hb, setRow_heap w gD _ _ 21 _ hg, Nat.le_refl _, h2, by simp [hl], List.take_of_length_le (by simp [hl])⟩⟩
    · exact ⟨rfl, rfl, rfl, by simp [World.setRow], fun k hk hne => setRow_other w gD k _ (fun e => hne (by rw [e]))⟩
theorem wpList_copy32 {w : World} {ops : Array Oper} {rest : List Oper} {o : Oper} {a : Act} {Q : Exit → Act → World → Prop} (hgd : o.guard = none) (d s : Operand)
    (ho : o.op = .call { callee := .builtin .copy, args := #[d, s], argTypes := #[23, 23] }) (base gD m : Nat) (x : Addr) (sCap : Nat) (xs : List Int) (ys : List Value) (hd : a.eval d = .slice (some ⟨gD, 0, none⟩) m m) (hs : a.eval s = .slice (some x) m sCap)
    (hD : w.ownsRow base 21 1 (.slice (some ⟨gD, 0, none⟩) m m) m ys) (hl : xs.length = m) (hsrc : ∀ j, j < m → w.cell? (x.add j) = some (.int .i32 (xs.getD j 0)))
    (h : ∀ w', w'.ownsRow base 21 1 (.slice (some ⟨gD, 0, none⟩) m m) m (xs.map (Value.int .i32)) → w.grownBy w' (some gD) → wpList Yba.prog ops Q rest (a.put o.dst (.int .i64 m)) w') : wpList Yba.prog ops Q (o :: rest) a w := by
  refine wpList_plain hgd fun K hK => ?_
  obtain ⟨w', hrun, h1, h2⟩ := copy_full w base gD m o.type x sCap xs ys hD hl hsrc
  unfold Oper.wp
  simp [execOp, ho, resolve, invoke, builtin, hd, hs, hrun, Result.andThen]
  exact hK _ _ (h w' h1 h2)

/-- What the law lays for x. -/
def valOf (nr : Nat) (x : Nat) : Int := if x % (nr + 2) = nr then -1 else if x % (nr + 2) = nr + 1 then -2 else ((x % (nr + 2) : Nat) : Int)
theorem valOf_ok (nr x : Nat) : valOf nr x = -1 ∨ Valid nr (valOf nr x) := by
  unfold valOf Valid
  have := Nat.mod_lt x (show 0 < nr + 2 by omega)
  by_cases h1 : x % (nr + 2) = nr
  · simp [h1]
  · by_cases h2 : x % (nr + 2) = nr + 1
    · right; left; simp [h2]
    · right; right; rw [if_neg h1, if_neg h2]; omega
/-- The values after k rounds of the first loop. -/
def laid (nr : Nat) (raws : List Nat) (k m : Nat) : List Int := (raws.take k).map (valOf nr) ++ List.replicate (m - k) 0
theorem laid_set (nr : Nat) (raws : List Nat) (k m : Nat) (h : k < m) (hm : m ≤ raws.length) : (laid nr raws k m).set k (valOf nr (raws.getD k 0)) = laid nr raws (k + 1) m := by
  have e : (raws.take (k + 1)).map (valOf nr) = (raws.take k).map (valOf nr) ++ [valOf nr (raws.getD k 0)] := by
    rw [List.take_add_one, List.map_append]
    simp [List.getD, show k < raws.length by omega]
  unfold laid
  rw [List.set_append_right _ _ (by simp; omega), show k - ((raws.take k).map (valOf nr)).length = 0 by simp; omega, show m - k = (m - (k + 1)) + 1 by omega, List.replicate_succ, List.set_cons_zero, e, List.append_assoc]
  rfl
theorem laid_len (nr : Nat) (raws : List Nat) (k m : Nat) (h : k ≤ m) (hm : m ≤ raws.length) : (laid nr raws k m).length = m := by simp [laid]; omega
theorem laid_none (nr : Nat) (raws : List Nat) (m : Nat) : laid nr raws 0 m = List.replicate m 0 := by simp [laid]
theorem laid_all (nr : Nat) (raws : List Nat) (m : Nat) : laid nr raws m m = (raws.take m).map (valOf nr) := by simp [laid]

/-- The row stays where the world has turned at other blocks. -/
theorem row_turned {w w' : World} {S : Nat → Prop} {base e s n : Nat} {v : Value} {xs : List Value} (h : w.ownsRow base e s v n xs) (t : Turned w w' S) (hn : ∀ g, v.ownBlock = some g → ¬ S g) : w'.ownsRow base e s v n xs := by
  refine ⟨h.1, ?_⟩
  rcases h.2 with h2 | ⟨g, cap, cur, rfl, h2, h3, h4⟩
  · exact .inl h2
  · exact .inr ⟨g, cap, cur, rfl, h2, (t.block g (Array.getElem?_eq_some_iff.1 h3).1 (hn g rfl)).trans h3, h4⟩
theorem below_turned {w w1 w' : World} {S : Nat → Prop} (h : Below w.heap.size w w1) (t : Turned w1 w' S) (hn : ∀ k, S k → w.heap.size ≤ k) : Below w.heap.size w w' :=
  ⟨t.os.trans h.os, t.tape.trans h.tape, t.output.trans h.output, Nat.le_trans h.size t.size, fun k hk => (t.block k (Nat.lt_of_lt_of_le hk h.size) (fun e => by have := hn k e; omega)).trans (h.block k hk)⟩
/-- The row cut to nothing. -/
theorem row_cut0 {w : World} {base e s n g c : Nat} {xs : List Value} (h : w.ownsRow base e s (.slice (some ⟨g, 0, none⟩) n c) n xs) : w.ownsRow base e s (.slice (some ⟨g, 0, none⟩) 0 c) 0 [] := by
  rcases h.2 with ⟨h', _⟩ | ⟨g', cap, cur, h', h1, h2, h3, h4, h5, h6⟩
  · cases h'
  · cases h'
    exact ⟨by simp, .inr ⟨g, c, cur, rfl, h1, h2, Nat.zero_le _, h4, h5, by simp⟩⟩
/-- number, at the law's own tagger and key. -/
theorem num_at (W w : World) (nr m gO : Nat) (aR : Option Addr) (rl rc : Nat) (vals : List Int) (T U : Array Value) (hT : T[20]? = some (.slice aR rl rc)) (hU : U[1]? = some (.int .i64 (nr : Int))) (hnr : nr ≤ 255) (hm : m ≤ 1024) (hb : Below W.heap.size W w) (hrl : rl ≤ rc) (hR : w.ownsRow W.heap.size 21 1 (.slice aR 0 rc) 0 []) (hne1 : (Value.slice aR 0 rc).ownBlock ≠ some W.heap.size) (hne2 : (Value.slice aR 0 rc).ownBlock ≠ some gO) (hV : w.ownsRow W.heap.size 21 1 (.slice (some ⟨W.heap.size, 0, none⟩) m m) m (vals.map (Value.int .i32))) (hO : w.ownsRow W.heap.size 21 1 (.slice (some ⟨gO, 0, none⟩) m m) m (vals.map (Value.int .i32))) (hgo : W.heap.size < gO) (hv : vals.length = m ∧ ∀ x ∈ vals, x = -1 ∨ Valid nr x) :
    Calls Yba.prog 6 #[.pointer (some ⟨w.heap.size, 0, none⟩), .pointer (some ⟨w.heap.size + 1, 0, none⟩), .slice (some ⟨W.heap.size, 0, none⟩) m m] ((w.alloc (.cells T 36)).alloc (.cells U 32)) fun e w' => ∃ (aO : Option Addr) (cO : Nat) (ops : List (Int × Int)), e = .returned (.tuple #[.int .i64 ((srcs vals m).length : Int), .slice aO ops.length cO]) ∧
      w'.ownsRow W.heap.size 21 1 (.slice (some ⟨W.heap.size, 0, none⟩) m m) m (((List.range m).map (outAt vals)).map (Value.int .i32)) ∧ w'.ownsRow W.heap.size 21 1 (.slice (some ⟨gO, 0, none⟩) m m) m (vals.map (Value.int .i32)) ∧ w'.ownsRow W.heap.size 42 2 (.slice aO ops.length cO) ops.length (flat ops) ∧
      Fina (srcs vals m).length (max nr (srcs vals m).length) (srcs vals m).length (srcs vals m) ops ∧ (∀ x ∈ srcs vals m, Valid nr x) ∧ (srcs vals m).length ≤ nr + 1 ∧ Below W.heap.size W w' := by
  have hs := hb.size
  have lO := (hO.lt gO rfl).2
  have BU := Blk.new (w.alloc (.cells T 36)) U 32
  rw [World.size_alloc] at BU
  refine (num_any W.heap.size w.heap.size (w.heap.size + 1) nr m W.heap.size m aR rl rc vals _ T U ((Blk.new w T 36).alloc _) hT BU hU ((hR.alloc _).alloc _) ((hV.alloc _).alloc _) hne1 hv.1 hm hnr hv.2 hrl (by simp; omega)).mono ?_
  rintro e w' ⟨aO, cO, ops, rfl, r1, r2, f, v, l, t⟩
  refine ⟨aO, cO, ops, rfl, r1, row_turned ((hO.alloc _).alloc _) t ?_, r2, f, v, l, below_turned ((hb.alloc hs _).alloc (by simp; omega) _) t ?_⟩
  · rintro g hg h
    have hg' : gO = g := Option.some.inj hg
    rcases h with h | h | h
    · omega
    · omega
    · exact hne2 (h.trans (by rw [hg']))
  · rintro g (h | h | h)
    · omega
    · omega
    · exact (hR.lt g h).1

/-- The law's rows. -/
structure RM (base : Nat) (w : World) (gV gO m : Nat) (vP vK : Value) (outs vals keys : List Int) (ops : List (Int × Int)) : Prop where
  rV : w.ownsRow base 21 1 (.slice (some ⟨gV, 0, none⟩) m m) m (outs.map (Value.int .i32))
  rO : w.ownsRow base 21 1 (.slice (some ⟨gO, 0, none⟩) m m) m (vals.map (Value.int .i32))
  rP : w.ownsRow base 42 2 vP ops.length (flat ops)
  rK : w.ownsRow base 3 1 vK keys.length (keys.map (Value.int .i64))
variable {base : Nat} {w w' : World} {gV gO m : Nat} {vP vK : Value} {outs vals keys : List Int} {ops : List (Int × Int)}
theorem RM.alloc (h : RM base w gV gO m vP vK outs vals keys ops) (o : Obj) : RM base (w.alloc o) gV gO m vP vK outs vals keys ops := ⟨h.rV.alloc o, h.rO.alloc o, h.rP.alloc o, h.rK.alloc o⟩
theorem RM.addK (h : RM base w gV gO m vP vK outs vals keys ops) (x : Int) {g c : Nat} (ho : w'.ownsRow base 3 1 (.slice (some ⟨g, 0, none⟩) (keys.length + 1) c) (keys.length + 1) (keys.map (Value.int .i64) ++ [.int .i64 x])) (hg : w.grownBy w' vK.ownBlock) : RM base w' gV gO m vP (.slice (some ⟨g, 0, none⟩) (keys.length + 1) c) outs vals (keys ++ [x]) ops :=
  ⟨h.rV.kept hg (rows_apart h.rV h.rK (by decide)), h.rO.kept hg (rows_apart h.rO h.rK (by decide)), h.rP.kept hg (rows_apart h.rP h.rK (by decide)), by simpa using ho⟩
theorem RM.grown {r : Option Nat} (h : RM base w gV gO m vP vK outs vals keys ops) (hg : w.grownBy w' r) (h1 : some gV ≠ r) (h2 : some gO ≠ r) (h3 : vP.ownBlock = none ∨ vP.ownBlock ≠ r) (h4 : vK.ownBlock = none ∨ vK.ownBlock ≠ r) : RM base w' gV gO m vP vK outs vals keys ops := ⟨h.rV.kept hg (.inr h1), h.rO.kept hg (.inr h2), h.rP.kept hg h3, h.rK.kept hg h4⟩
theorem RM.grown0 (h : RM base w gV gO m vP vK outs vals keys ops) (hg : w.grownBy w' none) : RM base w' gV gO m vP vK outs vals keys ops := h.grown hg (by simp) (by simp) (by cases vP.ownBlock <;> simp) (by cases vK.ownBlock <;> simp)
theorem RM.atV (h : RM base w gV gO m vP vK outs vals keys ops) (i : Nat) (hi : i < m) (hl : outs.length = m) : w.cell? ⟨gV, i, none⟩ = some (.int .i32 (outs.getD i 0)) := by
  rw [h.rV.cellAt i (by omega)]
  simp [List.getD, show i < outs.length by omega]
theorem RM.atO (h : RM base w gV gO m vP vK outs vals keys ops) (i : Nat) (hi : i < m) (hl : vals.length = m) : w.cell? ⟨gO, i, none⟩ = some (.int .i32 (vals.getD i 0)) := by
  rw [h.rO.cellAt i (by omega)]
  simp [List.getD, show i < vals.length by omega]
theorem RM.atK {gK c : Nat} (h : RM base w gV gO m vP (.slice (some ⟨gK, 0, none⟩) keys.length c) outs vals keys ops) (i : Nat) (hi : i < keys.length) : w.cell? ⟨gK, i, none⟩ = some (.int .i64 (keys.getD i 0)) := by
  rw [h.rK.cellAt i (by omega)]
  simp [List.getD, hi]
theorem RM.atP {g c : Nat} (h : RM base w gV gO m (.slice (some ⟨g, 0, none⟩) ops.length c) vK outs vals keys ops) (i : Nat) (hi : i < ops.length) : w.cell? ⟨g, i * 2, none⟩ = some (.int .i32 (ops[i]).1) ∧ w.cell? ⟨g, i * 2 + 1, none⟩ = some (.int .i32 (ops[i]).2) := by
  have f := flat_at ops i hi
  have := h.rP.cells rfl
  refine ⟨?_, ?_⟩
  · have := this _ _ f.1
    rwa [Addr.add_lit, Nat.zero_add] at this
  · have := this _ _ f.2
    rwa [Addr.add_lit, Nat.zero_add] at this
/-- What the keys are after k rounds. -/
def keysOf (nr : Nat) (vals : List Int) (k : Nat) : List Int := (srcs vals k).map (keyOf_ nr)
theorem keysOf_len (nr : Nat) (vals : List Int) (k : Nat) : (keysOf nr vals k).length = (srcs vals k).length := by simp [keysOf]
theorem outs_len (vals : List Int) (m : Nat) : ((List.range m).map (outAt vals)).length = m := by simp
theorem outs_at (vals : List Int) (m k : Nat) (h : k < m) : ((List.range m).map (outAt vals)).getD k 0 = outAt vals k := by simp [List.getD, h]
theorem srcs_le (nr : Nat) (vals : List Int) (k : Nat) (hv : ∀ x ∈ vals, x = -1 ∨ Valid nr x) : (∀ x ∈ srcs vals k, Valid nr x) := fun x hx => by
  have := srcs_mem vals k x hx
  rcases hv x this.2 with h | h
  · exact absurd h this.1
  · exact h
theorem srcs_len (nr : Nat) (vals : List Int) (k : Nat) (hv : ∀ x ∈ vals, x = -1 ∨ Valid nr x) : (srcs vals k).length ≤ nr + 1 := by
  have := sub_length (srcs_nodup vals k) (m := (-2 : Int) :: (List.range nr).map (fun (n : Nat) => (n : Int))) (fun x hx => by
    rcases srcs_le nr vals k hv x hx with e | e
    · simp [e]
    · simp
      right
      exact ⟨x.toNat, by omega, by omega⟩)
  simpa using this
/-- The three ways of a round of the second loop. -/
theorem round_none (nr : Nat) (vals : List Int) (k : Nat) (h : k < vals.length) (hv : vals.getD k 0 = -1) : outAt vals k = -1 ∧ keysOf nr vals (k + 1) = keysOf nr vals k := by
  refine ⟨by unfold outAt outOf; rw [hv, if_pos rfl], ?_⟩
  unfold keysOf
  rw [(curAt_none vals k h hv).2]
theorem round_old (nr : Nat) (vals : List Int) (k : Nat) (h : k < vals.length) (v : Int) (hv : vals.getD k 0 = v) (hn : v ≠ -1) (hm : v ∈ srcs vals k) : ∃ p : Nat, outAt vals k = p ∧ p < (keysOf nr vals k).length ∧ (keysOf nr vals k).getD p 0 = keyOf_ nr v ∧ keysOf nr vals (k + 1) = keysOf nr vals k := by
  obtain ⟨e1, e2⟩ := out_old vals k h v hv hn hm
  have hp := (place_mem _ _).1 hm
  refine ⟨_, e1, by rw [keysOf_len]; exact hp, ?_, by unfold keysOf; rw [e2]⟩
  have := place_at _ _ hm
  simp only [List.getD, List.getElem?_eq_getElem hp, Option.getD_some] at this
  unfold keysOf
  simp [List.getD, hp, this]
theorem round_new (nr : Nat) (vals : List Int) (k : Nat) (h : k < vals.length) (v : Int) (hv : vals.getD k 0 = v) (hn : v ≠ -1) (hvd : Valid nr v) (hm : v ∉ srcs vals k) (hs : ∀ x ∈ srcs vals k, Valid nr x) : outAt vals k = ((keysOf nr vals k).length : Int) ∧ keysOf nr vals (k + 1) = keysOf nr vals k ++ [keyOf_ nr v] ∧ ∀ j, j < (keysOf nr vals k).length → (keysOf nr vals k).getD j 0 ≠ keyOf_ nr v := by
  obtain ⟨e1, e2⟩ := out_new vals k h v hv hn hm
  refine ⟨by rw [keysOf_len]; exact e1, by unfold keysOf; rw [e2]; simp, fun j hj e => ?_⟩
  rw [keysOf_len] at hj
  have : (keysOf nr vals k).getD j 0 = keyOf_ nr ((srcs vals k)[j]) := by unfold keysOf; simp [List.getD, hj]
  rw [this] at e
  have hmem : (srcs vals k)[j] ∈ srcs vals k := List.getElem_mem hj
  exact hm ((key_inj (hs _ hmem) hvd e) ▸ hmem)

/-- .. and the register file. -/
structure RG (base : Nat) (w : World) (gV gO m : Nat) (vP vK : Value) (outs vals keys : List Int) (ops : List (Int × Int)) (gR t : Nat) (regs : List Int) : Prop where
  M : RM base w gV gO m vP vK outs vals keys ops
  rR : w.ownsRow base 3 1 (.slice (some ⟨gR, 0, none⟩) (t + 1) (t + 1)) (t + 1) (regs.map (Value.int .i64))
  ap : vK.ownBlock ≠ some gR
theorem RG.alloc {gR t : Nat} {regs : List Int} (h : RG base w gV gO m vP vK outs vals keys ops gR t regs) (o : Obj) : RG base (w.alloc o) gV gO m vP vK outs vals keys ops gR t regs := ⟨h.M.alloc o, h.rR.alloc o, h.ap⟩
theorem RG.grown0 {gR t : Nat} {regs : List Int} (h : RG base w gV gO m vP vK outs vals keys ops gR t regs) (hg : w.grownBy w' none) : RG base w' gV gO m vP vK outs vals keys ops gR t regs := ⟨h.M.grown0 hg, h.rR.kept hg (.inr (by simp [Value.ownBlock])), h.ap⟩
theorem RG.setR {gR t : Nat} {regs : List Int} (h : RG base w gV gO m vP vK outs vals keys ops gR t regs) (i : Nat) (v : Int) : RG base (w.setCell ⟨gR, i, none⟩ (.int .i64 v)) gV gO m vP vK outs vals keys ops gR t (regs.set i v) := by
  obtain ⟨ho, hg⟩ := h.rR.stored i (.int .i64 v)
  have h1 := rows_apart h.M.rV h.rR (by decide)
  have h2 := rows_apart h.M.rO h.rR (by decide)
  refine ⟨h.M.grown hg (h1.resolve_left (by simp [Value.ownBlock])) (h2.resolve_left (by simp [Value.ownBlock])) (rows_apart h.M.rP h.rR (by decide)) (.inr h.ap), by simpa [List.map_set] using ho, h.ap⟩
theorem RG.atR {gR t : Nat} {regs : List Int} (h : RG base w gV gO m vP vK outs vals keys ops gR t regs) (i : Nat) (hi : i < t + 1) (hl : regs.length = t + 1) : w.cell? ⟨gR, i, none⟩ = some (.int .i64 (regs.getD i 0)) ∧ w.frozen? ⟨gR, i, none⟩ = false := by
  refine ⟨?_, h.rR.frozenAt i⟩
  rw [h.rR.cellAt i (by omega)]
  simp [List.getD, show i < regs.length by omega]

def f0 (nr : Nat) : Int → Int := fun i => if i < nr then 1000 + i else -7
def regAt (f : Int → Int) (t : Nat) : List Int := (List.range (t + 1)).map (fun (i : Nat) => f (i : Int))
def half (f : Int → Int) (k t : Nat) : List Int := (List.range k).map (fun (i : Nat) => f (i : Int)) ++ List.replicate (t + 1 - k) 0
theorem half_none (f : Int → Int) (t : Nat) : half f 0 t = List.replicate (t + 1) 0 := by simp [half]
theorem half_all (f : Int → Int) (t : Nat) : half f (t + 1) t = regAt f t := by simp [half, regAt]
theorem half_len (f : Int → Int) (k t : Nat) (h : k ≤ t + 1) : (half f k t).length = t + 1 := by simp [half]; omega
theorem half_set (f : Int → Int) (k t : Nat) (h : k < t + 1) : (half f k t).set k (f k) = half f (k + 1) t := by
  unfold half
  rw [List.set_append_right _ _ (by simp)]
  rw [show k - ((List.range k).map (fun (i : Nat) => f (i : Int))).length = 0 by simp, show t + 1 - k = (t + 1 - (k + 1)) + 1 by omega, List.replicate_succ, List.set_cons_zero, List.range_succ, List.map_append, List.append_assoc]
  rfl
theorem regAt_len (f : Int → Int) (t : Nat) : (regAt f t).length = t + 1 := by simp [regAt]
theorem regAt_at (f : Int → Int) (t i : Nat) (h : i < t + 1) : (regAt f t).getD i 0 = f i := by simp [regAt, List.getD, h]
theorem regAt_set (f g : Int → Int) (t d : Nat) (v : Int) (hd : g d = v) (ho : ∀ x : Int, x ≠ d → g x = f x) : (regAt f t).set d v = regAt g t := by
  apply List.ext_getElem?
  intro i
  unfold regAt
  by_cases e : d = i
  · subst e
    by_cases h : d < t + 1
    · rw [List.getElem?_set_self (by simpa using h)]
      simp [h, hd]
    · rw [List.getElem?_eq_none (by simp; omega), List.getElem?_eq_none (by simp; omega)]
  · rw [List.getElem?_set_ne e]
    by_cases h : i < t + 1
    · simp [h, ho (i : Int) (by omega)]
    · rw [List.getElem?_eq_none (by simp; omega), List.getElem?_eq_none (by simp; omega)]
theorem take_exec (ops : List (Int × Int)) (i : Nat) (h : i < ops.length) (f : Int → Int) : exec (ops.take (i + 1)) f = stp (exec (ops.take i) f) ops[i] := by
  rw [List.take_add_one, List.getElem?_eq_getElem h]
  exact exec_snoc _ _ _
/-- What the last loop sees. -/
theorem last_ok (nr n t : Nat) (src : List Int) (ops : List (Int × Int)) (hn : src.length = n) (F : Fina n t n src ops) (hv : ∀ x ∈ src, Valid nr x) (y : Nat) (hy : y < n) : (∃ r : Nat, r < nr ∧ (src.map (keyOf_ nr)).getD y 0 = (r : Int) ∧ exec ops (f0 nr) y = 1000 + r) ∨ ((src.map (keyOf_ nr)).getD y 0 = (nr : Int) ∧ exec ops (f0 nr) y = -3) := by
  have e : (src.map (keyOf_ nr)).getD y 0 = keyOf_ nr (at_ src y) := by
    rw [at_nat]
    simp [List.getD, show y < src.length by omega]
  have hm : at_ src y ∈ src := by
    rw [at_nat]
    simp [List.getD, show y < src.length by omega]
  rcases hv _ hm with h | h
  · right
    refine ⟨by rw [e, h]; simp [keyOf_], F.here _ y (by omega) (by omega) h⟩
  · left
    refine ⟨(at_ src y).toNat, by omega, ?_, ?_⟩
    · rw [e]
      unfold keyOf_
      rw [if_neg (by omega)]
      omega
    · rw [F.low _ y (by omega) (by omega) h.1]
      unfold f0
      rw [if_pos (by omega)]
      omega
end Go.Proofs.Ybulkbwdq
