/-
  The plain state of zzs3628cbuild: names, powers, jail, and the two maps as functions.
-/
import Derived.Test.YbulkbwcoIdx
import Derived.Maps.OwnSet
import Derived.Maps.RangeWalk
import Derived.Sort.KeysCollected
import Derived.Deep.AppendLies
namespace Go.Proofs.Ybulkbwco
open Go.RowKit Go.Maps Go.WideMaps
set_option linter.unusedVariables false

abbrev Key := List UInt8
def key (x : ByteArray) : Key := x.data.toList
theorem key_toList (x : ByteArray) : x.toList = key x := ByteArray.toList_eq x
structure St where
  names : List ByteArray
  pows : List Int
  jail : List Bool
def upd {α : Type} (f : Key → α) (x : Key) (a : α) : Key → α := fun y => if y = x then a else f y
theorem upd_same {α : Type} (f : Key → α) (x : Key) (a : α) : upd f x a x = a := by simp [upd]
theorem upd_other {α : Type} (f : Key → α) {x y : Key} (a : α) (h : y ≠ x) : upd f x a y = f y := by simp [upd, h]

structure Tie (S : St) (pm : Key → Option Int) (jm : Key → Bool) : Prop where
  lp : S.pows.length = S.names.length
  lj : S.jail.length = S.names.length
  nd : (S.names.map key).Nodup
  has : ∀ x, (pm x).isSome = true ↔ x ∈ S.names.map key
  pw : ∀ i, i < S.names.length → pm (key (S.names.getD i ByteArray.empty)) = some (S.pows.getD i 0)
  jl : ∀ i, i < S.names.length → jm (key (S.names.getD i ByteArray.empty)) = S.jail.getD i false

theorem getD_mem {ns : List ByteArray} {i : Nat} (h : i < ns.length) : key (ns.getD i ByteArray.empty) ∈ ns.map key := by
  rw [getD_lt ns i h]; exact List.mem_map.2 ⟨_, List.getElem_mem h, rfl⟩
theorem getD_inj {ns : List ByteArray} (nd : (ns.map key).Nodup) {i j : Nat} (hi : i < ns.length) (hj : j < ns.length) (e : key (ns.getD i ByteArray.empty) = key (ns.getD j ByteArray.empty)) : i = j := by
  rw [getD_lt ns i hi, getD_lt ns j hj] at e
  have h1 : (ns.map key)[i]'(by simpa using hi) = (ns.map key)[j]'(by simpa using hj) := by simpa using e
  have hp := List.pairwise_iff_getElem.1 nd
  rcases Nat.lt_trichotomy i j with h | h | h
  · exact absurd h1 (hp i j _ _ h)
  · exact h
  · exact absurd h1.symm (hp j i _ _ h)
theorem getD_snoc_lt {α : Type} (l : List α) (a d : α) (i : Nat) (h : i < l.length) : (l ++ [a]).getD i d = l.getD i d := by simp [List.getD, List.getElem?_append_left h]
theorem getD_snoc_eq {α : Type} (l : List α) (a d : α) : (l ++ [a]).getD l.length d = a := by simp [List.getD]
theorem getD_set_eq {α : Type} (l : List α) (a d : α) (i : Nat) (h : i < l.length) : (l.set i a).getD i d = a := by simp [List.getD, h]
theorem getD_set_ne {α : Type} (l : List α) (a d : α) (i j : Nat) (h : i ≠ j) : (l.set i a).getD j d = l.getD j d := by simp [List.getD, h]

/-- A name that was not there. -/
theorem tie_new {S : St} {pm : Key → Option Int} {jm : Key → Bool} (h : Tie S pm jm) (v : ByteArray) (p : Int) (j : Bool) (hv : key v ∉ S.names.map key) (hj : jm (key v) = false) :
    Tie ⟨S.names ++ [v], S.pows ++ [p], S.jail ++ [j]⟩ (upd pm (key v) (some p)) (if j = true then upd jm (key v) true else jm) := by
  have lp := h.lp
  have lj := h.lj
  refine ⟨by simp [lp], by simp [lj], ?_, fun x => ?_, fun i hi => ?_, fun i hi => ?_⟩
  · simp only [List.map_append, List.map_cons, List.map_nil]
    refine List.nodup_append.2 ⟨h.nd, by simp, fun a ha b hb => ?_⟩
    simp at hb; subst hb; intro e; subst e; exact hv ha
  · by_cases e : x = key v
    · subst e; simp [upd_same]
    · rw [upd_other _ _ e, h.has x]; simp [e]
  · by_cases e : i = S.names.length
    · subst e; show upd pm (key v) (some p) (key ((S.names ++ [v]).getD S.names.length ByteArray.empty)) = some ((S.pows ++ [p]).getD S.names.length 0)
      rw [getD_snoc_eq, upd_same, ← lp, getD_snoc_eq]
    · have hi' : i < S.names.length := by simp at hi; omega
      show upd pm (key v) (some p) (key ((S.names ++ [v]).getD i ByteArray.empty)) = some ((S.pows ++ [p]).getD i 0)
      rw [getD_snoc_lt _ _ _ _ hi', getD_snoc_lt _ _ _ _ (by omega), upd_other _ _ (fun e => hv (by rw [← e]; exact getD_mem hi')), h.pw i hi']
  · by_cases e : i = S.names.length
    · subst e; show (if j = true then upd jm (key v) true else jm) (key ((S.names ++ [v]).getD S.names.length ByteArray.empty)) = (S.jail ++ [j]).getD S.names.length false
      rw [getD_snoc_eq, ← lj, getD_snoc_eq]
      cases j
      · simpa using hj
      · simp [upd_same]
    · have hi' : i < S.names.length := by simp at hi; omega
      show (if j = true then upd jm (key v) true else jm) (key ((S.names ++ [v]).getD i ByteArray.empty)) = (S.jail ++ [j]).getD i false
      rw [getD_snoc_lt _ _ _ _ hi', getD_snoc_lt _ _ _ _ (by omega), ← h.jl i hi']
      split
      · rw [upd_other _ _ (fun e => hv (by rw [← e]; exact getD_mem hi'))]
      · rfl
/-- A name that was there: its power, and its mark. -/
theorem tie_pow {S : St} {pm : Key → Option Int} {jm : Key → Bool} (h : Tie S pm jm) (v : ByteArray) (p : Int) (k : Nat) (hk : k < S.names.length) (e : key v = key (S.names.getD k ByteArray.empty)) :
    Tie ⟨S.names, S.pows.set k p, S.jail⟩ (upd pm (key v) (some p)) jm := by
  have lp := h.lp
  refine ⟨by simp [lp], h.lj, h.nd, fun x => ?_, fun i hi => ?_, h.jl⟩
  · by_cases e' : x = key v
    · subst e'; rw [upd_same]; simp only [Option.isSome_some, true_iff]; rw [e]; exact getD_mem hk
    · rw [upd_other _ _ e', h.has x]
  · show upd pm (key v) (some p) (key (S.names.getD i ByteArray.empty)) = some ((S.pows.set k p).getD i 0)
    by_cases ei : k = i
    · subst ei; rw [← e, upd_same, getD_set_eq _ _ _ _ (by omega)]
    · rw [upd_other _ _ (fun e' => ei (getD_inj h.nd hk hi (by rw [← e, ← e']))), getD_set_ne _ _ _ _ _ ei]
      exact h.pw i hi
theorem tie_jail {S : St} {pm : Key → Option Int} {jm : Key → Bool} (h : Tie S pm jm) (v : ByteArray) (k : Nat) (hk : k < S.names.length) (e : key v = key (S.names.getD k ByteArray.empty)) :
    Tie ⟨S.names, S.pows, S.jail.set k true⟩ pm (upd jm (key v) true) := by
  have lj := h.lj
  refine ⟨h.lp, by simp [lj], h.nd, h.has, h.pw, fun i hi => ?_⟩
  show upd jm (key v) true (key (S.names.getD i ByteArray.empty)) = (S.jail.set k true).getD i false
  by_cases ei : k = i
  · subst ei; rw [← e, upd_same, getD_set_eq _ _ _ _ (by omega)]
  · rw [upd_other _ _ (fun e' => ei (getD_inj h.nd hk hi (by rw [← e, ← e']))), getD_set_ne _ _ _ _ _ ei]
    exact h.jl i hi
theorem tie_far {S : St} {pm : Key → Option Int} {jm : Key → Bool} (h : Tie S pm jm) (v : ByteArray) (hv : key v ∉ S.names.map key) : Tie S pm (upd jm (key v) true) :=
  ⟨h.lp, h.lj, h.nd, h.has, h.pw, fun i hi => by rw [upd_other _ _ (fun e => hv (by rw [← e]; exact getD_mem hi))]; exact h.jl i hi⟩

/-! ### the two maps in memory -/
theorem law9 : Keyed Yba.prog 9 := string_keyed Yba.underlying9
theorem zero2 (w : World) : (zeroValue 2).run Yba.prog w = .ok (.int .i64 0) w := by kernel_rfl
theorem zero4 (w : World) : (zeroValue 4).run Yba.prog w = .ok (.bool false) w := by kernel_rfl
theorem zero3 (w : World) : (zeroValue 3).run Yba.prog w = .ok (.int .i64 0) w := by kernel_rfl
theorem keyLit (x : Key) : WideAt.IsKeyLit (.string x) := by simp [WideAt.IsKeyLit]
theorem lit_ne {x y : Key} (h : y ≠ x) : (Lit.string y) ≠ .string x := fun e => h (by cases e; rfl)

/-- Block b is a map of strings to int64s (or ints: element type e): pm. -/
structure MapI (e : TypeId) (w : World) (b n : Nat) (pm : Key → Option Int) (D : DataW Unit) : Prop where
  own : w.ownsMap Yba.prog 9 (plainElem (H := Unit) Yba.prog e) b n D
  has : ∀ x, Maps.has D (.string x) = (pm x).isSome
  at_ : ∀ x p, pm x = some p → ∀ z, D.atKey (.string x) z = .lit (.int .i64 p)
structure MapB (w : World) (b n : Nat) (jm : Key → Bool) (D : DataW Unit) : Prop where
  own : w.ownsMap Yba.prog 9 (plainElem (H := Unit) Yba.prog 4) b n D
  at_ : ∀ x, D.atKey (.string x) (.lit (.bool false)) = .lit (.bool (jm x))
theorem MapI.put {e : TypeId} {w w' : World} {b n n' : Nat} {pm : Key → Option Int} {D : DataW Unit} (h : MapI e w b n pm D) (x : Key) (p : Int) (ho : w'.ownsMap Yba.prog 9 (plainElem (H := Unit) Yba.prog e) b n' (D.put (.string x) (.lit (.int .i64 p)))) :
    MapI e w' b n' (upd pm x (some p)) (D.put (.string x) (.lit (.int .i64 p))) := by
  refine ⟨ho, fun y => ?_, fun y q hq z => ?_⟩
  · by_cases e' : y = x
    · subst e'; rw [has_put_same h.own.isMap (keyLit _), upd_same]; rfl
    · rw [has_put_other (lit_ne e'), upd_other _ _ e', h.has]
  · by_cases e' : y = x
    · subst e'; rw [upd_same] at hq; cases hq; exact atKey_put_same h.own.isMap (keyLit _) _ _
    · rw [upd_other _ _ e'] at hq; rw [atKey_put_other (lit_ne e')]; exact h.at_ y q hq z
theorem MapB.put {w w' : World} {b n n' : Nat} {jm : Key → Bool} {D : DataW Unit} (h : MapB w b n jm D) (x : Key) (ho : w'.ownsMap Yba.prog 9 (plainElem (H := Unit) Yba.prog 4) b n' (D.put (.string x) (.lit (.bool true)))) :
    MapB w' b n' (upd jm x true) (D.put (.string x) (.lit (.bool true))) := by
  refine ⟨ho, fun y => ?_⟩
  by_cases e' : y = x
  · subst e'; rw [upd_same]; exact atKey_put_same h.own.isMap (keyLit _) _ _
  · rw [upd_other _ _ e', atKey_put_other (lit_ne e')]; exact h.at_ y
theorem MapI.keep {e : TypeId} {w w' : World} {b n : Nat} {pm : Key → Option Int} {D : DataW Unit} (h : MapI e w b n pm D) (hb : w'.heap[b]? = w.heap[b]?) : MapI e w' b n pm D := by
  obtain ⟨⟨es, cl, h1, h2⟩, h3, h4⟩ := h
  exact ⟨⟨es, cl, hb.trans h1, h2⟩, h3, h4⟩
theorem MapB.keep {w w' : World} {b n : Nat} {jm : Key → Bool} {D : DataW Unit} (h : MapB w b n jm D) (hb : w'.heap[b]? = w.heap[b]?) : MapB w' b n jm D := by
  obtain ⟨⟨es, cl, h1, h2⟩, h3⟩ := h
  exact ⟨⟨es, cl, hb.trans h1, h2⟩, h3⟩
theorem MapI.more {e : TypeId} {w : World} {b n m : Nat} {pm : Key → Option Int} {D : DataW Unit} (h : MapI e w b n pm D) (hm : n ≤ m) : MapI e w b m pm D := ⟨h.own.mono hm, h.has, h.at_⟩
theorem MapB.more {w : World} {b n m : Nat} {jm : Key → Bool} {D : DataW Unit} (h : MapB w b n jm D) (hm : n ≤ m) : MapB w b m jm D := ⟨h.own.mono hm, h.at_⟩
theorem plainElem_bool_inv {P : Program} {e : TypeId} (he : P.underlying e = some .bool) {v : Value} {z : DataW Unit × List MemPlace} (h : plainElem P e v = some z) : ∃ a, v = .bool a ∧ z = (.lit (.bool a), []) := by
  unfold plainElem at h
  rw [he] at h
  cases v <;> simp at h
  exact ⟨_, rfl, h.symm⟩
theorem lit_inj_b {a b : Bool} (h : (DataW.lit (.bool a) : DataW Unit) = .lit (.bool b)) : a = b := by injection h with h1; injection h1
theorem lit_inj_i {a b : Int} (h : (DataW.lit (.int .i64 a) : DataW Unit) = .lit (.int .i64 b)) : a = b := by injection h with h1; injection h1
/-- 'jailed[v]'. -/
theorem MapB.look {w : World} {b n : Nat} {jm : Key → Bool} {D : DataW Unit} (h : MapB w b n jm D) (s : ByteArray) (hs : s.size ≤ maxLen) : (Instr.lookup 53 (.map (some b)) (.string s) false).run Yba.prog w = .ok (.bool (jm (key s))) w := by
  obtain ⟨v, ps, hrun, hv⟩ := h.own.lookup (t := 53) (e := 4) law9 Yba.underlying53 (zero4 w) (plainElem_bool Yba.underlying4 false) (keyOf_string_mk Yba.underlying9 hs)
  rw [show D.atKey (.string s.data.toList) (.lit (.bool false)) = _ from h.at_ (key s)] at hv
  obtain ⟨a, rfl, e⟩ := plainElem_bool_inv Yba.underlying4 hv
  simp only [Prod.mk.injEq] at e
  have : jm (key s) = a := lit_inj_b e.1
  rw [this]; exact hrun
/-- 'powers[v]'. -/
theorem MapI.look {w : World} {b n : Nat} {pm : Key → Option Int} {D : DataW Unit} (h : MapI 2 w b n pm D) (s : ByteArray) (hs : s.size ≤ maxLen) (p : Int) (hp : pm (key s) = some p) : (Instr.lookup 52 (.map (some b)) (.string s) false).run Yba.prog w = .ok (.int .i64 p) w := by
  obtain ⟨c, hrun, hat, _⟩ := h.own.lookup_int (t := 52) (e := 2) (q := .i64) law9 Yba.underlying52 Yba.underlying2 (zero2 w) (keyOf_string_mk Yba.underlying9 hs)
  rw [show D.atKey (.string s.data.toList) (.lit (.int .i64 0)) = _ from h.at_ (key s) p hp _] at hat
  have : p = c := lit_inj_i hat
  rw [this]; exact hrun
end Go.Proofs.Ybulkbwco
