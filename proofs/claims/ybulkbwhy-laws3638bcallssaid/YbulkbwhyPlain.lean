/-
  Maps of functions: how they read; the keys.
-/
import Derived.Test.YbulkbwhyRows
import Derived.WalkKit
import Derived.Maps.OwnSet
import Derived.Maps.RangeWalk
import Derived.Sort.KeysCollected
namespace Go.Proofs.Ybulkbwhy
open Go.RowKit Go.Maps Go.WideMaps Go.Sort
set_option linter.unusedVariables false

def Hid (p : Prop) : Prop := p
theorem Hid.out {p : Prop} (h : Hid p) : p := h
abbrev Key := List UInt8
def key (s : ByteArray) : Key := s.data.toList
theorem key_inj {s t : ByteArray} (h : key s = key t) : s = t := by
  cases s with | mk a => cases t with | mk b => simp [key] at h; rw [h]
theorem key_ex (x : Key) : ∃ s : ByteArray, x = key s := ⟨⟨x.toArray⟩, by simp [key]⟩
theorem encKey (s : ByteArray) : encStr (key s) = .string s := by
  show Value.string ⟨(key s).toArray⟩ = _
  simp [key]
def upd {β : Type} (f : Key → β) (x : Key) (v : β) : Key → β := fun y => if y = x then v else f y
theorem upd_same {β : Type} (f : Key → β) (x : Key) (v : β) : upd f x v x = v := if_pos rfl
theorem upd_other {β : Type} (f : Key → β) {x y : Key} (v : β) (h : y ≠ x) : upd f x v y = f y := if_neg h

/-- The closure over block b. -/
def fnv (b : Nat) : Value := .func (.func 5) #[] #[.pointer (some ⟨b, 0, none⟩)]
def stv (b : Nat) : Value := .agg #[fnv b, .slice none 0 0, .nilFunc, .nilFunc]
def decF (c : Int) : Value := if c < 0 then .nilFunc else fnv c.toNat
def decS (c : Int) : Value := if c < 0 then .agg #[.nilFunc, .slice none 0 0, .nilFunc, .nilFunc] else stv c.toNat
theorem decF_nat (b : Nat) : decF (b : Int) = fnv b := by unfold decF; rw [if_neg (by omega)]; simp
theorem decS_nat (b : Nat) : decS (b : Int) = stv b := by unfold decS; rw [if_neg (by omega)]; simp
def Good (dec : Int → Value) : Prop := ∀ c d : Int, -1 ≤ c → -1 ≤ d → dec c = dec d → c = d
theorem good_F : Good decF := by
  intro c d hc hd e
  unfold decF at e
  by_cases h1 : c < 0 <;> by_cases h2 : d < 0
  · omega
  · rw [if_pos h1, if_neg h2] at e; cases e
  · rw [if_neg h1, if_pos h2] at e; cases e
  · rw [if_neg h1, if_neg h2] at e
    simp [fnv] at e
    omega
theorem good_S : Good decS := by
  intro c d hc hd e
  unfold decS at e
  by_cases h1 : c < 0 <;> by_cases h2 : d < 0
  · omega
  · rw [if_pos h1, if_neg h2] at e; simp [stv, fnv] at e
  · rw [if_neg h1, if_pos h2] at e; simp [stv, fnv] at e
  · rw [if_neg h1, if_neg h2] at e
    simp [stv, fnv] at e
    omega
/-- Which block such a value leads to; -1: none. -/
def unF : Value → Option Int
  | .nilFunc => some (-1)
  | .func fn first cap => if fn = Fn.func 5 ∧ first.size = 0 then (match cap.toList with
    | [.pointer (some a)] => if a = ⟨a.block, 0, Option.none⟩ then some (a.block : Int) else Option.none
    | _ => Option.none) else Option.none
  | _ => Option.none
def unS : Value → Option Int
  | .agg cs => (match cs.toList with
    | [f, .slice Option.none 0 0, .nilFunc, .nilFunc] => unF f
    | _ => Option.none)
  | _ => Option.none
theorem unF_mk (c : Int) (hc : -1 ≤ c) : unF (decF c) = some c := by
  unfold decF
  by_cases h : c < 0
  · rw [if_pos h]
    obtain rfl : c = -1 := by omega
    rfl
  · rw [if_neg h]
    simp [unF, fnv]
    omega
theorem unF_inv {v : Value} {c : Int} (h : unF v = some c) : v = decF c ∧ -1 ≤ c := by
  unfold unF at h
  split at h
  · cases h; exact ⟨(if_pos (by decide)).symm, by omega⟩
  · rename_i fn first cap
    split at h
    · rename_i hf
      split at h
      · rename_i a ha
        split at h
        · rename_i e
          cases h
          refine ⟨?_, by omega⟩
          rw [decF_nat, hf.1, Array.eq_empty_of_size_eq_zero hf.2]
          unfold fnv
          rw [← e, show cap = #[.pointer (some a)] by rw [← Array.toArray_toList (xs := cap), ha]]
        · cases h
      · cases h
    · cases h
  · cases h
theorem unS_mk (c : Int) (hc : -1 ≤ c) : unS (decS c) = some c := by
  unfold decS
  by_cases h : c < 0
  · rw [if_pos h]
    obtain rfl : c = -1 := by omega
    rfl
  · rw [if_neg h]
    have := unF_mk c hc
    unfold decF at this
    rw [if_neg h] at this
    simpa [unS, stv] using this
theorem unS_inv {v : Value} {c : Int} (h : unS v = some c) : v = decS c ∧ -1 ≤ c := by
  unfold unS at h
  split at h
  · rename_i cs
    split at h
    · rename_i f hf
      obtain ⟨rfl, hc⟩ := unF_inv h
      refine ⟨?_, hc⟩
      rw [show cs = #[decF c, .slice Option.none 0 0, .nilFunc, .nilFunc] by rw [← Array.toArray_toList (xs := cs), hf]]
      unfold decF decS
      split <;> rfl
    · cases h
  · cases h
/-- Such values and their numbers. -/
structure Pair (un : Value → Option Int) (dec : Int → Value) : Prop where
  to_ : ∀ c, -1 ≤ c → un (dec c) = some c
  of_ : ∀ v c, un v = some c → v = dec c ∧ -1 ≤ c
theorem pair_F : Pair unF decF := ⟨unF_mk, fun _ _ h => unF_inv h⟩
theorem pair_S : Pair unS decS := ⟨unS_mk, fun _ _ h => unS_inv h⟩
/-- How such a value reads: as its block's number. -/
def Rd (un : Value → Option Int) (v : Value) : Option (DataW Unit × List MemPlace) := (un v).map (fun c => (.lit (.int .i64 c), []))
theorem Rd_mk {un : Value → Option Int} {dec : Int → Value} (hd : Pair un dec) (c : Int) (hc : -1 ≤ c) : Rd un (dec c) = some (.lit (.int .i64 c), []) := by
  unfold Rd
  rw [hd.to_ c hc]
  rfl
theorem Rd_inv {un : Value → Option Int} {dec : Int → Value} (hd : Pair un dec) {v : Value} {y : DataW Unit × List MemPlace} (h : Rd un v = some y) : ∃ c : Int, v = dec c ∧ -1 ≤ c ∧ y = (.lit (.int .i64 c), []) := by
  unfold Rd at h
  obtain ⟨c, hc, rfl⟩ := Option.map_eq_some_iff.1 h
  exact ⟨c, (hd.of_ v c hc).1, (hd.of_ v c hc).2, rfl⟩

theorem law9 : Keyed Yba.prog 9 := string_keyed Yba.underlying9
theorem zero28 (w : World) : (zeroValue 28).run Yba.prog w = .ok (.nilFunc) w := by kernel_rfl
theorem zero33 (w : World) : (zeroValue 33).run Yba.prog w = .ok (.agg #[.nilFunc, .slice none 0 0, .nilFunc, .nilFunc]) w := by kernel_rfl
theorem keyLit (x : Key) : WideAt.IsKeyLit (.string x) := by simp [WideAt.IsKeyLit]
theorem lit_ne {x y : Key} (h : y ≠ x) : (Lit.string y) ≠ .string x := fun e => h (by cases e; rfl)
theorem lit_inj_i {a b : Int} (h : (DataW.lit (.int .i64 a) : DataW Unit) = .lit (.int .i64 b)) : a = b := by injection h with h1; injection h1

/-- Block b is a map of strings to such values: pm. -/
structure MapF (un : Value → Option Int) (w : World) (b n : Nat) (pm : Key → Option Nat) (D : DataW Unit) : Prop where
  own : w.ownsMap Yba.prog 9 (Rd un) b n D
  has : ∀ x, Maps.has D (.string x) = (pm x).isSome
  at_ : ∀ x p, pm x = some p → ∀ z, D.atKey (.string x) z = .lit (.int .i64 (p : Int))
theorem MapF.put {un : Value → Option Int} {w w' : World} {b n n' : Nat} {pm : Key → Option Nat} {D : DataW Unit} (h : MapF un w b n pm D) (x : Key) (p : Nat) (ho : w'.ownsMap Yba.prog 9 (Rd un) b n' (D.put (.string x) (.lit (.int .i64 (p : Int))))) :
    MapF un w' b n' (upd pm x (some p)) (D.put (.string x) (.lit (.int .i64 (p : Int)))) := by
  refine ⟨ho, fun y => ?_, fun y q hq z => ?_⟩
  · by_cases e' : y = x
    · subst e'; rw [has_put_same h.own.isMap (keyLit _), upd_same]; rfl
    · rw [has_put_other (lit_ne e'), upd_other _ _ e', h.has]
  · by_cases e' : y = x
    · subst e'; rw [upd_same] at hq; cases hq; exact atKey_put_same h.own.isMap (keyLit _) _ _
    · rw [upd_other _ _ e'] at hq; rw [atKey_put_other (lit_ne e')]; exact h.at_ y q hq z
theorem MapF.size_put {un : Value → Option Int} {w : World} {b n : Nat} {pm : Key → Option Nat} {D : DataW Unit} (h : MapF un w b n pm D) (x : Key) (d : DataW Unit) : Maps.size (D.put (.string x) d) = if (pm x).isSome then Maps.size D else Maps.size D + 1 := by
  rw [Maps.size_put (h.own.tidy law9), h.has]
theorem MapF.keep {un : Value → Option Int} {w w' : World} {b n : Nat} {pm : Key → Option Nat} {D : DataW Unit} (h : MapF un w b n pm D) (hb : w'.heap[b]? = w.heap[b]?) : MapF un w' b n pm D := by
  obtain ⟨⟨es, cl, h1, h2⟩, h3, h4⟩ := h
  exact ⟨⟨es, cl, hb.trans h1, h2⟩, h3, h4⟩
theorem MapF.more {un : Value → Option Int} {w : World} {b n m : Nat} {pm : Key → Option Nat} {D : DataW Unit} (h : MapF un w b n pm D) (hm : n ≤ m) : MapF un w b m pm D := ⟨h.own.mono hm, h.has, h.at_⟩
theorem MapF.lt {un : Value → Option Int} {w : World} {b n : Nat} {pm : Key → Option Nat} {D : DataW Unit} (h : MapF un w b n pm D) : b < w.heap.size := h.own.lt
theorem MapF.start (un : Value → Option Int) (w : World) : MapF un (w.alloc (.map #[] 0)) w.heap.size 0 (fun _ => Option.none) (.map []) := ⟨World.ownsMap_made w _ _ _, fun x => rfl, fun x p hp => by cases hp⟩
/-- 'f, ok := fs[name]' at a name that is there. -/
theorem MapF.look_ok {w : World} {b n : Nat} {pm : Key → Option Nat} {D : DataW Unit} (h : MapF unF w b n pm D) (s : ByteArray) (hs : s.size ≤ maxLen) (p : Nat) (hp : pm (key s) = some p) : (Instr.lookup 46 (.map (some b)) (.string s) true).run Yba.prog w = .ok (.tuple #[fnv p, .bool true]) w := by
  obtain ⟨v, ps, hrun, hv⟩ := h.own.look_ok (t := 46) (e := 28) law9 Yba.underlying46 (zero28 w) (show Rd unF .nilFunc = some (.lit (.int .i64 (-1)), []) by rw [show Value.nilFunc = decF (-1) from (if_pos (by decide)).symm]; exact Rd_mk pair_F (-1) (by omega)) (keyOf_string_mk Yba.underlying9 hs)
  rw [show D.atKey (.string s.data.toList) (.lit (.int .i64 (-1))) = _ from h.at_ (key s) p hp _] at hv
  obtain ⟨c, rfl, hc, e⟩ := Rd_inv pair_F hv
  simp only [Prod.mk.injEq] at e
  have : (p : Int) = c := lit_inj_i e.1
  subst this
  rw [show Maps.has D (.string s.data.toList) = true by rw [show Maps.has D (.string s.data.toList) = (pm (key s)).isSome from h.has _, hp]; rfl, decF_nat] at hrun
  exact hrun
end Go.Proofs.Ybulkbwhy
