/-
  Maps of functions: how they read; the keys.
-/
import Derived.Test.YbulkbwhyRows
import Derived.WalkKit
import Derived.Maps.OwnSet
import Derived.Maps.RangeWalk
import Derived.Sort.KeysCollected
namespace Go.Proofs.Ybulkbwhy
open Go.RowKit Go.Maps Go.WideMaps Go.Sort
set_option linter.unusedVariables false

def Hid (p : Prop) : Prop := p
theorem Hid.out {p : Prop} (h : Hid p) : p := h
abbrev Key := List UInt8
def key (s : ByteArray) : Key := s.data.toList
theorem key_inj {s t : ByteArray} (h : key s = key t) : s = t := by
  cases s with | mk a => cases t with | mk b => simp [key] at h; rw [h]
theorem key_ex (x : Key) : ∃ s : ByteArray, x = key s := ⟨⟨x.toArray⟩, by simp [key]⟩
theorem encKey (s : ByteArray) : encStr (key s) = .string s := by
  show Value.string ⟨(key s).toArray⟩ = _
  simp [key]
def upd {β : Type} (f : Key → β) (x : Key) (v : β) : Key → β := fun y => if y = x then v else f y
theorem upd_same {β : Type} (f : Key → β) (x : Key) (v : β) : upd f x v x = v := if_pos rfl
theorem upd_other {β : Type} (f : Key → β) {x y : Key} (v : β) (h : y ≠ x) : upd f x v y = f y := if_neg h

/-- The closure over block b. -/
def fnv (b : Nat) : Value := .func (.func 5) #[] #[.pointer (some ⟨b, 0, none⟩)]
def stv (b : Nat) : Value := .agg #[fnv b, .slice none 0 0, .nilFunc, .nilFunc]
def decF (c : Int) : Value := if c < 0 then .nilFunc else fnv c.toNat
def decS (c : Int) : Value := if c < 0 then .agg #[.nilFunc, .slice none 0 0, .nilFunc, .nilFunc] else stv c.toNat
theorem decF_nat (b : Nat) : decF (b : Int) = fnv b := by unfold decF; rw [if_neg (by omega)]; simp
theorem decS_nat (b : Nat) : decS (b : Int) = stv b := by unfold decS; rw [if_neg (by omega)]; simp
def Good (dec : Int → Value) : Prop := ∀ c d : Int, -1 ≤ c → -1 ≤ d → dec c = dec d → c = d
theorem good_F : Good decF := by
  intro c d hc hd e
  unfold decF at e
  by_cases h1 : c < 0 <;> by_cases h2 : d < 0
  · omega
  · rw [if_pos h1, if_neg h2] at e; cases e
  · rw [if_neg h1, if_pos h2] at e; cases e
  · rw [if_neg h1, if_neg h2] at e
    simp [fnv] at e
    omega
theorem good_S : Good decS := by
  intro c d hc hd e
  unfold decS at e
  by_cases h1 : c < 0 <;> by_cases h2 : d < 0
  · omega
  · rw [if_pos h1, if_neg h2] at e; simp [stv, fnv] at e
  · rw [if_neg h1, if_pos h2] at e; simp [stv, fnv] at e
  · rw [if_neg h1, if_neg h2] at e
    simp [stv, fnv] at e
    omega
open Classical in
/-- How such a value reads: as its block's number. -/
noncomputable def Rd (dec : Int → Value) (v : Value) : Option (DataW Unit × List MemPlace) :=
  if h : ∃ c : Int, -1 ≤ c ∧ v = dec c then some (.lit (.int .i64 (Classical.choose h)), []) else Option.none
theorem Rd_mk {dec : Int → Value} (hd : Good dec) (c : Int) (hc : -1 ≤ c) : Rd dec (dec c) = some (.lit (.int .i64 c), []) := by
  have h : ∃ d : Int, -1 ≤ d ∧ dec c = dec d := ⟨c, hc, rfl⟩
  unfold Rd
  rw [dif_pos h]
  have := Classical.choose_spec h
  rw [hd _ _ this.1 hc this.2.symm]
theorem Rd_inv {dec : Int → Value} {v : Value} {y : DataW Unit × List MemPlace} (h : Rd dec v = some y) : ∃ c : Int, v = dec c ∧ -1 ≤ c ∧ y = (.lit (.int .i64 c), []) := by
  unfold Rd at h
  split at h
  · rename_i hh
    have := Classical.choose_spec hh
    cases h
    exact ⟨_, this.2, this.1, rfl⟩
  · cases h

theorem law9 : Keyed Yba.prog 9 := string_keyed Yba.underlying9
theorem zero28 (w : World) : (zeroValue 28).run Yba.prog w = .ok (.nilFunc) w := by kernel_rfl
theorem zero33 (w : World) : (zeroValue 33).run Yba.prog w = .ok (.agg #[.nilFunc, .slice none 0 0, .nilFunc, .nilFunc]) w := by kernel_rfl
theorem keyLit (x : Key) : WideAt.IsKeyLit (.string x) := by simp [WideAt.IsKeyLit]
theorem lit_ne {x y : Key} (h : y ≠ x) : (Lit.string y) ≠ .string x := fun e => h (by cases e; rfl)
theorem lit_inj_i {a b : Int} (h : (DataW.lit (.int .i64 a) : DataW Unit) = .lit (.int .i64 b)) : a = b := by injection h with h1; injection h1

/-- Block b is a map of strings to such values: pm. -/
structure MapF (dec : Int → Value) (w : World) (b n : Nat) (pm : Key → Option Nat) (D : DataW Unit) : Prop where
  own : w.ownsMap Yba.prog 9 (Rd dec) b n D
  has : ∀ x, Maps.has D (.string x) = (pm x).isSome
  at_ : ∀ x p, pm x = some p → ∀ z, D.atKey (.string x) z = .lit (.int .i64 (p : Int))
theorem MapF.put {dec : Int → Value} {w w' : World} {b n n' : Nat} {pm : Key → Option Nat} {D : DataW Unit} (h : MapF dec w b n pm D) (x : Key) (p : Nat) (ho : w'.ownsMap Yba.prog 9 (Rd dec) b n' (D.put (.string x) (.lit (.int .i64 (p : Int))))) :
    MapF dec w' b n' (upd pm x (some p)) (D.put (.string x) (.lit (.int .i64 (p : Int)))) := by
  refine ⟨ho, fun y => ?_, fun y q hq z => ?_⟩
  · by_cases e' : y = x
    · subst e'; rw [has_put_same h.own.isMap (keyLit _), upd_same]; rfl
    · rw [has_put_other (lit_ne e'), upd_other _ _ e', h.has]
  · by_cases e' : y = x
    · subst e'; rw [upd_same] at hq; cases hq; exact atKey_put_same h.own.isMap (keyLit _) _ _
    · rw [upd_other _ _ e'] at hq; rw [atKey_put_other (lit_ne e')]; exact h.at_ y q hq z
theorem MapF.size_put {dec : Int → Value} {w : World} {b n : Nat} {pm : Key → Option Nat} {D : DataW Unit} (h : MapF dec w b n pm D) (x : Key) (d : DataW Unit) : Maps.size (D.put (.string x) d) = if (pm x).isSome then Maps.size D else Maps.size D + 1 := by
  rw [Maps.size_put (h.own.tidy law9), h.has]
theorem MapF.keep {dec : Int → Value} {w w' : World} {b n : Nat} {pm : Key → Option Nat} {D : DataW Unit} (h : MapF dec w b n pm D) (hb : w'.heap[b]? = w.heap[b]?) : MapF dec w' b n pm D := by
  obtain ⟨⟨es, cl, h1, h2⟩, h3, h4⟩ := h
  exact ⟨⟨es, cl, hb.trans h1, h2⟩, h3, h4⟩
theorem MapF.more {dec : Int → Value} {w : World} {b n m : Nat} {pm : Key → Option Nat} {D : DataW Unit} (h : MapF dec w b n pm D) (hm : n ≤ m) : MapF dec w b m pm D := ⟨h.own.mono hm, h.has, h.at_⟩
theorem MapF.lt {dec : Int → Value} {w : World} {b n : Nat} {pm : Key → Option Nat} {D : DataW Unit} (h : MapF dec w b n pm D) : b < w.heap.size := h.own.lt
theorem MapF.start (dec : Int → Value) (w : World) : MapF dec (w.alloc (.map #[] 0)) w.heap.size 0 (fun _ => Option.none) (.map []) := ⟨World.ownsMap_made w _ _ _, fun x => rfl, fun x p hp => by cases hp⟩
/-- 'f, ok := fs[name]' at a name that is there. -/
theorem MapF.look_ok {w : World} {b n : Nat} {pm : Key → Option Nat} {D : DataW Unit} (h : MapF decF w b n pm D) (s : ByteArray) (hs : s.size ≤ maxLen) (p : Nat) (hp : pm (key s) = some p) : (Instr.lookup 46 (.map (some b)) (.string s) true).run Yba.prog w = .ok (.tuple #[fnv p, .bool true]) w := by
  obtain ⟨v, ps, hrun, hv⟩ := h.own.look_ok (t := 46) (e := 28) law9 Yba.underlying46 (zero28 w) (show Rd decF .nilFunc = some (.lit (.int .i64 (-1)), []) by rw [show Value.nilFunc = decF (-1) from (if_pos (by decide)).symm]; exact Rd_mk good_F (-1) (by omega)) (keyOf_string_mk Yba.underlying9 hs)
  rw [show D.atKey (.string s.data.toList) (.lit (.int .i64 (-1))) = _ from h.at_ (key s) p hp _] at hv
  obtain ⟨c, rfl, hc, e⟩ := Rd_inv hv
  simp only [Prod.mk.injEq] at e
  have : (p : Int) = c := lit_inj_i e.1
  subst this
  rw [show Maps.has D (.string s.data.toList) = true by rw [show Maps.has D (.string s.data.toList) = (pm (key s)).isSome from h.has _, hp]; rfl, decF_nat] at hrun
  exact hrun
end Go.Proofs.Ybulkbwhy
