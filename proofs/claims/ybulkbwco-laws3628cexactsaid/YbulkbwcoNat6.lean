/-
  nat as numbers: add, sub, cmp.
-/
import Derived.Test.YbulkbwcoNat5
namespace Go.Proofs.Ybulkbwco
open Go.RowKit
set_option linter.unusedVariables false

/-- The words of a number below 2^128. -/
def dig (n : Int) : List Int := if n = 0 then [] else if n < 18446744073709551616 then [n] else [n % 18446744073709551616, n / 18446744073709551616]
theorem dig0 : dig 0 = [] := rfl
theorem dig1 {n : Int} (h0 : 0 < n) (h1 : n < 18446744073709551616) : dig n = [n] := by unfold dig; rw [if_neg (by omega), if_pos h1]
theorem dig2 {n : Int} (h1 : 18446744073709551616 ≤ n) : dig n = [n % 18446744073709551616, n / 18446744073709551616] := by unfold dig; rw [if_neg (by omega), if_neg (by omega)]

/-- The row g of c words begins with the words of n. -/
structure Holds1 (w : World) (g c : Nat) (n : Int) (cur : Array Value) : Prop where
  row : Row w g cur
  size : cur.size = c
  cap : c = 1 ∨ c = 6
  room : (dig n).length ≤ c
  ints : ∀ j, j < c → ∃ x : Int, cur[j]? = some (Value.int .u64 x)
  words : ∀ (j : Nat) (x : Int), (dig n)[j]? = some x → cur[j]? = some (Value.int .u64 x)
/-- The slice v is the number n. -/
def NatAt (w : World) (v : Value) (n : Int) : Prop := 0 ≤ n ∧ ((n = 0 ∧ v = .slice none 0 0) ∨ ∃ g c cur, v = .slice (some ⟨g, 0, none⟩) (dig n).length c ∧ Holds1 w g c n cur)
theorem ints_set {cur : Array Value} {c i : Nat} {x : Int} (h : ∀ j, j < c → ∃ x : Int, cur[j]? = some (Value.int .u64 x)) (hs : cur.size = c) : ∀ j, j < c → ∃ y : Int, (cur.setIfInBounds i (.int .u64 x))[j]? = some (Value.int .u64 y) := by
  intro j hj
  by_cases e : i = j
  · subst e; exact ⟨x, at_set _ _ _ (by omega)⟩
  · obtain ⟨y, hy⟩ := h j hj; exact ⟨y, by rw [at_other _ _ _ _ e]; exact hy⟩
theorem Holds1.keep {w w' : World} {g c : Nat} {n : Int} {cur : Array Value} (h : Holds1 w g c n cur) (hb : w'.heap[g]? = w.heap[g]?) : Holds1 w' g c n cur := { h with row := hb.trans h.row }
/-- The number stays where its row is not turned. -/
theorem NatAt.keep {w w' : World} {v : Value} {n : Int} (h : NatAt w v n) (hb : ∀ g, v.ownBlock = some g → w'.heap[g]? = w.heap[g]?) : NatAt w' v n := by
  refine ⟨h.1, ?_⟩
  rcases h.2 with h | ⟨g, c, cur, rfl, hh⟩
  · exact .inl h
  · exact .inr ⟨g, c, cur, rfl, hh.keep (hb g rfl)⟩
theorem NatAt.lt {w : World} {v : Value} {n : Int} (h : NatAt w v n) (g : Nat) (hg : v.ownBlock = some g) : g < w.heap.size := by
  rcases h.2 with ⟨_, rfl⟩ | ⟨g', c, cur, rfl, hh⟩
  · cases hg
  · cases hg; exact hh.row.lt

/-- What nat.add, nat.sub leave: the number r in v', which lies in v's own row or is new; nothing else has turned. -/
structure Left1 (w w' : World) (v v' : Value) (r : Int) : Prop where
  nat : NatAt w' v' r
  turned : Turned w w' (fun k => v.ownBlock = some k)
  place : v'.ownBlock = v.ownBlock ∨ ∃ g, v'.ownBlock = some g ∧ w.heap.size ≤ g

/-! ### set -/
theorem set_self {w : World} {g c : Nat} {n : Int} {cur : Array Value} (h : Holds1 w g c n cur) (hn : 0 < (dig n).length) :
    Calls Yba.prog 36 #[.slice (some ⟨g, 0, none⟩) (dig n).length c, .slice (some ⟨g, 0, none⟩) (dig n).length c] w fun e w' => e = .returned (.slice (some ⟨g, 0, none⟩) (dig n).length c) ∧ w' = w := by
  have hw : ∀ (j : Nat) (v : Value), ((dig n).map (Value.int .u64))[j]? = some v → cur[j]? = some v := by
    intro j v hj
    rw [List.getElem?_map] at hj
    obtain ⟨x, hx, rfl⟩ := Option.map_eq_some_iff.1 hj
    exact h.words j x hx
  have e := set_fit g (dig n).length c g (dig n).length c cur ((dig n).map (Value.int .u64)) w h.row h.size (by simp) h.room (by have := h.cap; omega)
    (fun j v hj => by rw [h.row.cell]; exact hw j v hj) (ints_oneCell .u64 _)
  refine e.mono ?_
  rintro e w' ⟨rfl, rfl⟩
  refine ⟨rfl, ?_⟩
  have : ((dig n).map (Value.int .u64) ++ cur.toList.drop (dig n).length).toArray = cur := by
    apply Array.ext_getElem?
    intro i
    simp only [List.getElem?_toArray]
    by_cases hi : i < (dig n).length
    · rw [List.getElem?_append_left (by simpa using hi)]
      have hx : ((dig n).map (Value.int .u64))[i]? = some (.int .u64 (dig n)[i]) := by simp [hi]
      rw [hx]; exact (hw i _ hx).symm
    · rw [List.getElem?_append_right (by simp; omega)]
      simp only [List.length_map, List.getElem?_drop]
      rw [show (dig n).length + (i - (dig n).length) = i by omega]
      simp
  rw [this]
  exact setRow_self w g cur 67 (0, 0) h.row

theorem Holds1.w0 {w : World} {g c : Nat} {n : Int} {cur : Array Value} (h : Holds1 w g c n cur) {x : Int} {l : List Int} (e : dig n = x :: l) : cur[0]? = some (Value.int .u64 x) := h.words 0 x (by rw [e]; rfl)
theorem Holds1.w1 {w : World} {g c : Nat} {n : Int} {cur : Array Value} (h : Holds1 w g c n cur) {x y : Int} {l : List Int} (e : dig n = x :: y :: l) : cur[1]? = some (Value.int .u64 y) := h.words 1 y (by rw [e]; rfl)

theorem dig_pos {a : Int} (h0 : 0 ≤ a) (h : a ≠ 0) : 0 < (dig a).length := by
  by_cases h1 : a < 18446744073709551616
  · rw [dig1 (by omega) h1]; simp
  · rw [dig2 (by omega)]; simp
theorem add_setn (ao : Option Addr) (lz c : Nat) (bo : Option Addr) (dx h d n g' c' : Nat) (w : World) (R : World → Prop) (hn : 0 < n) (hn' : n ≤ 1000)
    (hS : Calls Yba.prog 36 #[.slice ao lz c, .slice (some ⟨h, 0, none⟩) n d] w fun e w' => e = .returned (.slice (some ⟨g', 0, none⟩) n c') ∧ R w') :
    Calls Yba.prog 22 #[.slice ao lz c, .slice (some ⟨h, 0, none⟩) n d, .slice bo 0 dx] w fun e w' => e = .returned (.slice (some ⟨g', 0, none⟩) n c') ∧ R w' := by
  have hn0 : ((n : Int) == 0) = false := by simp; omega
  go_enter Yba.func22, Yba.ntmps22
  go_wp2_with fail
  refine hS.mono ?_
  rintro e w' ⟨rfl, hR⟩
  go_wp2
  go_ret
  exact ⟨rfl, hR⟩
/-- set of one word into an empty number. -/
theorem set_into {w : World} {ao : Option Addr} {c h d : Nat} {b : Int} {curb : Array Value} (A : (ao = none ∧ c = 0) ∨ ∃ g cur, ao = some ⟨g, 0, none⟩ ∧ Holds1 w g c 0 cur) (b0 : 0 < b) (hb : b < 18446744073709551616) (B : Holds1 w h d b curb) (l : Nat) :
    ∃ g' c', (Calls Yba.prog 36 #[.slice ao l c, .slice (some ⟨h, 0, none⟩) 1 d] w fun e w' => e = .returned (.slice (some ⟨g', 0, none⟩) 1 c') ∧ Left1 w w' (.slice ao l c) (.slice (some ⟨g', 0, none⟩) 1 c') b) := by
  have hbc : w.cell? ⟨h, 0, none⟩ = some (.int .u64 b) := (B.row.cell 0).trans (B.w0 (dig1 b0 hb))
  have eb := dig1 b0 hb
  rcases A with ⟨rfl, rfl⟩ | ⟨g, cur, rfl, A⟩
  · refine ⟨w.heap.size, 1, (set_new none l h d b w B.row.lt hbc).mono ?_⟩
    rintro e w' ⟨rfl, hr, hbel⟩
    refine ⟨rfl, ⟨⟨by omega, .inr ⟨_, 1, _, by rw [eb]; rfl, ⟨hr, rfl, .inl rfl, by rw [eb]; simp, fun j hj => ⟨b, by obtain rfl : j = 0 := (by omega); rfl⟩, fun j x hx => ?_⟩⟩⟩, Turned.of_below (B := 0) hbel, .inr ⟨_, rfl, Nat.le_refl _⟩⟩⟩
    rw [eb] at hx
    match j, hx with
    | 0, hx => simp at hx; subst hx; rfl
  · have hc1 : 1 ≤ c := by have := A.cap; omega
    refine ⟨g, c, (set_fit g l c h 1 d cur [.int .u64 b] w A.row A.size rfl hc1 (by have := A.cap; omega) (fun j v hj => ?_) (by intro v hv; simp at hv; subst hv; rfl)).mono ?_⟩
    · match j, hj with
      | 0, hj => simp at hj; subst hj; exact hbc
    · rintro e w' ⟨rfl, rfl⟩
      have hsz := A.size
      refine ⟨rfl, ⟨⟨by omega, .inr ⟨g, c, _, by rw [eb]; rfl, ⟨A.row.setRow _, by simp; omega, A.cap, by rw [eb]; exact hc1, fun j hj => ?_, fun j x hx => ?_⟩⟩⟩, (Turned.refl w _).setRow g _ (.inl rfl), .inl rfl⟩⟩
      · match j with
        | 0 => exact ⟨b, by simp⟩
        | j + 1 => obtain ⟨y, hy⟩ := A.ints (j + 1) hj; exact ⟨y, by simpa using hy⟩
      · rw [eb] at hx
        match j, hx with
        | 0, hx => simp at hx; subst hx; simp

theorem six {c : Nat} {w : World} {g : Nat} {a : Int} {cur : Array Value} (A : Holds1 w g c a cur) (h : 18446744073709551616 ≤ a) : c = 6 := by
  have := A.room
  rw [dig2 h] at this
  have := A.cap
  simp at *
  omega

/-! ### nat.add: a + b, b of at most one word -/
theorem nat_add {w : World} {v1 v2 : Value} {a b : Int} (A : NatAt w v1 a) (B : NatAt w v2 b) (ha : a < 170141183460469231731687303715884105728) (hb : b < 18446744073709551616) (hne : v1.ownBlock = none ∨ v1.ownBlock ≠ v2.ownBlock) :
    Calls Yba.prog 22 #[v1, v1, v2] w fun e w' => ∃ v', e = .returned v' ∧ Left1 w w' v1 v' (a + b) := by
  obtain ⟨a0, A⟩ := A
  obtain ⟨b0, B⟩ := B
  by_cases hbz : b = 0
  · subst hbz
    -- nothing is added
    obtain ⟨bo, d, rfl⟩ : ∃ bo d, v2 = .slice bo 0 d := by
      rcases B with ⟨_, rfl⟩ | ⟨g, c, cur, rfl, h⟩
      · exact ⟨none, 0, rfl⟩
      · exact ⟨some ⟨g, 0, none⟩, c, rfl⟩
    rw [Int.add_zero]
    rcases A with ⟨rfl, rfl⟩ | ⟨g, c, cur, rfl, h⟩
    · refine (add_00 none none bo 0 0 d 0 w (by omega) (fun _ => rfl)).mono ?_
      rintro e w' ⟨rfl, rfl⟩
      exact ⟨_, rfl, ⟨⟨a0, .inl ⟨rfl, rfl⟩⟩, Turned.refl _ _, .inl rfl⟩⟩
    · by_cases haz : a = 0
      · subst haz
        refine (add_00 (some ⟨g, 0, none⟩) (some ⟨g, 0, none⟩) bo c c d 0 w (by have := h.cap; omega) (fun h => by cases h)).mono ?_
        rintro e w' ⟨rfl, rfl⟩
        exact ⟨_, rfl, ⟨⟨a0, .inr ⟨g, c, cur, rfl, h⟩⟩, Turned.refl _ _, .inl rfl⟩⟩
      · have hl := dig_pos a0 haz
        refine (add_setn (some ⟨g, 0, none⟩) _ c bo d g c _ g c w (fun w' => w' = w) hl (by have := h.cap; have := h.room; omega) (set_self h hl)).mono ?_
        rintro e w' ⟨rfl, rfl⟩
        exact ⟨_, rfl, ⟨⟨a0, .inr ⟨g, c, cur, rfl, h⟩⟩, Turned.refl _ _, .inl rfl⟩⟩
  · rcases B with ⟨e, _⟩ | ⟨h, d, curb, rfl, B⟩
    · exact absurd e hbz
    have eb := dig1 (n := b) (by omega) hb
    have hbc : w.cell? ⟨h, 0, none⟩ = some (.int .u64 b) := (B.row.cell 0).trans (B.w0 eb)
    have hd1 : 1 ≤ d := by have := B.cap; omega
    rw [eb]
    by_cases haz : a = 0
    · subst haz
      obtain ⟨ao, c, rfl, A'⟩ : ∃ ao c, v1 = .slice ao 0 c ∧ ((ao = none ∧ c = 0) ∨ ∃ g cur, ao = some ⟨g, 0, none⟩ ∧ Holds1 w g c 0 cur) := by
        rcases A with ⟨_, rfl⟩ | ⟨g, c, cur, rfl, A⟩
        · exact ⟨none, 0, rfl, .inl ⟨rfl, rfl⟩⟩
        · exact ⟨_, c, rfl, .inr ⟨g, cur, rfl, A⟩⟩
      obtain ⟨g', c', hS⟩ := set_into A' (by omega) hb B 0
      refine (add_01 ao 0 c ao c h d g' c' w _ hS).mono ?_
      rintro e w' ⟨rfl, hL⟩
      rw [Int.zero_add]
      exact ⟨_, rfl, hL⟩
    · rcases A with ⟨e, _⟩ | ⟨g, c, cur, rfl, A⟩
      · exact absurd e haz
      have hgh : g ≠ h := fun e => by subst e; rcases hne with h' | h' <;> first | exact h' rfl | cases h'
      have hsz := A.size
      by_cases h1 : a < 18446744073709551616
      · have ea := dig1 (n := a) (by omega) h1
        have hm : ∃ m, ((addHi a b 0 = 0 ∧ (addLo a b 0 == 0) = false ∧ m = 1) ∨ ((addHi a b 0 == 0) = false ∧ m = 2)) ∧ m = (dig (a + b)).length := by
          by_cases hs : a + b < 18446744073709551616
          · refine ⟨1, .inl ⟨by unfold addHi; omega, by unfold addLo; simp; omega, rfl⟩, by rw [dig1 (by omega) hs]; rfl⟩
          · refine ⟨2, .inr ⟨by unfold addHi; simp; omega, rfl⟩, by rw [dig2 (by omega)]; rfl⟩
        obtain ⟨m, hm, hml⟩ := hm
        have hwords : ∀ (C : Array Value), C[0]? = some (Value.int .u64 (addLo a b 0)) → C[1]? = some (Value.int .u64 (addHi a b 0)) → ∀ (j : Nat) (x : Int), (dig (a + b))[j]? = some x → C[j]? = some (Value.int .u64 x) := by
          intro C c0 c1 j x hx
          by_cases hs : a + b < 18446744073709551616
          · rw [dig1 (by omega) hs] at hx
            match j, hx with
            | 0, hx => simp at hx; subst hx; rw [c0]; congr 2; unfold addLo; omega
          · rw [dig2 (by omega)] at hx
            match j, hx with
            | 0, hx => simp at hx; subst hx; rw [c0]; congr 2; unfold addLo; omega
            | 1, hx => simp at hx; subst hx; rw [c1]; congr 2; unfold addHi; omega
        rw [ea]
        rcases A.cap with rfl | rfl
        · refine (add_11_new g 1 h d a b w A.row.lt B.row.lt (by omega) (by omega) hd1 a0 b0 ((A.row.cell 0).trans (A.w0 ea)) hbc m hm).mono ?_
          rintro e w' ⟨rfl, hr, hbel⟩
          refine ⟨_, rfl, ⟨⟨by omega, .inr ⟨_, 6, _, by rw [hml], ⟨hr, rfl, .inr rfl, by rw [← hml]; rcases hm with h | h <;> omega, fun j hj => ?_, hwords _ rfl rfl⟩⟩⟩, Turned.of_below (B := 0) hbel, .inr ⟨_, rfl, Nat.le_refl _⟩⟩⟩
          match j, hj with
          | 0, _ => exact ⟨_, rfl⟩
          | 1, _ => exact ⟨_, rfl⟩
          | 2, _ => exact ⟨_, rfl⟩
          | 3, _ => exact ⟨_, rfl⟩
          | 4, _ => exact ⟨_, rfl⟩
          | 5, _ => exact ⟨_, rfl⟩
        · obtain ⟨v1, hv1⟩ := A.ints 1 (by omega)
          refine (add_11_fit g 6 h d a b v1 w cur A.row hsz (by omega) (by omega) hd1 a0 b0 hgh (A.w0 ea) hv1 hbc m hm).mono ?_
          rintro e w' ⟨rfl, hr, ht⟩
          refine ⟨_, rfl, ⟨⟨by omega, .inr ⟨g, 6, _, by rw [hml], ⟨hr, by simp; omega, .inr rfl, by rw [← hml]; rcases hm with h | h <;> omega, ints_set (ints_set A.ints hsz) (by simp; omega), hwords _ ?_ ?_⟩⟩⟩, ht.mono (fun k _ e => by rw [e]; rfl), .inl rfl⟩⟩
          · rw [at_other _ _ _ _ (by omega)]; exact at_set _ _ _ (by omega)
          · exact at_set _ _ _ (by simp; omega)
      · have ea := dig2 (n := a) (by omega)
        have h6 := six A (by omega)
        subst h6
        obtain ⟨v2, hv2⟩ := A.ints 2 (by omega)
        rw [ea]
        refine (add_21 g h d _ _ b v2 w cur A.row hsz hd1 (by omega) (by omega) b0 hgh (A.w0 ea) (A.w1 ea) hv2 hbc (by unfold addHi; omega) (by unfold addHi; omega) (by unfold addHi; omega) (by unfold addLo addHi; simp; omega)).mono ?_
        rintro e w' ⟨rfl, hr, ht⟩
        refine ⟨_, rfl, ⟨⟨by omega, .inr ⟨g, 6, _, by rw [dig2 (by omega)]; rfl, ⟨hr, by simp; omega, .inr rfl, by rw [dig2 (by omega)]; simp, ints_set (ints_set (ints_set A.ints hsz) (by simp; omega)) (by simp; omega), fun j x hx => ?_⟩⟩⟩, ht.mono (fun k _ e => by rw [e]; rfl), .inl rfl⟩⟩
        rw [dig2 (by omega)] at hx
        match j, hx with
        | 0, hx => simp at hx; subst hx; rw [at_other _ _ _ _ (by omega), at_other _ _ _ _ (by omega), at_set _ _ _ (by omega)]; congr 2; unfold addLo; omega
        | 1, hx => simp at hx; subst hx; rw [at_other _ _ _ _ (by omega), at_set _ _ _ (by simp; omega)]; congr 2; unfold addLo addHi; omega
end Go.Proofs.Ybulkbwco
