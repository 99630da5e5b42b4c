/-
  The plain law of number.
-/
import Derived.Test.YbulkbwdqPlain
namespace Go.Proofs.Ybulkbwdq
set_option linter.unusedVariables false

/-- The place of v in the list, or its length. -/
def place : List Int → Int → Nat
  | [], _ => 0
  | x :: l, v => if x = v then 0 else place l v + 1
theorem place_le : ∀ (l : List Int) (v : Int), place l v ≤ l.length
  | [], _ => Nat.le_refl _
  | x :: l, v => by
    have := place_le l v
    simp only [place]
    split
    · exact Nat.zero_le _
    · simp; omega
theorem place_mem : ∀ (l : List Int) (v : Int), v ∈ l ↔ place l v < l.length
  | [], v => by simp [place]
  | x :: l, v => by
    have := place_mem l v
    simp only [place]
    by_cases e : x = v
    · subst e; simp
    · rw [if_neg e]
      simp [Ne.symm e, this]
theorem place_at : ∀ (l : List Int) (v : Int), v ∈ l → l.getD (place l v) 0 = v
  | [], v, h => by simp at h
  | x :: l, v, h => by
    simp only [place]
    by_cases e : x = v
    · subst e; simp
    · rw [if_neg e]
      have := place_at l v (by simpa [Ne.symm e] using h)
      simpa [List.getD] using this
theorem place_new (l : List Int) (v : Int) (h : v ∉ l) : place l v = l.length := by
  have h1 := place_le l v
  have h2 := place_mem l v
  by_cases e : place l v < l.length
  · exact absurd (h2.2 e) h
  · omega
theorem place_snoc (l : List Int) (v u : Int) (h : u ∈ l) : place (l ++ [v]) u = place l u := by
  induction l with
  | nil => simp at h
  | cons x l ih =>
    simp only [List.cons_append, place]
    by_cases e : x = u
    · rw [if_pos e, if_pos e]
    · rw [if_neg e, if_neg e, ih (by simpa [Ne.symm e] using h)]
theorem place_self (l : List Int) (v : Int) (h : v ∉ l) : place (l ++ [v]) v = l.length := by
  induction l with
  | nil => simp [place]
  | cons x l ih =>
    simp only [List.cons_append, place]
    have e : x ≠ v := fun e => h (by simp [e])
    rw [if_neg e, ih (fun h' => h (by simp [h']))]
    simp

/-- What is taken, so far. -/
def took (src : List Int) (v : Int) : List Int := if v = -1 ∨ v ∈ src then src else src ++ [v]
/-- The sources in the order of their first place. -/
def srcs (vals : List Int) (k : Nat) : List Int := (vals.take k).foldl took []
def outOf (src : List Int) (v : Int) : Int := if v = -1 then -1 else (place src v : Int)
theorem srcs_succ (vals : List Int) (k : Nat) (h : k < vals.length) : srcs vals (k + 1) = took (srcs vals k) (vals.getD k 0) := by
  unfold srcs
  rw [List.take_add_one, List.foldl_append]
  simp [List.getD, h]
/-- The number that the k-th value gets. -/
def outAt (vals : List Int) (k : Nat) : Int := outOf (srcs vals (k + 1)) (vals.getD k 0)
/-- The sources are not -1 and come out of the values. -/
theorem srcs_mem (vals : List Int) (k : Nat) : ∀ x ∈ srcs vals k, x ≠ -1 ∧ x ∈ vals := by
  have : ∀ (l : List Int) (acc : List Int), (∀ x ∈ acc, x ≠ -1 ∧ x ∈ vals) → (∀ x ∈ l, x ∈ vals) → ∀ x ∈ l.foldl took acc, x ≠ -1 ∧ x ∈ vals := by
    intro l
    induction l with
    | nil => intro acc h _ x hx; exact h x hx
    | cons v l ih =>
      intro acc h hl x hx
      refine ih (took acc v) (fun y hy => ?_) (fun y hy => hl y (by simp [hy])) x hx
      unfold took at hy
      split at hy
      · exact h y hy
      · rename_i hn
        rcases List.mem_append.1 hy with hy | hy
        · exact h y hy
        · simp at hy
          subst hy
          exact ⟨fun e => hn (.inl e), hl y (by simp)⟩
  exact this (vals.take k) [] (fun x hx => by simp at hx) (fun x hx => List.mem_of_mem_take hx)
theorem srcs_nodup (vals : List Int) (k : Nat) : (srcs vals k).Nodup := by
  have : ∀ (l : List Int) (acc : List Int), acc.Nodup → (l.foldl took acc).Nodup := by
    intro l
    induction l with
    | nil => intro acc h; exact h
    | cons v l ih =>
      intro acc h
      refine ih (took acc v) ?_
      unfold took
      split
      · exact h
      · rename_i hn
        rw [List.nodup_append]
        exact ⟨h, by simp, fun a ha b hb e => by simp at hb; subst hb; subst e; exact hn (.inr ha)⟩
  exact this (vals.take k) [] List.nodup_nil
/-- They only grow. -/
theorem took_pre (src : List Int) (v : Int) : src <+: took src v := by
  unfold took
  split
  · exact List.prefix_refl _
  · exact List.prefix_append _ _
/-- renum is laid with -1. -/
def fill (n k : Nat) : List Int := List.replicate k (-1) ++ List.replicate (n - k) 0
theorem fill_len (n k : Nat) (h : k ≤ n) : (fill n k).length = n := by simp [fill]; omega
theorem fill_set (n k : Nat) (h : k < n) : (fill n k).set k (-1) = fill n (k + 1) := by
  unfold fill
  rw [List.set_append_right _ _ (by simp)]
  simp only [List.length_replicate, Nat.sub_self]
  rw [show n - k = (n - (k + 1)) + 1 by omega, List.replicate_succ, List.set_cons_zero, List.replicate_succ' (n := k), List.append_assoc]
  rfl
theorem fill_all (n : Nat) : fill n n = List.replicate n (-1) := by simp [fill]
theorem fill_none (n : Nat) : fill n 0 = List.replicate n 0 := by simp [fill]
/-- The values after k rounds. -/
def curAt (vals : List Int) (k : Nat) : List Int := (List.range k).map (outAt vals) ++ vals.drop k
theorem curAt_len (vals : List Int) (k : Nat) (h : k ≤ vals.length) : (curAt vals k).length = vals.length := by simp [curAt]; omega
theorem curAt_at (vals : List Int) (k : Nat) : (curAt vals k).getD k 0 = vals.getD k 0 := by
  simp only [curAt, List.getD]
  rw [List.getElem?_append_right (by simp)]
  simp
theorem curAt_set (vals : List Int) (k : Nat) (h : k < vals.length) : (curAt vals k).set k (outAt vals k) = curAt vals (k + 1) := by
  have e : (vals.drop k).set 0 (outAt vals k) = outAt vals k :: vals.drop (k + 1) := by rw [List.drop_eq_getElem_cons h]; rfl
  unfold curAt
  rw [List.set_append_right _ _ (by simp)]
  simp only [List.length_map, List.length_range, Nat.sub_self]
  rw [e]
  simp [List.range_succ]
theorem set_same (l : List Int) (k : Nat) (v : Int) (h : l.getD k 0 = v) (hk : k < l.length) : l.set k v = l := by
  apply List.ext_getElem?
  intro i
  by_cases e : k = i
  · subst e
    rw [List.getElem?_set_self hk]
    simp [List.getD, hk] at h
    rw [List.getElem?_eq_getElem hk, h]
  · rw [List.getElem?_set_ne e]
theorem curAt_none (vals : List Int) (k : Nat) (h : k < vals.length) (hv : vals.getD k 0 = -1) : curAt vals (k + 1) = curAt vals k ∧ srcs vals (k + 1) = srcs vals k := by
  refine ⟨?_, ?_⟩
  · rw [← curAt_set vals k h]
    refine set_same _ _ _ ?_ (by rw [curAt_len vals k (by omega)]; exact h)
    rw [curAt_at, hv]
    unfold outAt outOf
    rw [hv, if_pos rfl]
  · rw [srcs_succ vals k h, hv]
    simp [took]
theorem out_old (vals : List Int) (k : Nat) (h : k < vals.length) (v : Int) (hv : vals.getD k 0 = v) (hn : v ≠ -1) (hm : v ∈ srcs vals k) : outAt vals k = place (srcs vals k) v ∧ srcs vals (k + 1) = srcs vals k := by
  have e : srcs vals (k + 1) = srcs vals k := by rw [srcs_succ vals k h, hv]; simp [took, hm]
  refine ⟨?_, e⟩
  unfold outAt outOf
  rw [e, hv, if_neg hn]
theorem out_new (vals : List Int) (k : Nat) (h : k < vals.length) (v : Int) (hv : vals.getD k 0 = v) (hn : v ≠ -1) (hm : v ∉ srcs vals k) : outAt vals k = ((srcs vals k).length : Int) ∧ srcs vals (k + 1) = srcs vals k ++ [v] := by
  have e : srcs vals (k + 1) = srcs vals k ++ [v] := by rw [srcs_succ vals k h, hv]; simp [took, hm, hn]
  refine ⟨?_, e⟩
  unfold outAt outOf
  rw [e, hv, if_neg hn, place_self _ _ hm]
end Go.Proofs.Ybulkbwdq
