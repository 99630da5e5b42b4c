/-
  The plain law of parallelOps: the copies, carried out one after another, leave what the sources held before.
-/
import Derived.Test.YbulkbwdqRows
namespace Go.Proofs.Ybulkbwdq
set_option linter.unusedVariables false

/-- One copy: register op.1 takes register op.2, or the offset (told as -3) where op.2 is -2. -/
def stp (f : Int → Int) (op : Int × Int) : Int → Int := fun x => if x = op.1 then (if op.2 = -2 then -3 else f op.2) else f x
def exec (ops : List (Int × Int)) (f : Int → Int) : Int → Int := ops.foldl stp f
theorem exec_nil (f : Int → Int) : exec [] f = f := rfl
theorem exec_snoc (ops : List (Int × Int)) (op : Int × Int) (f : Int → Int) : exec (ops ++ [op]) f = stp (exec ops f) op := by simp [exec, List.foldl_append]
theorem stp_at (f : Int → Int) (d s : Int) (h : s ≠ -2) : stp f (d, s) d = f s := by simp [stp, h]
theorem stp_here (f : Int → Int) (d : Int) : stp f (d, -2) d = -3 := by simp [stp]
theorem stp_off (f : Int → Int) (d s x : Int) (h : x ≠ d) : stp f (d, s) x = f x := by simp [stp, h]

theorem sub_length {α : Type} [DecidableEq α] : ∀ {l m : List α}, l.Nodup → (∀ x ∈ l, x ∈ m) → l.length ≤ m.length
  | [], m, _, _ => Nat.zero_le _
  | a :: l, m, nd, h => by
    have ha : a ∈ m := h a (by simp)
    have nd' := List.nodup_cons.1 nd
    have := sub_length (l := l) (m := m.erase a) nd'.2 (fun x hx => (List.mem_erase_of_ne (show x ≠ a from fun e => nd'.1 (e ▸ hx))).2 (h x (by simp [hx])))
    rw [List.length_erase_of_mem ha] at this
    have hp : 0 < m.length := List.length_pos_of_mem ha
    simp
    omega
/-- Where every register that is still to be written is read by another, none reads a register outside. -/
theorem no_temp {P : List Int} {g : Int → Int} (nd : P.Nodup) (cov : ∀ s ∈ P, ∃ y ∈ P, g y = s) {t : Int} (ht : t ∉ P) : ∀ x ∈ P, g x ≠ t := by
  intro x hx e
  have h1 : ∀ s ∈ P, s ∈ (P.map g).erase t := fun s hs => by
    obtain ⟨y, hy, hs'⟩ := cov s hs
    exact (List.mem_erase_of_ne (show s ≠ t from fun e => ht (e ▸ hs))).2 (List.mem_map.2 ⟨y, hy, hs'⟩)
  have h2 := sub_length nd h1
  rw [List.length_erase_of_mem (List.mem_map.2 ⟨x, hx, e⟩)] at h2
  have := List.length_pos_of_mem hx
  simp at h2
  omega

/-- What register r takes. -/
def at_ (l : List Int) (r : Int) : Int := l.getD r.toNat 0
theorem at_nat (l : List Int) (k : Nat) : at_ l (k : Int) = l.getD k 0 := rfl
/-- How many of the registers P read s. -/
def cnt (frm : List Int) (P : List Int) (s : Int) : Nat := P.countP (fun r => at_ frm r == s)

structure Inv (m temp : Nat) (src frm P rd : List Int) (ops : List (Int × Int)) (fl : Nat) : Prop where
  ls : src.length = m
  lf : frm.length = m
  lr : rd.length = temp + 1
  le : m ≤ temp
  nd : P.Nodup
  pin : ∀ r ∈ P, 0 ≤ r ∧ r < m ∧ 0 ≤ at_ frm r ∧ at_ frm r ≤ temp ∧ 0 ≤ at_ src r
  val : ∀ f0, ∀ r ∈ P, exec ops f0 (at_ frm r) = f0 (at_ src r)
  done : ∀ f0 (r : Int), 0 ≤ r → r < m → 0 ≤ at_ src r → r ∉ P → exec ops f0 r = f0 (at_ src r)
  cn : ∀ s : Int, 0 ≤ s → s < temp → at_ rd s = (cnt frm P s : Int)
  ok : ∀ op ∈ ops, 0 ≤ op.1 ∧ op.1 ≤ temp ∧ 0 ≤ op.2 ∧ op.2 ≤ temp
  fl1 : fl ≤ 1
  fl0 : fl = 0 → ∃ r ∈ P, at_ frm r = temp
  num : ops.length + 2 * P.length + fl ≤ 2 * m + 1

theorem at_set (l : List Int) (i : Int) (v : Int) (s : Int) (hi : 0 ≤ i) (hl : i < l.length) (hs : 0 ≤ s) : at_ (l.set i.toNat v) s = if s = i then v else at_ l s := by
  unfold at_
  by_cases e : s = i
  · subst e
    simp [List.getD, show s.toNat < l.length by omega]
  · rw [if_neg e]
    simp only [List.getD]
    rw [List.getElem?_set_ne (by omega)]

/-- A register that none still reads is written. -/
theorem emit {m temp : Nat} {src frm R Q rd : List Int} {r : Int} {ops : List (Int × Int)} {fl : Nat} (h : Inv m temp src frm (R ++ r :: Q) rd ops fl) (h0 : at_ rd r ≤ 0) (d : Int) (hd : at_ frm r < temp → d = at_ rd (at_ frm r) - 1) :
    Inv m temp src frm (R ++ Q) (rd.set (at_ frm r).toNat d) (ops ++ [(r, at_ frm r)]) 1 := by
  have hr := h.pin r (by simp)
  have hsub : ∀ x, x ∈ R ++ Q → x ∈ R ++ r :: Q := fun x hx => by
    simp at hx ⊢
    rcases hx with hx | hx
    · exact .inl hx
    · exact .inr (.inr hx)
  have nd := h.nd
  have hrn : r ∉ R ++ Q := by
    rw [List.nodup_append] at nd
    obtain ⟨n1, n2, n3⟩ := nd
    rw [List.nodup_cons] at n2
    intro hx
    rcases List.mem_append.1 hx with hx | hx
    · exact n3 r hx r (by simp) rfl
    · exact n2.1 hx
  have hnr : ∀ x ∈ R ++ r :: Q, at_ frm x ≠ r := by
    intro x hx e
    have hc := h.cn r hr.1 (by have := h.le; omega)
    have : 0 < cnt frm (R ++ r :: Q) r := List.countP_pos_iff.2 ⟨x, hx, by simp [e]⟩
    omega
  refine { h with
    lr := by simp [h.lr]
    nd := ?_
    pin := fun x hx => h.pin x (hsub x hx)
    val := fun f0 x hx => ?_
    done := fun f0 x h1 h2 h3 h4 => ?_
    cn := fun s s0 s1 => ?_
    ok := fun op hop => ?_
    fl1 := Nat.le_refl _
    fl0 := fun e => by cases e
    num := ?_ }
  · have : (R ++ Q).Sublist (R ++ r :: Q) := List.Sublist.append_left (List.sublist_cons_self r Q) R
    exact this.nodup nd
  · rw [exec_snoc, stp_off _ _ _ _ (hnr x (hsub x hx))]
    exact h.val f0 x (hsub x hx)
  · rw [exec_snoc]
    by_cases e : x = r
    · subst e
      rw [stp_at _ _ _ (by omega)]
      exact h.val f0 x (by simp)
    · rw [stp_off _ _ _ _ e]
      refine h.done f0 x h1 h2 h3 (fun hx => h4 ?_)
      simp at hx ⊢
      rcases hx with hx | hx | hx
      · exact .inl hx
      · exact absurd hx e
      · exact .inr hx
  · rw [at_set _ _ _ _ hr.2.2.1 (by rw [h.lr]; omega) s0]
    have hc := h.cn s s0 s1
    unfold cnt at hc ⊢
    rw [List.countP_append] at hc ⊢
    rw [List.countP_cons] at hc
    by_cases e : s = at_ frm r
    · rw [if_pos e, hd (by omega), ← e, hc]
      simp [e]
      omega
    · rw [if_neg e, hc]
      simp [Ne.symm e]
  · rcases List.mem_append.1 hop with hop | hop
    · exact h.ok op hop
    · simp at hop
      subst hop
      refine ⟨hr.1, ?_, hr.2.2.1, hr.2.2.2.1⟩
      have := h.le
      have := hr.2.1
      show r ≤ temp
      omega
  · have := h.num
    simp at this ⊢
    omega

/-- A cycle is broken: one register goes to temp. -/
theorem breaks {m temp : Nat} {src frm P rd frm' : List Int} {r0 : Int} {ops : List (Int × Int)} {fl : Nat} (h : Inv m temp src frm P rd ops fl) (h0 : r0 ∈ P) (hall : ∀ r ∈ P, 0 < at_ rd r)
    (hl : frm'.length = m) (hf : ∀ x ∈ P, at_ frm' x = if at_ frm x = r0 then (temp : Int) else at_ frm x) :
    Inv m temp src frm' P (rd.set r0.toNat 0) (ops ++ [((temp : Int), r0)]) 0 ∧ fl = 1 := by
  have hr := h.pin r0 h0
  have hle := h.le
  have htP : (temp : Int) ∉ P := fun ht => by have := h.pin _ ht; omega
  have cov : ∀ s ∈ P, ∃ y ∈ P, at_ frm y = s := by
    intro s hs
    have hp := h.pin s hs
    have hc := h.cn s hp.1 (by omega)
    have := hall s hs
    have hpos : 0 < cnt frm P s := by omega
    obtain ⟨y, hy, e⟩ := List.countP_pos_iff.1 hpos
    exact ⟨y, hy, by simpa using e⟩
  have hno := no_temp (g := at_ frm) h.nd cov htP
  obtain ⟨x0, hx0, ex0⟩ := cov r0 h0
  have hfl : fl = 1 := by
    have := h.fl1
    by_cases e : fl = 0
    · obtain ⟨x, hx, e'⟩ := h.fl0 e
      exact absurd e' (hno x hx)
    · omega
  refine ⟨{ h with
    lf := hl
    lr := by simp [h.lr]
    pin := fun x hx => ?_
    val := fun f0 x hx => ?_
    done := fun f0 x h1 h2 h3 h4 => ?_
    cn := fun s s0 s1 => ?_
    ok := fun op hop => ?_
    fl1 := by omega
    fl0 := fun _ => ⟨x0, hx0, by rw [hf x0 hx0, if_pos ex0]⟩
    num := ?_ }, hfl⟩
  · have := h.pin x hx
    rw [hf x hx]
    split <;> omega
  · rw [exec_snoc, hf x hx]
    split
    · rename_i e
      rw [stp_at _ _ _ (by omega), ← e]
      exact h.val f0 x hx
    · rw [stp_off _ _ _ _ (hno x hx)]
      exact h.val f0 x hx
  · rw [exec_snoc, stp_off _ _ _ _ (by omega)]
    exact h.done f0 x h1 h2 h3 h4
  · rw [at_set _ _ _ _ hr.1 (by rw [h.lr]; omega) s0]
    unfold cnt
    by_cases e : s = r0
    · rw [if_pos e]
      have : P.countP (fun r => at_ frm' r == s) = 0 := by
        rw [List.countP_eq_zero]
        intro x hx
        rw [hf x hx]
        simp only [beq_iff_eq]
        split <;> omega
      rw [this]
      rfl
    · rw [if_neg e, h.cn s s0 s1]
      unfold cnt
      congr 1
      refine List.countP_congr (fun x hx => ?_)
      rw [hf x hx]
      simp only [beq_iff_eq]
      split <;> omega
  · rcases List.mem_append.1 hop with hop | hop
    · exact h.ok op hop
    · simp at hop
      subst hop
      exact ⟨Int.natCast_nonneg _, Int.le_refl _, hr.1, by show r0 ≤ temp; omega⟩
  · have := h.num
    simp at this ⊢
    omega

/-- The first loop: which registers are to be written. -/
structure Inv1 (m temp k : Nat) (src P rd : List Int) : Prop where
  nd : P.Nodup
  mem : ∀ r : Int, r ∈ P ↔ (0 ≤ r ∧ r < k ∧ 0 ≤ at_ src r ∧ at_ src r ≠ r)
  cn : ∀ s : Int, 0 ≤ s → s < temp → at_ rd s = (cnt src P s : Int)
  lr : rd.length = temp + 1
  lp : P.length ≤ k
theorem inv1_skip {m temp k : Nat} {src P rd : List Int} (h : Inv1 m temp k src P rd) (hs : ¬ (0 ≤ at_ src k ∧ at_ src k ≠ k)) : Inv1 m temp (k + 1) src P rd := by
  refine { h with mem := fun r => ?_, lp := by have := h.lp; omega }
  rw [h.mem r]
  constructor
  · rintro ⟨h1, h2, h3⟩
    exact ⟨h1, by omega, h3⟩
  · rintro ⟨h1, h2, h3⟩
    refine ⟨h1, ?_, h3⟩
    by_cases e : r = k
    · subst e; exact absurd h3 hs
    · omega
theorem inv1_add {m temp k : Nat} {src P rd : List Int} (h : Inv1 m temp k src P rd) (hs : 0 ≤ at_ src k ∧ at_ src k ≠ k) (ht : at_ src k < temp) : Inv1 m temp (k + 1) src (P ++ [(k : Int)]) (rd.set (at_ src k).toNat (at_ rd (at_ src k) + 1)) := by
  have hk : (k : Int) ∉ P := fun hk => by have := (h.mem _).1 hk; omega
  refine ⟨?_, fun r => ?_, fun s s0 s1 => ?_, by simp [h.lr], by have := h.lp; simp; omega⟩
  · rw [List.nodup_append]
    exact ⟨h.nd, by simp, fun a ha b hb e => by simp at hb; subst hb; subst e; exact hk ha⟩
  · rw [List.mem_append, h.mem r]
    simp only [List.mem_singleton]
    constructor
    · rintro (⟨h1, h2, h3⟩ | rfl)
      · exact ⟨h1, by omega, h3⟩
      · exact ⟨by omega, by omega, hs⟩
    · rintro ⟨h1, h2, h3⟩
      by_cases e : r = k
      · exact .inr e
      · exact .inl ⟨h1, by omega, h3⟩
  · rw [at_set _ _ _ _ hs.1 (by rw [h.lr]; omega) s0]
    unfold cnt
    rw [List.countP_append, List.countP_singleton]
    by_cases e : s = at_ src k
    · rw [if_pos e, ← e, h.cn s s0 s1]
      simp [cnt, e]
    · rw [if_neg e, h.cn s s0 s1]
      simp [cnt, Ne.symm e]
/-- .. and the start of the copies. -/
theorem inv_start {m temp : Nat} {src P rd : List Int} (h : Inv1 m temp m src P rd) (ls : src.length = m) (le : m ≤ temp) (hsrc : ∀ r : Int, 0 ≤ r → r < m → at_ src r < temp) : Inv m temp src src P rd [] 1 := by
  refine ⟨ls, ls, h.lr, le, h.nd, fun r hr => ?_, fun f0 r hr => rfl, fun f0 r h1 h2 h3 h4 => ?_, h.cn, (fun op hop => by simp at hop), Nat.le_refl _, (fun e => by cases e), (by have := h.lp; simp; omega)⟩
  · obtain ⟨h1, h2, h3, h4⟩ := (h.mem r).1 hr
    have := hsrc r h1 h2
    exact ⟨h1, h2, h3, by omega, h3⟩
  · have : at_ src r = r := by
      by_cases e : at_ src r = r
      · exact e
      · exact absurd ((h.mem r).2 ⟨h1, h2, h3, e⟩) h4
    rw [this]
    rfl

/-- The last loop: the offset. -/
structure Fina (m temp k : Nat) (src : List Int) (ops : List (Int × Int)) : Prop where
  low : ∀ f0 (r : Int), 0 ≤ r → r < m → 0 ≤ at_ src r → exec ops f0 r = f0 (at_ src r)
  here : ∀ f0 (r : Int), 0 ≤ r → r < k → at_ src r = -2 → exec ops f0 r = -3
  ok : ∀ op ∈ ops, 0 ≤ op.1 ∧ op.1 ≤ temp ∧ (op.2 = -2 ∨ 0 ≤ op.2 ∧ op.2 ≤ temp)
  num : ops.length ≤ 2 * m + 1 + k
theorem fin_start {m temp : Nat} {src frm rd : List Int} {ops : List (Int × Int)} {fl : Nat} (h : Inv m temp src frm [] rd ops fl) : Fina m temp 0 src ops :=
  ⟨fun f0 r h1 h2 h3 => h.done f0 r h1 h2 h3 (by simp), fun f0 r h1 h2 => by omega, fun op hop => by obtain ⟨a, b, c, d⟩ := h.ok op hop; exact ⟨a, b, .inr ⟨c, d⟩⟩, by have := h.num; simp at this; omega⟩
theorem fin_skip {m temp k : Nat} {src : List Int} {ops : List (Int × Int)} (h : Fina m temp k src ops) (hs : at_ src k ≠ -2) : Fina m temp (k + 1) src ops := by
  refine { h with here := fun f0 r h1 h2 h3 => h.here f0 r h1 ?_ h3, num := by have := h.num; omega }
  by_cases e : r = k
  · subst e; exact absurd h3 hs
  · omega
theorem fin_add {m temp k : Nat} {src : List Int} {ops : List (Int × Int)} (h : Fina m temp k src ops) (hk : k < m) (hm : m ≤ temp) (hs : at_ src k = -2) : Fina m temp (k + 1) src (ops ++ [((k : Int), -2)]) := by
  refine ⟨fun f0 r h1 h2 h3 => ?_, fun f0 r h1 h2 h3 => ?_, fun op hop => ?_, by have := h.num; simp; omega⟩
  · have : r ≠ k := fun e => by subst e; omega
    rw [exec_snoc, stp_off _ _ _ _ this]
    exact h.low f0 r h1 h2 h3
  · rw [exec_snoc]
    by_cases e : r = k
    · subst e; exact stp_here _ _
    · rw [stp_off _ _ _ _ e]
      exact h.here f0 r h1 (by omega) h3
  · rcases List.mem_append.1 hop with hop | hop
    · exact h.ok op hop
    · simp at hop
      subst hop
      exact ⟨by show (0 : Int) ≤ k; omega, by show (k : Int) ≤ temp; omega, .inl rfl⟩
/-- The row that rest and pending share. -/
theorem xs_at (R P : List Int) (i : Nat) (h : R.length ≤ i) : (R ++ P.drop R.length).getD i 0 = P.getD i 0 := by
  simp only [List.getD]
  rw [List.getElem?_append_right h, List.getElem?_drop]
  congr 2
  omega
theorem xs_len (R P : List Int) (h : R.length ≤ P.length) : (R ++ P.drop R.length).length = P.length := by simp; omega
theorem xs_set (R P : List Int) (r : Int) (h : R.length < P.length) : (R ++ P.drop R.length).set R.length r = (R ++ [r]) ++ P.drop (R ++ [r]).length := by
  have e : (P.drop R.length).set 0 r = r :: P.drop (R.length + 1) := by rw [List.drop_eq_getElem_cons h]; rfl
  rw [List.set_append_right _ _ (Nat.le_refl _), Nat.sub_self, e]
  simp
theorem drop_at (P : List Int) (i : Nat) (h : i < P.length) : P.drop i = P.getD i 0 :: P.drop (i + 1) := by
  rw [List.drop_eq_getElem_cons h]
  simp [List.getD, h]
theorem cnt_le (frm P : List Int) (s : Int) : cnt frm P s ≤ P.length := List.countP_le_length
/-- The loop that turns the readers of r0 to temp, after i rounds. -/
structure Brk (m temp i : Nat) (frm frm' R : List Int) (r0 : Int) : Prop where
  len : frm'.length = m
  was : ∀ j, i ≤ j → j < R.length → at_ frm' (R.getD j 0) = at_ frm (R.getD j 0)
  now : ∀ j, j < i → j < R.length → at_ frm' (R.getD j 0) = if at_ frm (R.getD j 0) = r0 then (temp : Int) else at_ frm (R.getD j 0)
theorem brk_start {m temp : Nat} {frm R : List Int} {r0 : Int} (hl : frm.length = m) : Brk m temp 0 frm frm R r0 := ⟨hl, fun _ _ _ => rfl, fun j hj => by omega⟩
theorem getD_nd {R : List Int} (nd : R.Nodup) {i j : Nat} (hi : i < R.length) (hj : j < R.length) (e : R.getD i 0 = R.getD j 0) : i = j := by
  simp only [List.getD, List.getElem?_eq_getElem hi, List.getElem?_eq_getElem hj, Option.getD_some] at e
  exact (List.getElem_inj nd).1 e
theorem brk_skip {m temp i : Nat} {frm frm' R : List Int} {r0 : Int} (h : Brk m temp i frm frm' R r0) (hn : at_ frm' (R.getD i 0) ≠ r0) : Brk m temp (i + 1) frm frm' R r0 := by
  refine ⟨h.len, fun j h1 h2 => h.was j (by omega) h2, fun j h1 h2 => ?_⟩
  by_cases e : j = i
  · subst e
    have := h.was j (Nat.le_refl _) h2
    rw [this] at hn ⊢
    rw [if_neg hn]
  · exact h.now j (by omega) h2
theorem brk_set {m temp i : Nat} {frm frm' R : List Int} {r0 : Int} (h : Brk m temp i frm frm' R r0) (nd : R.Nodup) (hpin : ∀ r ∈ R, 0 ≤ r ∧ r < m) (hi : i < R.length) (hn : at_ frm' (R.getD i 0) = r0) : Brk m temp (i + 1) frm (frm'.set (R.getD i 0).toNat (temp : Int)) R r0 := by
  have hp : ∀ j, j < R.length → 0 ≤ R.getD j 0 ∧ R.getD j 0 < m := fun j hj => hpin _ (by simp [List.getD, hj])
  have hs : ∀ j, j < R.length → at_ (frm'.set (R.getD i 0).toNat (temp : Int)) (R.getD j 0) = if R.getD j 0 = R.getD i 0 then (temp : Int) else at_ frm' (R.getD j 0) := fun j hj => at_set _ _ _ _ (hp i hi).1 (by rw [h.len]; exact (hp i hi).2) (hp j hj).1
  refine ⟨by simp [h.len], fun j h1 h2 => ?_, fun j h1 h2 => ?_⟩
  · rw [hs j h2, if_neg (fun e => by have := getD_nd nd h2 hi e; omega)]
    exact h.was j (by omega) h2
  · rw [hs j h2]
    by_cases e : j = i
    · subst e
      rw [if_pos rfl]
      have := h.was j (Nat.le_refl _) h2
      rw [this] at hn
      rw [if_pos hn]
    · rw [if_neg (fun e' => e (getD_nd nd h2 hi e'))]
      exact h.now j (by omega) h2
theorem brk_end {m temp i : Nat} {frm frm' R : List Int} {r0 : Int} (h : Brk m temp i frm frm' R r0) (hi : R.length ≤ i) : ∀ x ∈ R, at_ frm' x = if at_ frm x = r0 then (temp : Int) else at_ frm x := by
  intro x hx
  obtain ⟨j, hj, rfl⟩ := List.getElem_of_mem hx
  have := h.now j (by omega) hj
  simpa [List.getD, hj] using this
end Go.Proofs.Ybulkbwdq
