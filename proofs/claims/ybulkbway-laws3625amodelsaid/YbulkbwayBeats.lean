/-
  (*domain).beats, walked.
-/
import Derived.Test.YbulkbwayLeaf
namespace Go.Proofs.Ybulkbway
open Go.RowKit

/-- What is known of a view in memory: its block va (Formed, Version, Members), its members' block ga, its first member. -/
structure ViewAt (w : World) (va ga na ca : Nat) (f : Int) (nm : ByteArray) (inc : Int) : Prop where
  hv : va < w.heap.size
  hg : ga < w.heap.size
  hn : 0 < na
  hs : na ≤ 4096
  c0 : w.cell? ⟨va, 0, none⟩ = some (.int .i64 f)
  c2 : w.cell? ⟨va, 2, none⟩ = some (.slice (some ⟨ga, 0, none⟩) na ca)
  m0 : w.cell? ⟨ga, 0, none⟩ = some (.string nm)
  m1 : w.cell? ⟨ga, 1, none⟩ = some (.int .u64 inc)
theorem ViewAt.below {w w' : World} {B va ga na ca : Nat} {f : Int} {nm : ByteArray} {inc : Int} (h : ViewAt w va ga na ca f nm inc) (hb : Below B w w') (hva : va < B) (hga : ga < B) : ViewAt w' va ga na ca f nm inc :=
  ⟨Nat.lt_of_lt_of_le h.hv hb.size, Nat.lt_of_lt_of_le h.hg hb.size, h.hn, h.hs, (hb.cell (p := ⟨va, 0, none⟩) hva).trans h.c0, (hb.cell (p := ⟨va, 2, none⟩) hva).trans h.c2,
    (hb.cell (p := ⟨ga, 0, none⟩) hga).trans h.m0, (hb.cell (p := ⟨ga, 1, none⟩) hga).trans h.m1⟩
theorem ViewAt.on {w w' : World} {va ga na ca : Nat} {f : Int} {nm : ByteArray} {inc : Int} (h : ViewAt w va ga na ca f nm inc) (hb : Below w.heap.size w w') : ViewAt w' va ga na ca f nm inc := h.below hb h.hv h.hg

theorem leader_of {w : World} {va ga na ca : Nat} {f : Int} {nm : ByteArray} {inc : Int} (h : ViewAt w va ga na ca f nm inc) :
    Calls Yba.prog 11 #[.pointer (some ⟨va, 0, none⟩)] w fun e w' => e = .returned (.agg #[.string nm, .int .u64 inc]) ∧ Below w.heap.size w w' :=
  leader_any va ga na ca nm inc w h.hv h.hg h.hn h.c2 h.m0 h.m1

/-- What is known of the domain in memory: its block d, its nodes' block b. -/
structure DomAt (w : World) (d b c : Nat) (ns : List ByteArray) (ad : ByteArray) : Prop where
  hd : d < w.heap.size
  hs : ns.length ≤ 1024
  cd : w.cell? ⟨d, 2, none⟩ = some (.slice (some ⟨b, 0, none⟩) ns.length c)
  at_ : NodesAt w b ns ad
theorem DomAt.below {w w' : World} {B d b c : Nat} {ns : List ByteArray} {ad : ByteArray} (h : DomAt w d b c ns ad) (hb : Below B w w') (hd : d < B) (hB : b < B) : DomAt w' d b c ns ad :=
  ⟨Nat.lt_of_lt_of_le h.hd hb.size, h.hs, (hb.cell (p := ⟨d, 2, none⟩) hd).trans h.cd, h.at_.below hb hB⟩
theorem DomAt.on {w w' : World} {d b c : Nat} {ns : List ByteArray} {ad : ByteArray} (h : DomAt w d b c ns ad) (hb : Below w.heap.size w w') : DomAt w' d b c ns ad := h.below hb h.hd h.at_.1
theorem position_of {w : World} {d b c : Nat} {ns : List ByteArray} {ad : ByteArray} (nm : ByteArray) (h : DomAt w d b c ns ad) :
    Calls Yba.prog 12 #[.pointer (some ⟨d, 0, none⟩), .string nm] w fun e w' => e = .returned (.int .i64 (pos ns nm)) ∧ Below w.heap.size w w' :=
  position_any d b c ns ad nm w h.hd h.hs h.cd h.at_

/-- '==' at a member. -/
def sameM (a b : ByteArray) (i j : Int) : Bool := a.toList == b.toList && i == j
theorem eql_member (a b : ByteArray) (i j : Int) (w : World) : Sem.run Yba.prog (binOp .eql 32 (.agg #[.string a, .int .u64 i]) (.agg #[.string b, .int .u64 j])) w = .ok (.bool (sameM a b i j)) w := by
  have u9 := Yba.underlying9
  have a9 := Yba.isAgg9
  have z9 := Yba.sizeOf9
  have u30 := Yba.underlying30
  have a30 := Yba.isAgg30
  have z30 := Yba.sizeOf30
  have hS : Yba.prog.underlying 32 = some (.struct (Yba.prog.fieldsOf 32)) := by kernel_rfl
  have hp : Yba.prog.stoodInHeld 32 = false := by kernel_rfl
  rw [run_eql_struct, show (10000 : Nat) = 9999 + 1 from rfl, run_equalIn_agg w 9999 32 _ _ hS hp]
  simp only [Program.fieldsOf, Yba.underlying32]
  unfold sameM
  go_simp
  by_cases h1 : a.toList = b.toList <;> by_cases h2 : i = j <;> simp [h1, h2]
theorem guard_member (x y : Operand) (a b : ByteArray) (i j : Int) (w : World) : Sem.run Yba.prog (eqGuard .eql 32 x y (.agg #[.string a, .int .u64 i]) (.agg #[.string b, .int .u64 j])) w = .ok () w :=
  run_eqGuard_agg w _ _ _ _ _ _ (by kernel_rfl)

theorem field0 (a : ByteArray) (i : Int) (w : World) : Sem.run Yba.prog (Instr.field 32 (.agg #[.string a, .int .u64 i]) 0) w = .ok (.string a) w := by kernel_rfl
theorem field1 (a : ByteArray) (i : Int) (w : World) : Sem.run Yba.prog (Instr.field 32 (.agg #[.string a, .int .u64 i]) 1) w = .ok (.int .u64 i) w := by kernel_rfl

/-- THE PLAIN FUNCTION: what beats answers for two views that are there. -/
def beatsP (ns : List ByteArray) (na nb : Nat) (fa fb : Int) (ma mb : ByteArray) (ia ib : Int) : Bool :=
  if sameM ma mb ia ib = true then false
  else if na ≠ nb then decide (nb < na)
  else if fa ≠ fb then decide (fa < fb)
  else if pos ns ma ≠ pos ns mb then decide (pos ns ma < pos ns mb)
  else decide (ia < ib)

/-- nil loses. -/
theorem beats_nil (d va : Nat) (w : World) :
    Calls Yba.prog 7 #[.pointer (some ⟨d, 0, none⟩), .pointer (some ⟨va, 0, none⟩), .pointer none] w fun e w' => e = .returned (.bool true) ∧ Below w.heap.size w w' := by
  go_enter Yba.func7, Yba.ntmps7
  go_wp2
  go_ret
  exact ⟨rfl, Below.refl _ _⟩

set_option maxHeartbeats 400000 in
/-- The same leader. -/
theorem beats_same (d va ga na ca vb gb nb cb : Nat) (fa fb : Int) (ma mb : ByteArray) (ia ib : Int) (w : World) (A : ViewAt w va ga na ca fa ma ia) (B : ViewAt w vb gb nb cb fb mb ib) (hs : sameM ma mb ia ib = true) :
    Calls Yba.prog 7 #[.pointer (some ⟨d, 0, none⟩), .pointer (some ⟨va, 0, none⟩), .pointer (some ⟨vb, 0, none⟩)] w fun e w' => e = .returned (.bool false) ∧ Below w.heap.size w w' := by
  have he := eql_member ma mb ia ib
  rw [hs] at he
  have hgd := guard_member (.tmp 14) (.tmp 16) ma mb ia ib
  go_enter Yba.func7, Yba.ntmps7
  go_wp2_with fail
  refine (leader_of A).mono ?_
  rintro e w1 ⟨rfl, hb1⟩
  go_wp2_with fail
  refine (leader_of (B.on hb1)).mono ?_
  rintro e w2 ⟨rfl, hb2⟩
  go_wp2
  go_ret
  exact ⟨rfl, hb1.trans (hb2.mono hb1.size)⟩

theorem goOn {w a b : World} (h : Below w.heap.size w a) (k : Below a.heap.size a b) : Below w.heap.size w b := h.trans (k.mono h.size)
theorem goOn2 {w b : World} {n : Nat} (k : Below (w.drewN n).heap.size (w.drewN n) b) : Below w.heap.size w b := goOn (below_drewN (Below.refl _ w) _) k

set_option maxRecDepth 100000 in
set_option maxHeartbeats 1000000 in
/-- Another leader, another number of members. -/
theorem beats_len (d va ga na ca vb gb nb cb : Nat) (fa fb : Int) (ma mb : ByteArray) (ia ib : Int) (w : World) (A : ViewAt w va ga na ca fa ma ia) (B : ViewAt w vb gb nb cb fb mb ib) (hs : sameM ma mb ia ib = false) (hne : na ≠ nb) :
    Calls Yba.prog 7 #[.pointer (some ⟨d, 0, none⟩), .pointer (some ⟨va, 0, none⟩), .pointer (some ⟨vb, 0, none⟩)] w fun e w' => e = .returned (.bool (decide (nb < na))) ∧ Below w.heap.size w w' := by
  have he := eql_member ma mb ia ib
  rw [hs] at he
  have hgd := guard_member (.tmp 14) (.tmp 16) ma mb ia ib
  have h1 := A.hs
  have h2 := B.hs
  have hne' : ((na : Int) != (nb : Int)) = true := by simp; omega
  go_enter Yba.func7, Yba.ntmps7
  go_wp2_with fail
  refine (leader_of A).mono ?_
  rintro e w1 ⟨rfl, hb1⟩
  go_wp2_with fail
  refine (leader_of (B.on hb1)).mono ?_
  rintro e w2 ⟨rfl, hb2⟩
  have hb := hb1.trans (hb2.mono hb1.size)
  have A2 := A.on hb
  have B2 := B.on hb
  have a2 := A2.c2
  have b2 := B2.c2
  clear A2 B2 A B hb1 hb2
  go_wp2
  go_quiet (fail)
  go_wp2
  go_quiet (fail)
  go_wp2
  go_ret
  exact ⟨rfl, below_drewN (below_drewN hb _) _⟩

set_option maxRecDepth 100000 in
set_option maxHeartbeats 1000000 in
/-- The same number of members, formed at another time. -/
theorem beats_formed (d va ga na ca vb gb nb cb : Nat) (fa fb : Int) (ma mb : ByteArray) (ia ib : Int) (w : World) (A : ViewAt w va ga na ca fa ma ia) (B : ViewAt w vb gb nb cb fb mb ib) (hs : sameM ma mb ia ib = false) (hl : na = nb) (hne : fa ≠ fb) :
    Calls Yba.prog 7 #[.pointer (some ⟨d, 0, none⟩), .pointer (some ⟨va, 0, none⟩), .pointer (some ⟨vb, 0, none⟩)] w fun e w' => e = .returned (.bool (decide (fa < fb))) ∧ Below w.heap.size w w' := by
  have he := eql_member ma mb ia ib
  rw [hs] at he
  have hgd := guard_member (.tmp 14) (.tmp 16) ma mb ia ib
  have h1 := A.hs
  have h2 := B.hs
  have hne' : (fa != fb) = true := by simpa using hne
  subst hl
  have hl' : ((na : Int) != (na : Int)) = false := by simp
  go_enter Yba.func7, Yba.ntmps7
  go_wp2_with fail
  refine (leader_of A).mono ?_
  rintro e w1 ⟨rfl, hb1⟩
  go_wp2_with fail
  refine (leader_of (B.on hb1)).mono ?_
  rintro e w2 ⟨rfl, hb2⟩
  have hb := hb1.trans (hb2.mono hb1.size)
  have A2 := A.on hb
  have B2 := B.on hb
  have a2 := A2.c2
  have b2 := B2.c2
  have a0 := A2.c0
  have b0 := B2.c0
  clear A2 B2 A B hb1 hb2
  go_wp2
  go_quiet (fail)
  go_wp2
  go_quiet (fail)
  go_wp2
  go_quiet (fail)
  go_wp2
  go_ret
  exact ⟨rfl, below_drewN (below_drewN (below_drewN hb _) _) _⟩

set_option maxRecDepth 100000 in
set_option maxHeartbeats 1000000 in
/-- Formed at the same time, leaders at other places. -/
theorem beats_pos (d va ga na ca vb gb nb cb : Nat) (fa fb : Int) (ma mb : ByteArray) (ia ib : Int) (w : World) (A : ViewAt w va ga na ca fa ma ia) (B : ViewAt w vb gb nb cb fb mb ib) (hs : sameM ma mb ia ib = false) (hl : na = nb) (hf : fa = fb) (dn dc : Nat) (ns : List ByteArray) (ad : ByteArray) (D : DomAt w d dn dc ns ad) (hne : pos ns ma ≠ pos ns mb) :
    Calls Yba.prog 7 #[.pointer (some ⟨d, 0, none⟩), .pointer (some ⟨va, 0, none⟩), .pointer (some ⟨vb, 0, none⟩)] w fun e w' => e = .returned (.bool (decide (pos ns ma < pos ns mb))) ∧ Below w.heap.size w w' := by
  have he := eql_member ma mb ia ib
  rw [hs] at he
  have hgd := guard_member (.tmp 14) (.tmp 16) ma mb ia ib
  have h1 := A.hs
  have h2 := B.hs
  have hne' : (pos ns ma != pos ns mb) = true := by simpa using hne
  subst hl hf
  have hl' : ((na : Int) != (na : Int)) = false := by simp
  have hf' : (fa != fa) = false := by simp
  have f0a := field0 ma ia
  have f0b := field0 mb ib
  have PA : ∀ W, Below w.heap.size w W → Calls Yba.prog 12 #[.pointer (some ⟨d, 0, none⟩), .string ma] W fun e w' => e = .returned (.int .i64 (pos ns ma)) ∧ Below W.heap.size W w' := fun W hW => position_of ma (D.on hW)
  have PB : ∀ W, Below w.heap.size w W → Calls Yba.prog 12 #[.pointer (some ⟨d, 0, none⟩), .string mb] W fun e w' => e = .returned (.int .i64 (pos ns mb)) ∧ Below W.heap.size W w' := fun W hW => position_of mb (D.on hW)
  generalize pos ns ma = pa at hne' PA hne ⊢
  generalize pos ns mb = pb at hne' PB hne ⊢
  clear D
  go_enter Yba.func7, Yba.ntmps7
  go_wp2_with fail
  refine (leader_of A).mono ?_
  rintro e w1 ⟨rfl, hb1⟩
  go_wp2_with fail
  refine (leader_of (B.on hb1)).mono ?_
  rintro e w2 ⟨rfl, hb2⟩
  have hb := hb1.trans (hb2.mono hb1.size)
  have A2 := A.on hb
  have B2 := B.on hb
  have a2 := A2.c2
  have b2 := B2.c2
  have a0 := A2.c0
  have b0 := B2.c0
  clear A B hb1 hb2
  go_wp2
  go_quiet (fail)
  go_wp2
  go_quiet (fail)
  go_wp2_with fail
  refine (leader_of (A2.on (below_drewN (Below.refl _ w2) _))).mono ?_
  rintro e w3 ⟨rfl, hb3⟩
  have H3 := goOn2 hb3
  clear hb3
  go_wp2_with fail
  refine (PA w3 (goOn hb H3)).mono ?_
  rintro e w4 ⟨rfl, hb4⟩
  have H4 := goOn H3 hb4
  clear H3 hb4
  go_wp2_with fail
  refine (leader_of (B2.on H4)).mono ?_
  rintro e w5 ⟨rfl, hb5⟩
  have H5 := goOn H4 hb5
  clear H4 hb5
  go_wp2_with fail
  refine (PB w5 (goOn hb H5)).mono ?_
  rintro e w6 ⟨rfl, hb6⟩
  have H6 := goOn H5 hb6
  clear H5 hb6 PA PB
  go_wp2
  go_ret
  exact ⟨rfl, goOn hb H6⟩

set_option maxRecDepth 100000 in
set_option maxHeartbeats 1000000 in
/-- Leaders at one place: the smaller Inc. -/
theorem beats_inc (d va ga na ca vb gb nb cb : Nat) (fa fb : Int) (ma mb : ByteArray) (ia ib : Int) (w : World) (A : ViewAt w va ga na ca fa ma ia) (B : ViewAt w vb gb nb cb fb mb ib) (hs : sameM ma mb ia ib = false) (hl : na = nb) (hf : fa = fb) (dn dc : Nat) (ns : List ByteArray) (ad : ByteArray) (D : DomAt w d dn dc ns ad) (he0 : pos ns ma = pos ns mb) :
    Calls Yba.prog 7 #[.pointer (some ⟨d, 0, none⟩), .pointer (some ⟨va, 0, none⟩), .pointer (some ⟨vb, 0, none⟩)] w fun e w' => e = .returned (.bool (decide (ia < ib))) ∧ Below w.heap.size w w' := by
  have he := eql_member ma mb ia ib
  rw [hs] at he
  have hgd := guard_member (.tmp 14) (.tmp 16) ma mb ia ib
  have h1 := A.hs
  have h2 := B.hs
  subst hl hf
  have hl' : ((na : Int) != (na : Int)) = false := by simp
  have hf' : (fa != fa) = false := by simp
  have f0a := field0 ma ia
  have f0b := field0 mb ib
  have f1a := field1 ma ia
  have f1b := field1 mb ib
  have PA : ∀ W, Below w.heap.size w W → Calls Yba.prog 12 #[.pointer (some ⟨d, 0, none⟩), .string ma] W fun e w' => e = .returned (.int .i64 (pos ns ma)) ∧ Below W.heap.size W w' := fun W hW => position_of ma (D.on hW)
  have PB : ∀ W, Below w.heap.size w W → Calls Yba.prog 12 #[.pointer (some ⟨d, 0, none⟩), .string mb] W fun e w' => e = .returned (.int .i64 (pos ns mb)) ∧ Below W.heap.size W w' := fun W hW => position_of mb (D.on hW)
  rw [← he0] at PB
  clear he0
  generalize pos ns ma = pa at PA PB ⊢
  have hp' : (pa != pa) = false := by simp
  clear D
  go_enter Yba.func7, Yba.ntmps7
  go_wp2_with fail
  refine (leader_of A).mono ?_
  rintro e w1 ⟨rfl, hb1⟩
  go_wp2_with fail
  refine (leader_of (B.on hb1)).mono ?_
  rintro e w2 ⟨rfl, hb2⟩
  have hb := hb1.trans (hb2.mono hb1.size)
  have A2 := A.on hb
  have B2 := B.on hb
  have a2 := A2.c2
  have b2 := B2.c2
  have a0 := A2.c0
  have b0 := B2.c0
  clear A B hb1 hb2
  go_wp2
  go_quiet (fail)
  go_wp2
  go_quiet (fail)
  go_wp2_with fail
  refine (leader_of (A2.on (below_drewN (Below.refl _ w2) _))).mono ?_
  rintro e w3 ⟨rfl, hb3⟩
  have H3 := goOn2 hb3
  clear hb3
  go_wp2_with fail
  refine (PA w3 (goOn hb H3)).mono ?_
  rintro e w4 ⟨rfl, hb4⟩
  have H4 := goOn H3 hb4
  clear H3 hb4
  go_wp2_with fail
  refine (leader_of (B2.on H4)).mono ?_
  rintro e w5 ⟨rfl, hb5⟩
  have H5 := goOn H4 hb5
  clear H4 hb5
  go_wp2_with fail
  refine (PB w5 (goOn hb H5)).mono ?_
  rintro e w6 ⟨rfl, hb6⟩
  have H6 := goOn H5 hb6
  clear H5 hb6 PA PB
  go_wp2_with fail
  refine (leader_of (A2.on H6)).mono ?_
  rintro e w7 ⟨rfl, hb7⟩
  have H7 := goOn H6 hb7
  clear H6 hb7
  go_wp2_with fail
  refine (leader_of (B2.on H7)).mono ?_
  rintro e w8 ⟨rfl, hb8⟩
  have H8 := goOn H7 hb8
  clear H7 hb8
  go_wp2
  go_ret
  exact ⟨rfl, goOn hb H8⟩

/-- (*domain).beats AT TWO VIEWS THAT ARE THERE: the plain function. -/
theorem beats_any (d va ga na ca vb gb nb cb : Nat) (fa fb : Int) (ma mb : ByteArray) (ia ib : Int) (w : World) (A : ViewAt w va ga na ca fa ma ia) (B : ViewAt w vb gb nb cb fb mb ib)
    (dn dc : Nat) (ns : List ByteArray) (ad : ByteArray) (D : DomAt w d dn dc ns ad) :
    Calls Yba.prog 7 #[.pointer (some ⟨d, 0, none⟩), .pointer (some ⟨va, 0, none⟩), .pointer (some ⟨vb, 0, none⟩)] w fun e w' => e = .returned (.bool (beatsP ns na nb fa fb ma mb ia ib)) ∧ Below w.heap.size w w' := by
  unfold beatsP
  cases hs : sameM ma mb ia ib with
  | true => simpa using beats_same d va ga na ca vb gb nb cb fa fb ma mb ia ib w A B hs
  | false =>
    rw [if_neg (by simp)]
    by_cases h1 : na ≠ nb
    · rw [if_pos h1]; exact beats_len d va ga na ca vb gb nb cb fa fb ma mb ia ib w A B hs h1
    · rw [if_neg h1]
      have h1' : na = nb := by omega
      by_cases h2 : fa ≠ fb
      · rw [if_pos h2]; exact beats_formed d va ga na ca vb gb nb cb fa fb ma mb ia ib w A B hs h1' h2
      · rw [if_neg h2]
        have h2' : fa = fb := by omega
        by_cases h3 : pos ns ma ≠ pos ns mb
        · rw [if_pos h3]; exact beats_pos d va ga na ca vb gb nb cb fa fb ma mb ia ib w A B hs h1' h2' dn dc ns ad D h3
        · rw [if_neg h3]
          exact beats_inc d va ga na ca vb gb nb cb fa fb ma mb ia ib w A B hs h1' h2' dn dc ns ad D (by omega)


end Go.Proofs.Ybulkbway
