/-
  LawS3625AOrder, walked.
-/
import Derived.Test.YbulkbwayBuild
namespace Go.Proofs.Ybulkbway
open Go.RowKit
set_option linter.unusedVariables false

/-- A domain that the call has just made. -/
theorem dom_new {w : World} {g c : Nat} {ns : List ByteArray} (C : Array Value) (hN : NodesAt w g ns ⟨#[104, 58, 49]⟩) (ln : ns.length ≤ 1024) (hC : C[2]? = some (.slice (some ⟨g, 0, none⟩) ns.length c)) :
    DomAt (w.alloc (.cells C 42)) w.heap.size g c ns ⟨#[104, 58, 49]⟩ :=
  ⟨by simp, ln, by rw [World.cell?_alloc_at (hn := rfl)]; exact hC, hN.below ((Below.refl _ w).alloc (Nat.le_refl _) _) hN.1⟩
/-- A view that the call has just made. -/
theorem view_new {w : World} {g c : Nat} {ms : List (ByteArray × Int)} {f : Int} (C : Array Value) (hM : MemsAt w g ms) (l0 : 0 < ms.length) (l1 : ms.length ≤ 1024) (hC0 : C[0]? = some (.int .i64 f)) (hC : C[2]? = some (.slice (some ⟨g, 0, none⟩) ms.length c)) :
    ViewAt (w.alloc (.cells C 44)) w.heap.size g ms.length c f (ms.getD 0 (ghost, 0)).1 (ms.getD 0 (ghost, 0)).2 := by
  have hM2 := hM.below ((Below.refl _ w).alloc (Nat.le_refl _) (.cells C 44)) hM.1
  have h0 := hM2.2 0 l0
  refine ⟨by simp, by have := hM.1; simp; omega, l0, by omega, by rw [World.cell?_alloc_at (hn := rfl)]; exact hC0, by rw [World.cell?_alloc_at (hn := rfl)]; exact hC, ?_, ?_⟩
  · simpa using h0.1
  · simpa using h0.2

theorem sameM_refl (a : ByteArray) (i : Int) : sameM a a i i = true := by simp [sameM]
theorem sameM_symm (a b : ByteArray) (i j : Int) : sameM a b i j = sameM b a j i := by
  unfold sameM; rw [Bool.eq_iff_iff]; simp; exact ⟨fun h => ⟨h.1.symm, h.2.symm⟩, fun h => ⟨h.1.symm, h.2.symm⟩⟩
theorem beatsP_self (ns : List ByteArray) (na : Nat) (fa : Int) (ma : ByteArray) (ia : Int) : beatsP ns na na fa fa ma ma ia ia = false := by simp [beatsP, sameM_refl]
theorem beatsP_anti (ns : List ByteArray) (na nb : Nat) (fa fb : Int) (ma mb : ByteArray) (ia ib : Int) (h : beatsP ns na nb fa fb ma mb ia ib = true) : beatsP ns nb na fb fa mb ma ib ia = false := by
  unfold beatsP at h ⊢
  rw [sameM_symm mb ma]
  by_cases h0 : sameM ma mb ia ib = true
  · rw [if_pos h0]
  rw [if_neg h0] at h ⊢
  by_cases h1 : na ≠ nb
  · rw [if_pos h1] at h; rw [if_pos (Ne.symm h1)]; simp at h ⊢; omega
  rw [if_neg h1] at h; rw [if_neg (fun h => h1 (Ne.symm h))]
  by_cases h2 : fa ≠ fb
  · rw [if_pos h2] at h; rw [if_pos (Ne.symm h2)]; simp at h ⊢; omega
  rw [if_neg h2] at h; rw [if_neg (fun h => h2 (Ne.symm h))]
  by_cases h3 : pos ns ma ≠ pos ns mb
  · rw [if_pos h3] at h; rw [if_pos (Ne.symm h3)]; simp at h ⊢; omega
  rw [if_neg h3] at h; rw [if_neg (fun h => h3 (Ne.symm h))]
  simp at h ⊢; omega

/-- What is known once the domain and both views are there. -/
structure AllAt (w : World) (d dn dc va ga na ca vb gb nb cb : Nat) (ns : List ByteArray) (ad : ByteArray) (fa fb : Int) (ma mb : ByteArray) (ia ib : Int) : Prop where
  D : DomAt w d dn dc ns ad
  A : ViewAt w va ga na ca fa ma ia
  B : ViewAt w vb gb nb cb fb mb ib
theorem AllAt.on {w w' : World} {d dn dc va ga na ca vb gb nb cb : Nat} {ns : List ByteArray} {ad : ByteArray} {fa fb : Int} {ma mb : ByteArray} {ia ib : Int} (h : AllAt w d dn dc va ga na ca vb gb nb cb ns ad fa fb ma mb ia ib) (hb : Below w.heap.size w w') :
    AllAt w' d dn dc va ga na ca vb gb nb cb ns ad fa fb ma mb ia ib := ⟨h.D.on hb, h.A.on hb, h.B.on hb⟩

theorem beats_ab {w : World} {d dn dc va ga na ca vb gb nb cb : Nat} {ns : List ByteArray} {ad : ByteArray} {fa fb : Int} {ma mb : ByteArray} {ia ib : Int} (h : AllAt w d dn dc va ga na ca vb gb nb cb ns ad fa fb ma mb ia ib) {r : Bool} (hr : beatsP ns na nb fa fb ma mb ia ib = r) :
    Calls Yba.prog 7 #[.pointer (some ⟨d, 0, none⟩), .pointer (some ⟨va, 0, none⟩), .pointer (some ⟨vb, 0, none⟩)] w fun e w' => e = .returned (.bool r) ∧ Below w.heap.size w w' := by
  rw [← hr]; exact beats_any d va ga na ca vb gb nb cb fa fb ma mb ia ib w h.A h.B dn dc ns ad h.D
theorem beats_ba {w : World} {d dn dc va ga na ca vb gb nb cb : Nat} {ns : List ByteArray} {ad : ByteArray} {fa fb : Int} {ma mb : ByteArray} {ia ib : Int} (h : AllAt w d dn dc va ga na ca vb gb nb cb ns ad fa fb ma mb ia ib) {r : Bool} (hr : beatsP ns nb na fb fa mb ma ib ia = r) :
    Calls Yba.prog 7 #[.pointer (some ⟨d, 0, none⟩), .pointer (some ⟨vb, 0, none⟩), .pointer (some ⟨va, 0, none⟩)] w fun e w' => e = .returned (.bool r) ∧ Below w.heap.size w w' :=
  beats_ab ⟨h.D, h.B, h.A⟩ hr
theorem beats_aa {w : World} {d dn dc va ga na ca vb gb nb cb : Nat} {ns : List ByteArray} {ad : ByteArray} {fa fb : Int} {ma mb : ByteArray} {ia ib : Int} (h : AllAt w d dn dc va ga na ca vb gb nb cb ns ad fa fb ma mb ia ib) :
    Calls Yba.prog 7 #[.pointer (some ⟨d, 0, none⟩), .pointer (some ⟨va, 0, none⟩), .pointer (some ⟨va, 0, none⟩)] w fun e w' => e = .returned (.bool false) ∧ Below w.heap.size w w' :=
  beats_ab ⟨h.D, h.A, h.A⟩ (beatsP_self _ _ _ _ _)
theorem beats_bb {w : World} {d dn dc va ga na ca vb gb nb cb : Nat} {ns : List ByteArray} {ad : ByteArray} {fa fb : Int} {ma mb : ByteArray} {ia ib : Int} (h : AllAt w d dn dc va ga na ca vb gb nb cb ns ad fa fb ma mb ia ib) :
    Calls Yba.prog 7 #[.pointer (some ⟨d, 0, none⟩), .pointer (some ⟨vb, 0, none⟩), .pointer (some ⟨vb, 0, none⟩)] w fun e w' => e = .returned (.bool false) ∧ Below w.heap.size w w' :=
  beats_ab ⟨h.D, h.B, h.B⟩ (beatsP_self _ _ _ _ _)

/-- zzs3625abuild, its block behind a letter. -/
theorem build_of (an ap ai : Option Addr) (cn cp ci : Nat) (ns : List ByteArray) (ps is : List Int) (w : World) (hN : StrsAt w an ns) (hP : IntsAt .u8 w ap ps) (hI : IntsAt .u64 w ai is)
    (ln : ns.length ≤ 1024) (lp : ps.length ≤ 1024) (li : is.length ≤ 1024) (hp : ∀ j, 0 ≤ ps.getD j 0 ∧ ps.getD j 0 ≤ 255) :
    ∃ ms : List (ByteArray × Int), ms = buildP ns ps is ∧ 0 < ms.length ∧ ms.length ≤ 1024 ∧ ∀ W, Below w.heap.size w W → Calls Yba.prog 5 #[.slice an ns.length cn, .slice ap ps.length cp, .slice ai is.length ci] W fun e w' =>
      ∃ g c, e = .returned (.slice (some ⟨g, 0, none⟩) ms.length c) ∧ MemsAt w' g ms ∧ Below W.heap.size W w' := by
  refine ⟨_, rfl, buildP_pos ns ps is, buildP_le ns ps is lp, fun W hW => ?_⟩
  refine (build_any an ap ai cn cp ci ns ps is W (hN.on hW) (hP.on hW) (hI.on hW) ln lp li hp).mono ?_
  rintro e w' ⟨c, rfl, ho, hb⟩
  exact ⟨_, c, rfl, memsAt_of ho, hb⟩
theorem nodes_of (an : Option Addr) (cn : Nat) (ns : List ByteArray) (w : World) (hN : StrsAt w an ns) (ln : ns.length ≤ 1024) :
    ∀ W, Below w.heap.size w W → Calls Yba.prog 6 #[.slice an ns.length cn] W fun e w' => ∃ g c, e = .returned (.slice (some ⟨g, 0, none⟩) ns.length c) ∧ NodesAt w' g ns ⟨#[104, 58, 49]⟩ ∧ Below W.heap.size W w' := fun W hW => by
  refine (nodes_any an cn ns W (hN.on hW) ln).mono ?_
  rintro e w' ⟨rfl, ho, hb⟩
  exact ⟨_, _, rfl, nodesAt_of ho, hb⟩
theorem B1 {w w1 : World} (h : Below w.heap.size w w1) (o : Obj) : Below w.heap.size w (w1.alloc o) := h.alloc h.size o
theorem A1 (w : World) (o : Obj) : Below w.heap.size w (w.alloc o) := (Below.refl _ w).alloc (Nat.le_refl _) o

set_option maxRecDepth 100000 in
set_option maxHeartbeats 2000000 in
theorem order_in (an ap ai bp bi : Option Addr) (cn cap cai cbp cbi : Nat) (ns : List ByteArray) (ps is qs js : List Int) (fa fb : Int) (w : World) (hN : StrsAt w an ns) (hP : IntsAt .u8 w ap ps) (hI : IntsAt .u64 w ai is) (hQ : IntsAt .u8 w bp qs) (hJ : IntsAt .u64 w bi js)
    (ln : ns.length ≤ 1024) (lp : ps.length ≤ 1024) (li : is.length ≤ 1024) (lq : qs.length ≤ 1024) (lj : js.length ≤ 1024) (hp : ∀ j, 0 ≤ ps.getD j 0 ∧ ps.getD j 0 ≤ 255) (hq : ∀ j, 0 ≤ qs.getD j 0 ∧ qs.getD j 0 ≤ 255) :
    Calls Yba.prog 4 #[.slice an ns.length cn, .slice ap ps.length cap, .slice ai is.length cai, .int .i64 fa, .slice bp qs.length cbp, .slice bi js.length cbi, .int .i64 fb] w fun e w' => e = .returned (.bool true) ∧ Below w.heap.size w w' := by
  have cN := nodes_of an cn ns w hN ln
  obtain ⟨ms, hms, ms0, ms1, cA⟩ := build_of an ap ai cn cap cai ns ps is w hN hP hI ln lp li hp
  obtain ⟨mt, hmt, mt0, mt1, cB⟩ := build_of an bp bi cn cbp cbi ns qs js w hN hQ hJ ln lq lj hq
  clear hN hP hI hQ hJ hp hq hms hmt
  go_enter Yba.func4, Yba.ntmps4
  go_wp2_with fail
  refine (cN _ (Below.refl _ _)).mono ?_
  rintro e w1 ⟨g1, c1, rfl, N1, b1⟩
  clear cN
  go_wp2_with fail
  refine (cA _ (B1 b1 _)).mono ?_
  rintro e w2 ⟨g2, c2, rfl, M2, b2⟩
  have D2 := (dom_new _ N1 ln rfl).on b2
  have b2' := goOn (B1 b1 _) b2
  clear N1 b2 b1 cA
  go_wp2_with fail
  refine (cB _ (B1 b2' _)).mono ?_
  rintro e w3 ⟨g3, c3, rfl, M3, b3⟩
  have V3 := (view_new _ M2 ms0 ms1 rfl rfl).on b3
  have D3 := (D2.on (A1 w2 _)).on b3
  have b3' := goOn (B1 b2' _) b3
  clear M2 D2 b3 b2' cB
  generalize (ms.getD 0 (ghost, 0)).1 = ma at V3
  generalize (ms.getD 0 (ghost, 0)).2 = ia at V3
  have V4 := fun C h0 h2 => view_new (f := fb) (c := c3) C M3 mt0 mt1 h0 h2
  generalize (mt.getD 0 (ghost, 0)).1 = mb at V4
  generalize (mt.getD 0 (ghost, 0)).2 = ib at V4
  have S4 := fun C h0 h2 => (⟨D3.on (A1 w3 _), V3.on (A1 w3 _), V4 C h0 h2⟩ : AllAt (w3.alloc (.cells C 44)) w1.heap.size g1 c1 w2.heap.size g2 ms.length c2 w3.heap.size g3 mt.length c3 ns ⟨#[104, 58, 49]⟩ fa fb ma mb ia ib)
  have c4 : ∀ o, Below w.heap.size w (w3.alloc o) := fun o => B1 b3' o
  clear V4 V3 D3 b3' M3
  cases hx : beatsP ns ms.length mt.length fa fb ma mb ia ib with
  | true =>
    have hy := beatsP_anti _ _ _ _ _ _ _ _ _ hx
    go_wp2_with fail
    have S5 := S4 #[.int .i64 fb, .int .u64 0, .slice (some ⟨g3, 0, none⟩) mt.length c3] rfl rfl
    have c5 := c4 (.cells #[.int .i64 fb, .int .u64 0, .slice (some ⟨g3, 0, none⟩) mt.length c3] 44)
    clear S4 c4
    refine (beats_ab S5 hx).mono ?_
    rintro e w6 ⟨rfl, b6⟩
    have S6 := S5.on b6
    have c6 := goOn c5 b6
    clear S5 c5 b6
    go_wp2_with fail
    refine (beats_ba S6 hy).mono ?_
    rintro e w7 ⟨rfl, b7⟩
    have S7 := S6.on b7
    have c7 := goOn c6 b7
    clear S6 c6 b7
    go_wp2_with fail
    refine (beats_aa S7).mono ?_
    rintro e w8 ⟨rfl, b8⟩
    have S8 := S7.on b8
    have c8 := goOn c7 b8
    clear S7 c7 b8
    go_wp2_with fail
    refine (beats_bb S8).mono ?_
    rintro e w9 ⟨rfl, b9⟩
    have S9 := S8.on b9
    have c9 := goOn c8 b9
    clear S8 c8 b9
    go_wp2_with fail
    refine (beats_nil _ _ _).mono ?_
    rintro e w10 ⟨rfl, b10⟩
    have S10 := S9.on b10
    have c10 := goOn c9 b10
    clear S9 c9 b10
    go_wp2_with fail
    refine (beats_nil _ _ _).mono ?_
    rintro e w11 ⟨rfl, b11⟩
    have S11 := S10.on b11
    have c11 := goOn c10 b11
    clear S10 c10 b11
    clear S11
    go_wp2
    go_ret
    exact ⟨rfl, c11⟩
  | false =>
    go_wp2_with fail
    have S5 := S4 #[.int .i64 fb, .int .u64 0, .slice (some ⟨g3, 0, none⟩) mt.length c3] rfl rfl
    have c5 := c4 (.cells #[.int .i64 fb, .int .u64 0, .slice (some ⟨g3, 0, none⟩) mt.length c3] 44)
    clear S4 c4
    refine (beats_ab S5 hx).mono ?_
    rintro e w6 ⟨rfl, b6⟩
    have S6 := S5.on b6
    have c6 := goOn c5 b6
    clear S5 c5 b6
    go_wp2_with fail
    refine (beats_aa S6).mono ?_
    rintro e w7 ⟨rfl, b7⟩
    have S7 := S6.on b7
    have c7 := goOn c6 b7
    clear S6 c6 b7
    go_wp2_with fail
    refine (beats_bb S7).mono ?_
    rintro e w8 ⟨rfl, b8⟩
    have S8 := S7.on b8
    have c8 := goOn c7 b8
    clear S7 c7 b8
    go_wp2_with fail
    refine (beats_nil _ _ _).mono ?_
    rintro e w9 ⟨rfl, b9⟩
    have S9 := S8.on b9
    have c9 := goOn c8 b9
    clear S8 c8 b9
    go_wp2_with fail
    refine (beats_nil _ _ _).mono ?_
    rintro e w10 ⟨rfl, b10⟩
    have S10 := S9.on b10
    have c10 := goOn c9 b10
    clear S9 c9 b10
    clear S10
    go_wp2
    go_ret
    exact ⟨rfl, c10⟩

set_option maxRecDepth 100000 in
set_option maxHeartbeats 1000000 in
/-- Too long an input: true at once. -/
theorem order_out (an ap ai bp bi : Option Addr) (cn cap cai cbp cbi n1 n2 n3 n4 n5 : Nat) (fa fb : Int) (w : World) (h : 1024 < n1 ∨ 1024 < n2 ∨ 1024 < n3 ∨ 1024 < n4 ∨ 1024 < n5) :
    Calls Yba.prog 4 #[.slice an n1 cn, .slice ap n2 cap, .slice ai n3 cai, .int .i64 fa, .slice bp n4 cbp, .slice bi n5 cbi, .int .i64 fb] w fun e w' => e = .returned (.bool true) ∧ Below w.heap.size w w' := by
  by_cases h1 : 1024 < n1
  · go_enter Yba.func4, Yba.ntmps4
    go_wp2
    go_ret
    exact ⟨rfl, Below.refl _ _⟩
  by_cases h2 : 1024 < n2
  · go_enter Yba.func4, Yba.ntmps4
    go_wp2
    go_ret
    exact ⟨rfl, Below.refl _ _⟩
  by_cases h3 : 1024 < n3
  · go_enter Yba.func4, Yba.ntmps4
    go_wp2
    go_ret
    exact ⟨rfl, Below.refl _ _⟩
  by_cases h4 : 1024 < n4
  · go_enter Yba.func4, Yba.ntmps4
    go_wp2
    go_ret
    exact ⟨rfl, Below.refl _ _⟩
  have h5 : 1024 < n5 := by omega
  go_enter Yba.func4, Yba.ntmps4
  go_wp2
  go_ret
  exact ⟨rfl, Below.refl _ _⟩

theorem order_any (an ap ai bp bi : Option Addr) (cn cap cai cbp cbi : Nat) (ns : List ByteArray) (ps is qs js : List Int) (fa fb : Int) (w : World) (hN : StrsAt w an ns) (hP : IntsAt .u8 w ap ps) (hI : IntsAt .u64 w ai is) (hQ : IntsAt .u8 w bp qs) (hJ : IntsAt .u64 w bi js)
    (hp : ∀ j, 0 ≤ ps.getD j 0 ∧ ps.getD j 0 ≤ 255) (hq : ∀ j, 0 ≤ qs.getD j 0 ∧ qs.getD j 0 ≤ 255) :
    Calls Yba.prog 4 #[.slice an ns.length cn, .slice ap ps.length cap, .slice ai is.length cai, .int .i64 fa, .slice bp qs.length cbp, .slice bi js.length cbi, .int .i64 fb] w fun e w' => e = .returned (.bool true) ∧ Below w.heap.size w w' := by
  by_cases h : 1024 < ns.length ∨ 1024 < ps.length ∨ 1024 < is.length ∨ 1024 < qs.length ∨ 1024 < js.length
  · exact order_out an ap ai bp bi cn cap cai cbp cbi _ _ _ _ _ fa fb w h
  · exact order_in an ap ai bp bi cn cap cai cbp cbi ns ps is qs js fa fb w hN hP hI hQ hJ (by omega) (by omega) (by omega) (by omega) (by omega) hp hq
end Go.Proofs.Ybulkbway
