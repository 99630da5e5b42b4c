/-
  LawS3625AModel, walked.
-/
import Derived.Test.YbulkbwayModelFn
import Derived.Deep.RegionHeld3
namespace Go.Proofs.Ybulkbway
open Go.RowKit
set_option linter.unusedVariables false

/-- What is known once the domain and the view a are there. -/
structure Whole (w0 w : World) (d dn dc va ga ca gb cb : Nat) (ns : List ByteArray) (ms mt : List (ByteArray × Int)) (fa : Int) : Prop where
  D : DomAt w d dn dc ns ⟨#[104, 58, 49]⟩
  VA : ViewAt w va ga ms.length ca fa (ms.getD 0 (ghost, 0)).1 (ms.getD 0 (ghost, 0)).2
  MA : MemsAt w ga ms
  MB : MemsAt w gb mt
  bel : Below w0.heap.size w0 w
theorem Whole.on {w0 w w' : World} {d dn dc va ga ca gb cb : Nat} {ns : List ByteArray} {ms mt : List (ByteArray × Int)} {fa : Int} (h : Whole w0 w d dn dc va ga ca gb cb ns ms mt fa) (hb : Below w.heap.size w w') : Whole w0 w' d dn dc va ga ca gb cb ns ms mt fa :=
  ⟨h.D.on hb, h.VA.on hb, h.MA.below hb h.MA.1, h.MB.below hb h.MB.1, goOn h.bel hb⟩
theorem whole_new {w0 w : World} {g1 g2 g3 c1 c2 c3 : Nat} {ns : List ByteArray} {ms mt : List (ByteArray × Int)} {fa : Int} (N : NodesAt w g3 ns ⟨#[104, 58, 49]⟩) (M1 : MemsAt w g1 ms) (M2 : MemsAt w g2 mt) (b : Below w0.heap.size w0 w) (ln : ns.length ≤ 1024) (l0 : 0 < ms.length) (l1 : ms.length ≤ 1024)
    (C D : Array Value) (hC : C[2]? = some (.slice (some ⟨g3, 0, none⟩) ns.length c3)) (hD0 : D[0]? = some (.int .i64 fa)) (hD : D[2]? = some (.slice (some ⟨g1, 0, none⟩) ms.length c1)) :
    Whole w0 ((w.alloc (.cells C 42)).alloc (.cells D 44)) w.heap.size g3 c3 (w.heap.size + 1) g1 c1 g2 c2 ns ms mt fa := by
  have x1 := A1 w (.cells C 42)
  have y1 := M1.below x1 M1.1
  have y2 := M2.below x1 M2.1
  have x2 := A1 (w.alloc (.cells C 42)) (.cells D 44)
  have v := view_new (c := c1) (f := fa) D y1 l0 l1 hD0 hD
  rw [show (w.alloc (.cells C 42)).heap.size = w.heap.size + 1 by simp] at v
  exact ⟨(dom_new C N ln hC).on x2, v, y1.below x2 y1.1, y2.below x2 y2.1, goOn (B1 b _) x2⟩
theorem view_third {w : World} {g2 c2 : Nat} {mt : List (ByteArray × Int)} {fb : Int} (o1 o2 : Obj) (M2 : MemsAt ((w.alloc o1).alloc o2) g2 mt) (l0 : 0 < mt.length) (l1 : mt.length ≤ 1024) (D : Array Value) (hD0 : D[0]? = some (.int .i64 fb)) (hD : D[2]? = some (.slice (some ⟨g2, 0, none⟩) mt.length c2)) :
    ViewAt (((w.alloc o1).alloc o2).alloc (.cells D 44)) (w.heap.size + 1 + 1) g2 mt.length c2 fb (mt.getD 0 (ghost, 0)).1 (mt.getD 0 (ghost, 0)).2 := by
  have v := view_new (c := c2) (f := fb) D M2 l0 l1 hD0 hD
  rwa [show ((w.alloc o1).alloc o2).heap.size = w.heap.size + 1 + 1 by simp] at v

set_option maxRecDepth 100000 in
set_option maxHeartbeats 2000000 in
theorem model_in (an ap ai bp bi : Option Addr) (cn cap cai cbp cbi : Nat) (ns : List ByteArray) (ps is qs js : List Int) (fa fb : Int) (w : World) (hN : StrsAt w an ns) (hP : IntsAt .u8 w ap ps) (hI : IntsAt .u64 w ai is) (hQ : IntsAt .u8 w bp qs) (hJ : IntsAt .u64 w bi js)
    (ln : ns.length ≤ 1024) (lp : ps.length ≤ 1024) (li : is.length ≤ 1024) (lq : qs.length ≤ 1024) (lj : js.length ≤ 1024) (hp : ∀ j, 0 ≤ ps.getD j 0 ∧ ps.getD j 0 ≤ 255) (hq : ∀ j, 0 ≤ qs.getD j 0 ∧ qs.getD j 0 ≤ 255) :
    Calls Yba.prog 3 #[.slice an ns.length cn, .slice ap ps.length cap, .slice ai is.length cai, .int .i64 fa, .slice bp qs.length cbp, .slice bi js.length cbi, .int .i64 fb, .bool false] w fun e w' => e = .returned (.bool true) ∧ Below w.heap.size w w' := by
  have cN := nodes_of an cn ns w hN ln
  obtain ⟨ms, hms, ms0, ms1, cA⟩ := build_of an ap ai cn cap cai ns ps is w hN hP hI ln lp li hp
  obtain ⟨mt, hmt, mt0, mt1, cB⟩ := build_of an bp bi cn cbp cbi ns qs js w hN hQ hJ ln lq lj hq
  clear hP hI hQ hJ hp hq hms hmt
  go_enter Yba.func3, Yba.ntmps3
  go_wp2_with fail
  refine (cA _ (Below.refl _ _)).mono ?_
  rintro e w1 ⟨g1, c1, rfl, M1, b1⟩
  go_wp2_with fail
  refine (cB _ b1).mono ?_
  rintro e w2 ⟨g2, c2, rfl, M2, b2⟩
  have M1' := M1.below b2 M1.1
  have b2' := goOn b1 b2
  clear M1 b1 b2
  go_wp2_with fail
  refine (cN _ b2').mono ?_
  rintro e w3 ⟨g3, c3, rfl, N3, b3⟩
  have M1 := M1'.below b3 M1'.1
  have M2' := M2.below b3 M2.1
  have b3' := goOn b2' b3
  clear M1' M2 b2' b3
  go_wp2_with fail
  have S0 := whole_new (c2 := c2) N3 M1 M2' b3' ln ms0 ms1 #[.string ⟨#[]⟩, .int .u64 0, .slice (some ⟨g3, 0, none⟩) ns.length c3, .pointer none, .pointer none, .map none, .string ⟨#[]⟩, .int .u64 0, .int .i64 0, .pointer none, .int .u64 0, .int .i64 0, .pointer none, .nilFunc, .nilFunc]
    #[.int .i64 fa, .int .u64 1, .slice (some ⟨g1, 0, none⟩) ms.length c1] rfl rfl rfl
  have V4 := view_third (fb := fb) (c2 := c2) _ _ S0.MB mt0 mt1 #[.int .i64 fb, .int .u64 2, .slice (some ⟨g2, 0, none⟩) mt.length c2] rfl rfl
  have S4 := S0.on (A1 _ (.cells #[.int .i64 fb, .int .u64 2, .slice (some ⟨g2, 0, none⟩) mt.length c2] 44))
  clear S0 N3 M1 M2' b3'
  refine (beats_any _ _ _ _ _ _ _ _ _ _ _ _ _ _ _ _ S4.VA V4 _ _ _ _ S4.D).mono ?_
  rintro e w5 ⟨rfl, b5⟩
  have S5 := S4.on b5
  have V5 := V4.on b5
  clear S4 V4 b5
  generalize w3.heap.size = d at S5 V5 ⊢
  have cM := model_any an cn _ _ c1 _ _ c2 ns fa fb _ _ _ _ _ (hN.on S5.bel) ln S5.MA.1 S5.MB.1 ms0 mt0 ms1 mt1 S5.VA.m0 S5.VA.m1 V5.m0 V5.m1
  generalize beatsP ns ms.length mt.length fa fb _ _ _ _ = r at cM ⊢
  go_wp2_with fail
  refine cM.mono ?_
  rintro e w6 ⟨rfl, b6⟩
  have S6 := S5.on b6
  have V6 := V5.on b6
  clear S5 V5 b6 cM
  go_wp2_with fail
  have q2 := S6.VA.c2
  have q0 := S6.VA.c0
  go_region_held3 (fun w' => w'.cell? ⟨d + 1, 2, none⟩ = some (.slice (some ⟨g1, 0, none⟩) ms.length c1) ∧ w'.cell? ⟨d + 1, 0, none⟩ = some (.int .i64 fa)) (first | go_keep | exact ⟨S7.VA.c2, S7.VA.c0⟩)
    (first
      | (go_at_call 5; refine (cA _ (goOn S6.bel ?_)).mono ?_; exact (Below.refl _ _).drew; rintro e w7 ⟨g7, c7, rfl, M7, b7⟩; have S7 := (S6.on (Below.refl _ _).drew).on b7)
      | (go_at_call 9; refine (equalM _ _ _ _ ms _ S7.MA M7 ms1).mono ?_; rintro e w' ⟨rfl, q, rfl⟩))
  have S8 := S7.on (below_drewN (Below.refl _ w7) q)
  have V8 := (V6.on (goOn (Below.refl _ w6).drew b7)).on (below_drewN (Below.refl _ w7) q)
  clear S6 V6 S7 M7 b7 q2 q0 cA
  generalize w7.drewN q = w8 at S8 V8 ⊢
  go_wp2_with fail
  have q2 := V8.c2
  have q0 := V8.c0
  go_region_held3 (fun w' => w'.cell? ⟨d + 1 + 1, 2, none⟩ = some (.slice (some ⟨g2, 0, none⟩) mt.length c2) ∧ w'.cell? ⟨d + 1 + 1, 0, none⟩ = some (.int .i64 fb)) (first | go_keep | exact ⟨V9.c2, V9.c0⟩)
    (first
      | (go_at_call 5; refine (cB _ (goOn S8.bel ?_)).mono ?_; exact (Below.refl _ _).drew; rintro e w9 ⟨g9, c9, rfl, M9, b9⟩; have S9 := (S8.on (Below.refl _ _).drew).on b9; have V9 := (V8.on (Below.refl _ _).drew).on b9)
      | (go_at_call 9; refine (equalM _ _ _ _ mt _ S9.MB M9 mt1).mono ?_; rintro e w' ⟨rfl, q9, rfl⟩))
  have S10 := S9.on (below_drewN (Below.refl _ w9) q9)
  clear S8 V8 S9 V9 M9 b9 q2 q0 cB
  generalize w9.drewN q9 = w10 at S10 ⊢
  go_wp2_with fail
  have q2 := S10.D.cd
  go_region_held3 (fun w' => w'.cell? ⟨d, 2, none⟩ = some (.slice (some ⟨g3, 0, none⟩) ns.length c3)) (first | go_keep | exact S11.D.cd)
    (first
      | (go_at_call 6; refine (cN _ (goOn S10.bel ?_)).mono ?_; exact (Below.refl _ _).drew; rintro e w11 ⟨g11, c11, rfl, M11, b11⟩; have S11 := (S10.on (Below.refl _ _).drew).on b11)
      | (go_at_call 10; refine (equalN _ _ _ _ ns _ _ S11.D.at_ M11 ln).mono ?_; rintro e w' ⟨rfl, q11, rfl⟩))
  have S12 := S11.on (below_drewN (Below.refl _ w11) q11)
  clear S10 S11 M11 b11 q2 cN
  go_wp2
  go_ret
  exact ⟨rfl, S12.bel⟩
set_option maxRecDepth 100000 in
set_option maxHeartbeats 2000000 in
theorem model_in_nil (an ap ai bp bi : Option Addr) (cn cap cai cbp cbi : Nat) (ns : List ByteArray) (ps is qs js : List Int) (fa fb : Int) (w : World) (hN : StrsAt w an ns) (hP : IntsAt .u8 w ap ps) (hI : IntsAt .u64 w ai is) (hQ : IntsAt .u8 w bp qs) (hJ : IntsAt .u64 w bi js)
    (ln : ns.length ≤ 1024) (lp : ps.length ≤ 1024) (li : is.length ≤ 1024) (lq : qs.length ≤ 1024) (lj : js.length ≤ 1024) (hp : ∀ j, 0 ≤ ps.getD j 0 ∧ ps.getD j 0 ≤ 255) (hq : ∀ j, 0 ≤ qs.getD j 0 ∧ qs.getD j 0 ≤ 255) :
    Calls Yba.prog 3 #[.slice an ns.length cn, .slice ap ps.length cap, .slice ai is.length cai, .int .i64 fa, .slice bp qs.length cbp, .slice bi js.length cbi, .int .i64 fb, .bool true] w fun e w' => e = .returned (.bool true) ∧ Below w.heap.size w w' := by
  have cN := nodes_of an cn ns w hN ln
  obtain ⟨ms, hms, ms0, ms1, cA⟩ := build_of an ap ai cn cap cai ns ps is w hN hP hI ln lp li hp
  obtain ⟨mt, hmt, mt0, mt1, cB⟩ := build_of an bp bi cn cbp cbi ns qs js w hN hQ hJ ln lq lj hq
  clear hP hI hQ hJ hp hq hms hmt
  go_enter Yba.func3, Yba.ntmps3
  go_wp2_with fail
  refine (cA _ (Below.refl _ _)).mono ?_
  rintro e w1 ⟨g1, c1, rfl, M1, b1⟩
  go_wp2_with fail
  refine (cB _ b1).mono ?_
  rintro e w2 ⟨g2, c2, rfl, M2, b2⟩
  have M1' := M1.below b2 M1.1
  have b2' := goOn b1 b2
  clear M1 b1 b2
  go_wp2_with fail
  refine (cN _ b2').mono ?_
  rintro e w3 ⟨g3, c3, rfl, N3, b3⟩
  have M1 := M1'.below b3 M1'.1
  have M2' := M2.below b3 M2.1
  have b3' := goOn b2' b3
  clear M1' M2 b2' b3
  go_wp2_with fail
  have S0 := whole_new (c2 := c2) N3 M1 M2' b3' ln ms0 ms1 #[.string ⟨#[]⟩, .int .u64 0, .slice (some ⟨g3, 0, none⟩) ns.length c3, .pointer none, .pointer none, .map none, .string ⟨#[]⟩, .int .u64 0, .int .i64 0, .pointer none, .int .u64 0, .int .i64 0, .pointer none, .nilFunc, .nilFunc]
    #[.int .i64 fa, .int .u64 1, .slice (some ⟨g1, 0, none⟩) ms.length c1] rfl rfl rfl
  clear N3 M1 M2' b3'
  refine (beats_nil _ _ _).mono ?_
  rintro e w5 ⟨rfl, b5⟩
  have S5 := S0.on b5
  clear S0 b5
  generalize w3.heap.size = d at S5 ⊢
  go_wp2_with fail
  refine (model_nil _ _ _ _ _ _ _ _ _ _ _ _).mono ?_
  rintro e w6 ⟨rfl, b6⟩
  have S6 := S5.on b6
  clear S5 b6
  go_wp2_with fail
  have q2 := S6.VA.c2
  have q0 := S6.VA.c0
  go_region_held3 (fun w' => w'.cell? ⟨d + 1, 2, none⟩ = some (.slice (some ⟨g1, 0, none⟩) ms.length c1) ∧ w'.cell? ⟨d + 1, 0, none⟩ = some (.int .i64 fa)) (first | go_keep | exact ⟨S7.VA.c2, S7.VA.c0⟩)
    (first
      | (go_at_call 5; refine (cA _ (goOn S6.bel ?_)).mono ?_; exact (Below.refl _ _).drew; rintro e w7 ⟨g7, c7, rfl, M7, b7⟩; have S7 := (S6.on (Below.refl _ _).drew).on b7)
      | (go_at_call 9; refine (equalM _ _ _ _ ms _ S7.MA M7 ms1).mono ?_; rintro e w' ⟨rfl, q, rfl⟩))
  have S8 := S7.on (below_drewN (Below.refl _ w7) q)
  clear S6 S7 M7 b7 q2 q0 cA
  generalize w7.drewN q = w8 at S8 ⊢
  go_wp2_with fail
  go_quiet (fail)
  have S10 := S8.on (below_drewN (Below.refl _ w8) nq)
  clear S8
  generalize w8.drewN nq = w10 at S10 ⊢
  go_wp2_with fail
  have q2 := S10.D.cd
  go_region_held3 (fun w' => w'.cell? ⟨d, 2, none⟩ = some (.slice (some ⟨g3, 0, none⟩) ns.length c3)) (first | go_keep | exact S11.D.cd)
    (first
      | (go_at_call 6; refine (cN _ (goOn S10.bel ?_)).mono ?_; exact (Below.refl _ _).drew; rintro e w11 ⟨g11, c11, rfl, M11, b11⟩; have S11 := (S10.on (Below.refl _ _).drew).on b11)
      | (go_at_call 10; refine (equalN _ _ _ _ ns _ _ S11.D.at_ M11 ln).mono ?_; rintro e w' ⟨rfl, q11, rfl⟩))
  have S12 := S11.on (below_drewN (Below.refl _ w11) q11)
  clear S10 S11 M11 b11 q2 cN
  go_wp2
  go_ret
  exact ⟨rfl, S12.bel⟩

set_option maxRecDepth 100000 in
set_option maxHeartbeats 1000000 in
/-- Too long an input: true at once. -/
theorem model_out (an ap ai bp bi : Option Addr) (cn cap cai cbp cbi n1 n2 n3 n4 n5 : Nat) (fa fb : Int) (nl : Bool) (w : World) (h : 1024 < n1 ∨ 1024 < n2 ∨ 1024 < n3 ∨ 1024 < n4 ∨ 1024 < n5) :
    Calls Yba.prog 3 #[.slice an n1 cn, .slice ap n2 cap, .slice ai n3 cai, .int .i64 fa, .slice bp n4 cbp, .slice bi n5 cbi, .int .i64 fb, .bool nl] w fun e w' => e = .returned (.bool true) ∧ Below w.heap.size w w' := by
  by_cases h1 : 1024 < n1
  · go_enter Yba.func3, Yba.ntmps3
    go_wp2
    go_ret
    exact ⟨rfl, Below.refl _ _⟩
  by_cases h2 : 1024 < n2
  · go_enter Yba.func3, Yba.ntmps3
    go_wp2
    go_ret
    exact ⟨rfl, Below.refl _ _⟩
  by_cases h3 : 1024 < n3
  · go_enter Yba.func3, Yba.ntmps3
    go_wp2
    go_ret
    exact ⟨rfl, Below.refl _ _⟩
  by_cases h4 : 1024 < n4
  · go_enter Yba.func3, Yba.ntmps3
    go_wp2
    go_ret
    exact ⟨rfl, Below.refl _ _⟩
  have h5 : 1024 < n5 := by omega
  go_enter Yba.func3, Yba.ntmps3
  go_wp2
  go_ret
  exact ⟨rfl, Below.refl _ _⟩

theorem law_any (an ap ai bp bi : Option Addr) (cn cap cai cbp cbi : Nat) (ns : List ByteArray) (ps is qs js : List Int) (fa fb : Int) (nl : Bool) (w : World) (hN : StrsAt w an ns) (hP : IntsAt .u8 w ap ps) (hI : IntsAt .u64 w ai is) (hQ : IntsAt .u8 w bp qs) (hJ : IntsAt .u64 w bi js)
    (hp : ∀ j, 0 ≤ ps.getD j 0 ∧ ps.getD j 0 ≤ 255) (hq : ∀ j, 0 ≤ qs.getD j 0 ∧ qs.getD j 0 ≤ 255) :
    Calls Yba.prog 3 #[.slice an ns.length cn, .slice ap ps.length cap, .slice ai is.length cai, .int .i64 fa, .slice bp qs.length cbp, .slice bi js.length cbi, .int .i64 fb, .bool nl] w fun e w' => e = .returned (.bool true) ∧ Below w.heap.size w w' := by
  by_cases h : 1024 < ns.length ∨ 1024 < ps.length ∨ 1024 < is.length ∨ 1024 < qs.length ∨ 1024 < js.length
  · exact model_out an ap ai bp bi cn cap cai cbp cbi _ _ _ _ _ fa fb nl w h
  · cases nl with
    | false => exact model_in an ap ai bp bi cn cap cai cbp cbi ns ps is qs js fa fb w hN hP hI hQ hJ (by omega) (by omega) (by omega) (by omega) (by omega) hp hq
    | true => exact model_in_nil an ap ai bp bi cn cap cai cbp cbi ns ps is qs js fa fb w hN hP hI hQ hJ (by omega) (by omega) (by omega) (by omega) (by omega) hp hq
end Go.Proofs.Ybulkbway
