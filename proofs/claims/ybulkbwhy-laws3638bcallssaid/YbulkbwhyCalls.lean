/-
  LawS3638BCalls (function 3), walked.
-/
import Derived.Test.YbulkbwhyCl
namespace Go.Proofs.Ybulkbwhy
open Go.RowKit Go.Maps Go.WideMaps Go.Sort
set_option linter.unusedVariables false

theorem run_map23 (n : Nat) (w : World) : (Instr.makeMap 23 (some (.int .i64 (n : Int)))).run Yba.prog w = .ok (.map (some w.heap.size)) (w.alloc (.map #[] 0)) := by
  simp [Instr.makeMap, asInt, asIntOf, Result.andThen]

theorem run_map35 (w : World) : (Instr.makeMap 35 Option.none).run Yba.prog w = .ok (.map (some w.heap.size)) (w.alloc (.map #[] 0)) := by
  simp [Instr.makeMap, Result.andThen]

theorem str_ne {t s : ByteArray} (h : t ≠ s) : (t.toList == s.toList) = false := by
  rw [ByteArray.toList_eq, ByteArray.toList_eq]
  simp only [beq_eq_false_iff_ne]
  exact fun e => h (key_inj e)
set_option maxRecDepth 100000 in
theorem clo_any (b l : Nat) (w : World) (h : w.cell? ⟨b, 0, Option.none⟩ = some (.int .i64 (l : Int))) : Calls Yba.prog 5 #[.slice Option.none 0 0, .pointer (some ⟨b, 0, Option.none⟩)] w fun e w' => e = .returned (.tuple #[.iface 3 (.int .i64 (l : Int)), .nilIface]) ∧ w' = w := by
  go_enter Yba.func5, Yba.ntmps5
  go_wp2
  go_ret2
  exact ⟨rfl, rfl⟩
theorem asrt (l : Int) (W : World) : (Instr.typeAssert (.iface 3 (.int .i64 l)) 20 3 true).run Yba.prog W = .ok (.tuple #[.int .i64 l, .bool true]) W := by kernel_rfl
theorem map_nil (b : Nat) (W : World) : (binOp BinOp.eql 46 (.map (some b)) (.map Option.none)).run Yba.prog W = .ok (.bool false) W := by kernel_rfl
theorem fn_nil (b : Nat) (W : World) : (binOp BinOp.eql 28 (.func (.func 5) #[] #[.pointer (some ⟨b, 0, Option.none⟩)]) .nilFunc).run Yba.prog W = .ok (.bool false) W := by kernel_rfl
theorem err_nil (W : World) : (binOp BinOp.neq 26 .nilIface .nilIface).run Yba.prog W = .ok (.bool false) W := by kernel_rfl

set_option maxRecDepth 100000 in
set_option maxHeartbeats 8000000 in
theorem calls_any (a : Option Addr) (c : Nat) (ns : List ByteArray) (w : World) (hN : StrsAt w a ns) (hl : ns.length ≤ 300) (hs : ∀ s ∈ ns, s.size ≤ maxLen) :
    Calls Yba.prog 3 #[.slice a ns.length c] w fun e w' => e = .returned (.bool true) ∧ Below w.heap.size w w' := by
  obtain ⟨n, Hn⟩ : ∃ n, Hid (n = ns.length) := ⟨_, rfl⟩
  rw [← Hn.out] at hl ⊢
  have hmm := run_map23 n w
  go_enter Yba.func3, Yba.ntmps3
  go_wp2
  have M0 := MapF.start unS w
  have b0 : Below w.heap.size w (w.alloc (.map #[] 0)) := (Below.refl _ w).alloc (Nat.le_refl _) _
  go_loopw [4] (fun i wr => ∃ (k : Nat) (pm : Key → Option Nat) (D : DataW Unit), k ≤ n ∧ i = .int .i64 k ∧ MapF unS wr w.heap.size k pm D ∧ Hid (Cl wr ns k pm ∧ Maps.size D = dist ns k) ∧ Below w.heap.size w wr) (fun i _ => n - (intOf i).toNat)
  case atStart => exact ⟨0, _, _, Nat.zero_le _, rfl, M0, ⟨Cl.start _ _, rfl⟩, b0⟩
  case round =>
    obtain ⟨k, pm, D, hk, rfl, M, HC, hb⟩ := hrel
    clear M0 b0 hmm
    by_cases hlt : k < n
    · obtain ⟨bN, off, rfl, hbN, hcN⟩ := (hN.on hb) (fun e => by rw [Hn.out, e] at hlt; simp at hlt)
      have p1 := hcN k (by rw [← Hn.out]; exact hlt)
      have hsk := hs (ns.getD k ByteArray.empty) (by have : k < ns.length := (by rw [← Hn.out]; exact hlt); simp [List.getD, this])
      obtain ⟨s, Hs⟩ : ∃ s, Hid (s = ns.getD k ByteArray.empty) := ⟨_, rfl⟩
      rw [← Hs.out] at p1 hsk
      have hkey := keyOf_string_mk (P := Yba.prog) Yba.underlying9 hsk
      have hR : Rd unS (.agg #[.func (.func 5) #[] #[.pointer (some ⟨wr.heap.size, 0, Option.none⟩)], .slice Option.none 0 0, .nilFunc, .nilFunc]) = some (.lit (.int .i64 (wr.heap.size : Int)), []) := by have := Rd_mk pair_S (wr.heap.size : Int) (by omega); rw [decS_nat] at this; exact this
      clear hcN
      go_wp2_with (first
        | (at_mapUpdate; (refine wpList_mapUpdate_own _ rfl _ _ _ 23 rfl 9 33 law9 Yba.underlying23 _ w.heap.size k D rfl (M.own.alloc _) (by unfold maxLen; omega) _ _ _ rfl rfl hkey (.lit (.int .i64 (wr.heap.size : Int))) [] hR ?_; intro w3 ho3 hg3)))
      have hks : key s = kAt ns k := by unfold kAt; rw [← Hs.out]
      have ho4 : w3.ownsMap Yba.prog 9 (Rd unS) w.heap.size (k + 1) (D.put (.string (key s)) (.lit (.int .i64 (wr.heap.size : Int)))) := ho3
      rw [hks] at ho4
      have M3 := M.put (kAt ns k) wr.heap.size ho4
      have hltm := M.lt
      have C3 : Cl w3 ns k pm := HC.out.1.on (fun p C hp => (hp.alloc _).grown hg3 (fun e => map_blk M.own hp (Option.some.inj e).symm))
      have N3 : Blk w3 wr.heap.size #[.int .i64 (k : Int)] 3 := (Blk.new wr _ 3).grown hg3 (by simp; omega)
      have S3 := size_step M HC.out.1 HC.out.2 (.lit (.int .i64 (wr.heap.size : Int)))
      have H3 : Hid (Cl w3 ns (k + 1) (upd pm (kAt ns k) (some wr.heap.size)) ∧ Maps.size (D.put (.string (kAt ns k)) (.lit (.int .i64 (wr.heap.size : Int)))) = dist ns (k + 1)) := ⟨C3.put N3, S3⟩
      have b3 := (hb.alloc hb.size _).grown hg3 (by have := hb.size; simp; omega) (fun j hj => by cases hj; exact Nat.le_refl _)
      go_roundw
      case rel => exact ⟨k + 1, _, _, by omega, by go_num, M3, H3, b3⟩
      case measure => simp [intOf]; omega
    · obtain rfl : k = n := by omega
      clear hlt hk
      have hm35 := run_map35 wr
      have Mq : MapF unS ((wr.alloc (.map #[] 0)).alloc (.cells #[.map (some w.heap.size), .int .i32 0, .int .u32 0, .map (some wr.heap.size)] 44)) w.heap.size k pm D := (M.grown (World.grownBy_alloc wr _ Option.none) (by simp)).grown (World.grownBy_alloc _ _ Option.none) (by simp)
      have Bq := Blk.new (wr.alloc (.map #[] 0)) #[.map (some w.heap.size), .int .i32 0, .int .u32 0, .map (some wr.heap.size)] 44
      rw [World.size_alloc] at Bq
      have b4 := (hb.alloc hb.size (.map #[] 0)).alloc (by have := hb.size; simp; omega) (.cells #[.map (some w.heap.size), .int .i32 0, .int .u32 0, .map (some wr.heap.size)] 44)
      have C4 : Cl ((wr.alloc (.map #[] 0)).alloc (.cells #[.map (some w.heap.size), .int .i32 0, .int .u32 0, .map (some wr.heap.size)] 44)) ns k pm := HC.out.1.on (fun p C hp => (hp.alloc _).alloc _)
      have cF := fun_any _ (wr.heap.size + 1) w.heap.size k _ pm D Bq rfl Mq hl
      go_wp2_with fail
      refine cF.mono ?_
      rintro e w5 ⟨bF, mF, DF, rfl, MF, hsF, b5⟩
      have M5 := Mq.below b5 Mq.lt
      have S5 := Bq.below b5 Bq.lt
      have C5 : Hid (Cl w5 ns k pm ∧ Maps.size D = dist ns k) := ⟨C4.on (fun p C hp => hp.below b5 hp.lt), HC.out.2⟩
      have b6 : Below w.heap.size w w5 := b4.trans ⟨b5.os, b5.tape, b5.output, b5.size, fun j hj => b5.block j (by have := b4.size; omega)⟩
      have N5 := hN.on b6
      rw [HC.out.2] at hsF
      clear cF Mq Bq C4 b4 b5 HC M hb hm35
      generalize wr.heap.size = g0 at *
      have hcm := map_nil bF
      go_wp2
      clear hcm
      go_loopw [8, 9] (fun dv iv wx => ∃ i : Nat, i ≤ k ∧ iv = .int .i64 i ∧ dv = .int .i64 (dist ns i) ∧ Below w5.heap.size w5 wx) (fun _ iv _ => k - (intOf iv).toNat)
      case atStart => exact ⟨0, Nat.zero_le _, rfl, rfl, Below.refl _ _⟩
      case round =>
        obtain ⟨i, hi, rfl, rfl, hb⟩ := hrel
        by_cases hlt : i < k
        · have hdl := dist_le ns i
          obtain ⟨bN, off, rfl, hbN, hcN⟩ := N5 (fun e => by rw [Hn.out, e] at hlt; simp at hlt)
          have HN : Hid (∀ W : World, Below w5.heap.size w5 W → ∀ j, j < k → W.cell? ⟨bN, off + j, Option.none⟩ = some (.string (ns.getD j ByteArray.empty))) := fun W hW j hj => (hW.cell (p := ⟨bN, off + j, Option.none⟩) hbN).trans (hcN j (by rw [← Hn.out]; exact hj))
          clear hcN
          go_wp2
          go_loopw [10, 11] (fun fv jv wy => ∃ j : Nat, j ≤ i ∧ fv = .bool true ∧ jv = .int .i64 j ∧ Hid (∀ j', j' < j → kAt ns j' ≠ kAt ns i) ∧ Below w5.heap.size w5 wy) (fun _ jv _ => i - (intOf jv).toNat)
          case atStart => exact ⟨0, Nat.zero_le _, rfl, rfl, fun j hj => by omega, hb⟩
          case round =>
            obtain ⟨j, hj, rfl, rfl, HJ, hbj⟩ := hrel
            clear hb
            by_cases hlj : j < i
            · have p1 := HN.out _ hbj j (by omega)
              have p2 := HN.out _ hbj i hlt
              by_cases heq : ns.getD j ByteArray.empty = ns.getD i ByteArray.empty
              · have HDI : dist ns (i + 1) = dist ns i := dist_other (fun h => h j hlj (kAt_eq.2 heq))
                rw [heq] at p1
                clear heq
                have hbj2 : Below w5.heap.size w5 wr.drew := hbj.drew
                have HDI' : Hid (dist ns (i + 1) = dist ns i) := HDI
                clear HDI
                have HDI := HDI'
                clear HDI'
                obtain ⟨s, HS⟩ : ∃ s, Hid (ns.getD i ByteArray.empty = s) := ⟨_, rfl⟩
                rw [HS.out] at p1 p2
                go_wp2
                go_region
                go_wp2
                clear p1 p2 HS hbj
                have H0 : Hid (Last ns i i (i + 1)) := ⟨by omega, rfl, fun j h1 h2 => by omega⟩
                go_loopw [12, 13] (fun lv jv wy => ∃ l j : Nat, i < j ∧ j ≤ k ∧ jv = .int .i64 j ∧ lv = .int .i64 l ∧ Hid (Last ns i l j) ∧ Below w5.heap.size w5 wy) (fun _ jv _ => k - (intOf jv).toNat)
                case atStart => exact ⟨i, i + 1, by omega, by omega, by go_num, rfl, H0, hbj2⟩
                case round =>
                  obtain ⟨l, j2, hj1, hj2, rfl, rfl, HL, hbl⟩ := hrel
                  clear H0
                  have p2 := HN.out _ hbl i hlt
                  by_cases hl2 : j2 < k
                  · have p1 := HN.out _ hbl j2 hl2
                    by_cases heq2 : ns.getD j2 ByteArray.empty = ns.getD i ByteArray.empty
                    · have HL2 : Hid (Last ns i j2 (j2 + 1)) := ⟨by omega, kAt_eq.2 heq2, fun x h1 h2 => by omega⟩
                      rw [heq2] at p1
                      clear heq2
                      generalize ns.getD i ByteArray.empty = s at *
                      go_wp2
                      go_region
                      go_wp2
                      go_roundw
                      case rel => exact ⟨j2, j2 + 1, by omega, by omega, by go_num, rfl, HL2, hbl.drew⟩
                      case measure => simp [intOf]; omega
                    · have HL2 : Hid (Last ns i l (j2 + 1)) := ⟨by have := HL.out.lt; omega, HL.out.eq, fun x h1 h2 => by
                        by_cases e : x = j2
                        · subst e; exact fun e2 => heq2 (kAt_eq.1 e2)
                        · exact HL.out.no x h1 (by omega)⟩
                      have hne := str_ne heq2
                      generalize ns.getD i ByteArray.empty = s at *
                      generalize ns.getD j2 ByteArray.empty = t at *
                      go_wp2
                      go_region
                      go_wp2
                      go_roundw
                      case rel => exact ⟨l, j2 + 1, by omega, by omega, by go_num, rfl, HL2, hbl.drew⟩
                      case measure => simp [intOf]; omega
                  · obtain rfl : j2 = k := by omega
                    have hpm : (pm (kAt ns i)).isSome = true := (C5.out.1.has _).2 ⟨i, hlt, rfl⟩
                    obtain ⟨b, hp⟩ := Option.isSome_iff_exists.1 hpm
                    obtain ⟨l', hL', hB⟩ := C5.out.1.at_ i b hlt hp
                    obtain rfl : l = l' := HL.out.uniq hL'
                    have hsl : (ns.getD i ByteArray.empty).size ≤ maxLen := hs _ (by have : i < ns.length := (by rw [← Hn.out]; exact hlt); simp [List.getD, this])
                    have lk := (MF.below hbl MF.lt).look_ok _ hsl b hp
                    unfold fnv at lk
                    have hfn := fn_nil b
                    have her := err_nil
                    have q1 := (hB.below hbl hB.lt).cell 0
                    have hll := HL.out.lt
                    have HD : Hid (dist ns (i + 1) = dist ns i) := by exact HDI
                    clear hpm hL' hB HL
                    generalize ns.getD i ByteArray.empty = s at *
                    go_wp2_with fail
                    refine (clo_any b l _ q1).mono ?_
                    rintro e w9 ⟨rfl, rfl⟩
                    have has := asrt l
                    go_wp2
                    go_roundw
                    case rel => exact ⟨i + 1, by omega, by go_num, by rw [HD.out]; try simp, hbl⟩
                    case measure => simp [intOf]; omega
              · have HJ2 : Hid (∀ j', j' < j + 1 → kAt ns j' ≠ kAt ns i) := fun j' hj' => by
                  by_cases e : j' = j
                  · subst e; exact fun e2 => heq (kAt_eq.1 e2)
                  · exact HJ.out j' (by omega)
                have hne := str_ne heq
                generalize ns.getD i ByteArray.empty = s at *
                generalize ns.getD j ByteArray.empty = t at *
                go_wp2
                go_region
                go_wp2
                go_roundw
                case rel => exact ⟨j + 1, by omega, rfl, by go_num, HJ2, hbj.drew⟩
                case measure => simp [intOf]; omega
            · obtain rfl : j = i := by omega
              have HDI : Hid (dist ns (j + 1) = dist ns j + 1) := dist_first HJ.out
              clear hj hlj
              go_wp2
              have H0 : Hid (Last ns j j (j + 1)) := ⟨by omega, rfl, fun j' h1 h2 => by omega⟩
              go_loopw [12, 13] (fun lv jv wy => ∃ l j' : Nat, j < j' ∧ j' ≤ k ∧ jv = .int .i64 j' ∧ lv = .int .i64 l ∧ Hid (Last ns j l j') ∧ Below w5.heap.size w5 wy) (fun _ jv _ => k - (intOf jv).toNat)
              case atStart => exact ⟨j, j + 1, by omega, by omega, by go_num, rfl, H0, hbj⟩
              case round =>
                obtain ⟨l, j2, hj1, hj2, rfl, rfl, HL, hbl⟩ := hrel
                clear H0
                have p2 := HN.out _ hbl j hlt
                by_cases hl2 : j2 < k
                · have p1 := HN.out _ hbl j2 hl2
                  by_cases heq2 : ns.getD j2 ByteArray.empty = ns.getD j ByteArray.empty
                  · have HL2 : Hid (Last ns j j2 (j2 + 1)) := ⟨by omega, kAt_eq.2 heq2, fun x h1 h2 => by omega⟩
                    rw [heq2] at p1
                    clear heq2
                    generalize ns.getD j ByteArray.empty = s at *
                    go_wp2
                    go_region
                    go_wp2
                    go_roundw
                    case rel => exact ⟨j2, j2 + 1, by omega, by omega, by go_num, rfl, HL2, hbl.drew⟩
                    case measure => simp [intOf]; omega
                  · have HL2 : Hid (Last ns j l (j2 + 1)) := ⟨by have := HL.out.lt; omega, HL.out.eq, fun x h1 h2 => by
                      by_cases e : x = j2
                      · subst e; exact fun e2 => heq2 (kAt_eq.1 e2)
                      · exact HL.out.no x h1 (by omega)⟩
                    have hne := str_ne heq2
                    generalize ns.getD j ByteArray.empty = s at *
                    generalize ns.getD j2 ByteArray.empty = t at *
                    go_wp2
                    go_region
                    go_wp2
                    go_roundw
                    case rel => exact ⟨l, j2 + 1, by omega, by omega, by go_num, rfl, HL2, hbl.drew⟩
                    case measure => simp [intOf]; omega
                · obtain rfl : j2 = k := by omega
                  have hpm : (pm (kAt ns j)).isSome = true := (C5.out.1.has _).2 ⟨j, hlt, rfl⟩
                  obtain ⟨b, hp⟩ := Option.isSome_iff_exists.1 hpm
                  obtain ⟨l', hL', hB⟩ := C5.out.1.at_ j b hlt hp
                  obtain rfl : l = l' := HL.out.uniq hL'
                  have hsl : (ns.getD j ByteArray.empty).size ≤ maxLen := hs _ (by have : j < ns.length := (by rw [← Hn.out]; exact hlt); simp [List.getD, this])
                  have lk := (MF.below hbl MF.lt).look_ok _ hsl b hp
                  unfold fnv at lk
                  have hfn := fn_nil b
                  have her := err_nil
                  have q1 := (hB.below hbl hB.lt).cell 0
                  have hll := HL.out.lt
                  have HD : Hid (dist ns (j + 1) = dist ns j + 1) := by exact HDI
                  clear hpm hL' hB HL
                  generalize ns.getD j ByteArray.empty = s at *
                  go_wp2_with fail
                  refine (clo_any b l _ q1).mono ?_
                  rintro e w9 ⟨rfl, rfl⟩
                  have has := asrt l
                  go_wp2
                  go_roundw
                  case rel => exact ⟨j + 1, by omega, by go_num, by rw [HD.out]; try simp, hbl⟩
                  case measure => simp [intOf]; omega
        · obtain rfl : i = k := by omega
          have l1 := (MF.below hb MF.lt).own.len (t := 46) (e := 28) Yba.underlying46 3
          have l2 := (M5.below hb M5.lt).own.len (t := 23) (e := 33) Yba.underlying23 3
          have q0 := (S5.below hb S5.lt).cell 0
          rw [hsF] at l1
          rw [C5.out.2] at l2
          have hdl := dist_le ns i
          have bE : Below w.heap.size w wr := b6.trans ⟨hb.os, hb.tape, hb.output, hb.size, fun j hj => hb.block j (by have := b6.size; omega)⟩
          clear hlt hi hsF
          go_wp2
          go_ret
          exact ⟨rfl, bE⟩

set_option maxRecDepth 100000 in
theorem calls_long (a : Option Addr) (n c : Nat) (w : World) (h : 300 < n) :
    Calls Yba.prog 3 #[.slice a n c] w fun e w' => e = .returned (.bool true) ∧ Below w.heap.size w w' := by
  go_enter Yba.func3, Yba.ntmps3
  go_wp2
  go_ret
  exact ⟨rfl, Below.refl _ _⟩
end Go.Proofs.Ybulkbwhy
