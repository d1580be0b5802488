/-
  THE LAW FnFetchFirstFoundElseLast, WALKED (seat b6616194a).
-/
import Derived.Test.Qxb6616194aHelp
import Derived.WalkSpells
import Derived.Laws.CopyOwn
import Derived.Deep.DeepCutAuto
import Derived.Deep.CutBlock
import Derived.Deep.LoopGhost
import Derived.BigQuiet
import Derived.Deep.QuietTactic
namespace Go.Proofs.Qxb6616194a
open Go.ChangeShapes Go.WideShapes Go.ChangeAt Go.RowKit
set_option linter.unusedVariables false

set_option maxRecDepth 100000 in
set_option maxHeartbeats 2000000 in
theorem law3_core (w : World) (a0 a1 a2 : Option Addr) (n c0 lf c1 lh c2 : Nat) (P : Nat → List Value) (F : Nat → Bool) (H : Nat → Int)
    (h1 : Came w a1 lf c1 Value.bool F) (h2 : Came w a2 lh c2 (Value.int .i64) H) (hF : ∀ i, lf ≤ i → F i = false) (hH : ∀ i, lh ≤ i → H i = 0) (hn : n ≤ 16384) (hlf : lf ≤ 65536) (hlh : lh ≤ 32768) (hc0 : c0 ≤ 9223372036854775807) (hcap : n ≤ c0) (hnil : a0 = none → n = 0 ∧ c0 = 0)
    (hPB : ∀ i, i < n → Byt (P i)) (hP : n = 0 ∨ ∃ b off, a0 = some ⟨b, off, none⟩ ∧ ∀ i, i < n → (P i).length = 32 ∧ (∀ v ∈ P i, v.oneCell' = true) ∧ w.rangeAt b (off + i * 32) (P i)) :
    Calls Try.prog 3 #[.slice a0 n c0, .slice a1 lf c1, .slice a2 lh c2] w fun e w' => e = .returned (.bool true) ∧ Below w.heap.size w w' := by
  have q23 : ∀ (w : World) (a : Option Addr) (n c n' c' : Nat), (binOp .neq 23 (.slice a n c) (.slice none n' c')).run Try.prog w = .ok (.bool (!a.isNone)) w := fun w a n c n' c' => run_neq_slice_nil_any w _ _ a n c n' c' Try.underlying23
  have q24 : ∀ (w : World) (a : Option Addr) (n c n' c' : Nat), (binOp .neq 24 (.slice a n c) (.slice none n' c')).run Try.prog w = .ok (.bool (!a.isNone)) w := fun w a n c n' c' => run_neq_slice_nil_any w _ _ a n c n' c' Try.underlying24
  have HC1 := hide h1
  have HC2 := hide h2
  have HF := hide hF
  have HH := hide hH
  have HP := hide hP
  have Hnil := hide hnil
  have HPB := hide hPB
  clear h1 h2 hF hH hP hnil hPB
  go_enter Try.func3, Try.ntmps3
  go_wp2_with fail
  refine (bytes5_any _ _ _ _ _ _ _ _ _ _ (by omega) (by omega) (by omega)).mono ?_
  rintro e w' ⟨⟨b, rfl⟩, hw⟩
  obtain rfl := hw.symm
  cases b
  · go_wp2_with fail
    go_ret
    exact ⟨rfl, Below.refl _ _⟩
  have d0 : decide ((16384 : Int) < (n : Int)) = false := by simp; omega
  have d1 : decide ((65536 : Int) < (lf : Int)) = false := by simp; omega
  have d2 : decide ((32768 : Int) < (lh : Int)) = false := by simp; omega
  go_upto_if 32 with fail
  obtain ⟨i4, hi4, z40, z41, z42⟩ := info_parts Try.info4
  have HI4 : Hid (Try.prog.info? 4 = some i4 ∧ i4.zero = some (.bool false) ∧ i4.size = 1 ∧ i4.bytes = 1) := ⟨hi4, z40, z41, z42⟩
  clear hi4 z40 z41 z42
  go_cut [1, 7] (fun s1 _ wx => ∃ a1' c1', s1 = .slice a1' lf c1' ∧ Hid (RowOf wx a1' lf Value.bool F) ∧ Below w.heap.size w wx)
  case first =>
    cases a1 with
    | none =>
      go_wp2_with fail
      go_meet
      case rel => exact ⟨none, c1, rfl, HC1.out.1, Below.refl _ _⟩
    | some x =>
      have HS4 : Hid ((Try.prog.info? 4).map (·.size) = some 1) := by exact (by kernel_rfl : (Try.prog.info? 4).map (·.size) = some 1)
      have HO1 : Hid (∀ v ∈ (List.range lf).map (fun i => Value.bool (F i)), v.oneCell' = true) := fun v hv => by
        simp only [List.mem_map] at hv; obtain ⟨i, _, rfl⟩ := hv; rfl
      go_wp2_with (first
        | (at_make; refine wpList_make_full _ (by rfl) (.tmp 34) (.tmp 34) 23 (by rfl) w.heap.size 4 i4 (.bool false) 1 Try.underlying23 HI4.out.1 HI4.out.2.1 HI4.out.2.2.1 .i64 .i64 lf lf lf (by simp [Act.eval]) (by simp [Act.eval]) rfl rfl (by rw [HI4.out.2.2.2]; omega) (by unfold maxLen; omega) (Nat.le_refl _) ?_; intro w1 hown hgrow; obtain ⟨cur, hg1, hl1⟩ := made_row hown; have HG1 := hide hg1; have HL := hide hl1; have HB := hide ((Below.refl w.heap.size w).grown hgrow (Nat.le_refl _) (by intro k hk; cases hk)); have HX := hide (copy_src HC1.out.1 HB.out); clear hown hgrow hg1 hl1)
        | (with_reducible refine wpList_copy_splice ?_ (.tmp 36) (.tmp 37) 23 23 ?_ 4 Try.underlying23 HS4.out (some ⟨w.heap.size, 0, none⟩) (some x) lf lf lf c1 ?_ ?_ w.heap.size 0 cur 4 HG1.out ((List.range lf).map fun i => Value.bool (F i)) ?_ (fun _ => ⟨rfl, x, rfl, HX.out⟩) ?_ HO1.out w.heap.size w HB.out (Nat.le_refl _) ?_; rfl; rfl; (simp [Act.eval]); (simp [Act.eval]); (simp); (simp [HL.out]); intro w2 HR2 hB2))
      go_meet
      case rel => exact ⟨_, _, rfl, row_copied HL.out HR2.out, hB2⟩
  case rest =>
    obtain ⟨a1', c1', rfl, HR1, hB1⟩ := hcut
    obtain ⟨wf, rfl⟩ : ∃ wf, wf = wc := ⟨_, rfl⟩
    go_upto_if 41 with fail
    obtain ⟨i3, hi3, z30, z31, z32⟩ := info_parts Try.info3
    have HI3 : Hid (Try.prog.info? 3 = some i3 ∧ i3.zero = some (.int .i64 0) ∧ i3.size = 1 ∧ i3.bytes = 8) := ⟨hi3, z30, z31, z32⟩
    clear hi3 z30 z31 z32
    have HC2f : Hid (RowOf wf a2 lh (Value.int .i64) H) := rowOf_below HC2.out.1 hB1
    go_cut [2, 8] (fun s2 _ wx => ∃ a2' c2', s2 = .slice a2' lh c2' ∧ Hid (RowOf wx a2' lh (Value.int .i64) H) ∧ Below wf.heap.size wf wx)
    case first =>
      cases a2 with
      | none =>
        go_wp2_with fail
        go_meet
        case rel => exact ⟨none, c2, rfl, HC2f.out, Below.refl _ _⟩
      | some x =>
        have HS3 : Hid ((Try.prog.info? 3).map (·.size) = some 1) := by exact (by kernel_rfl : (Try.prog.info? 3).map (·.size) = some 1)
        have HO1 : Hid (∀ v ∈ (List.range lh).map (fun i => Value.int .i64 (H i)), v.oneCell' = true) := fun v hv => by
          simp only [List.mem_map] at hv; obtain ⟨i, _, rfl⟩ := hv; rfl
        go_wp2_with (first
          | (at_make; refine wpList_make_full _ (by rfl) (.tmp 43) (.tmp 43) 24 (by rfl) wf.heap.size 3 i3 (.int .i64 0) 1 Try.underlying24 HI3.out.1 HI3.out.2.1 HI3.out.2.2.1 .i64 .i64 lh lh lh (by simp [Act.eval]) (by simp [Act.eval]) rfl rfl (by rw [HI3.out.2.2.2]; omega) (by unfold maxLen; omega) (Nat.le_refl _) ?_; intro w1 hown hgrow; obtain ⟨cur, hg1, hl1⟩ := made_row hown; have HG1 := hide hg1; have HL := hide hl1; have HB := hide ((Below.refl wf.heap.size wf).grown hgrow (Nat.le_refl _) (by intro k hk; cases hk)); have HX := hide (copy_src HC2f.out HB.out); clear hown hgrow hg1 hl1)
          | (with_reducible refine wpList_copy_splice ?_ (.tmp 45) (.tmp 46) 24 24 ?_ 3 Try.underlying24 HS3.out (some ⟨wf.heap.size, 0, none⟩) (some x) lh lh lh c2 ?_ ?_ wf.heap.size 0 cur 3 HG1.out ((List.range lh).map fun i => Value.int .i64 (H i)) ?_ (fun _ => ⟨rfl, x, rfl, HX.out⟩) ?_ HO1.out wf.heap.size wf HB.out (Nat.le_refl _) ?_; rfl; rfl; (simp [Act.eval]); (simp [Act.eval]); (simp); (simp [HL.out]); intro w2 HR2 hB2))
        go_meet
        case rel => exact ⟨_, _, rfl, row_copied HL.out HR2.out, hB2⟩
    case rest =>
      obtain ⟨a2', c2', rfl, HR2, hB2⟩ := hcut
      have HR1' : Hid (RowOf wc a1' lf Value.bool F) := rowOf_below HR1.out hB2
      have hBw : Below w.heap.size w wc := hB1.trans (hB2.mono hB1.size)
      have HPw := hide (pos_below HP.out hBw)
      go_wp2_with fail
      refine (ids_all wc a0 n c0 P (by omega) (by omega) Hnil.out HPw.out).mono ?_
      rintro e wi ⟨ai, rfl, hpi, hBi⟩
      go_wp2_with fail
      have HR1i : Hid (RowOf wi a1' lf Value.bool F) := rowOf_below HR1'.out hBi
      have HR2i : Hid (RowOf wi a2' lh (Value.int .i64) H) := rowOf_below HR2.out hBi
      have hBwi : Below w.heap.size w wi := hBw.trans (hBi.mono hBw.size)
      have Z := zz_any ((List.range n).map P) wi ai a1' a2' n lf c1' lh c2' F H HR1i.out HR2i.out HF.out HH.out (by omega) (by omega) (pos_list hpi (fun i hi => ⟨(HPB.out i hi).1, (HPB.out i hi).one⟩)) (by simp) (by omega) (by simp; omega)
      simp only [List.length_map, List.length_range] at Z
      obtain ⟨m, A, x, f, h, hr⟩ : ∃ m A x f h, fin F H ((List.range n).map P) 0 [] = (m, A, x, f, h) := ⟨_, _, _, _, _, rfl⟩
      rw [hr] at Z
      simp only at Z
      have HZ := hide Z
      have Hr := hide hr
      clear Z hr hpi
      refine HZ.out.mono ?_
      rintro e wz ⟨oa, cp, rfl, ho, hBz⟩
      have HO := hide ho
      have hBwz : Below w.heap.size w wz := hBwi.trans (hBz.mono hBwi.size)
      have HR1z : Hid (RowOf wz a1' lf Value.bool F) := rowOf_below HR1i.out hBz
      have HR2z : Hid (RowOf wz a2' lh (Value.int .i64) H) := rowOf_below HR2i.out hBz
      clear ho hB1 hB2 hBi hBz hBw hBwi HZ HR1 HR1' HR2 HR1i HR2i HPw HC1 HC2 HC2f
      have q28 : ∀ (w : World) (a : Option Addr) (n c n' c' : Nat), (binOp .eql 28 (.slice a n c) (.slice none n' c')).run Try.prog w = .ok (.bool a.isNone) w := fun w a n c n' c' => Lib.run_eql_slice_nil w _ _ a n c n' c' Try.underlying28
      have q29 : ∀ (w : World) (a : Option Addr) (n c n' c' : Nat), (binOp .eql 29 (.slice a n c) (.slice none n' c')).run Try.prog w = .ok (.bool a.isNone) w := fun w a n c n' c' => Lib.run_eql_slice_nil w _ _ a n c n' c' Try.underlying29
      by_cases hn0 : n = 0
      · subst hn0
        have e := Hr.out
        simp only [List.range_zero, List.map_nil, fin, Prod.mk.injEq] at e
        obtain ⟨rfl, rfl, rfl, rfl, rfl⟩ := e
        go_wp2_with fail
        go_ret
        exact ⟨rfl, hBwz.alloc hBwz.size _⟩
      · have t0 : ((n : Int) == 0) = false := by simp; omega
        have t1 : 1 ≤ n := by omega
        clear q23 q24
        go_upto_block 0 with fail
        go_name_world wq hwq
        have HR1q : Hid (RowOf wq a1' lf Value.bool F) := by rw [← hwq]; exact rowOf_below HR1z.out ((Below.refl _ _).alloc (Nat.le_refl _) _)
        have HR2q : Hid (RowOf wq a2' lh (Value.int .i64) H) := by rw [← hwq]; exact rowOf_below HR2z.out ((Below.refl _ _).alloc (Nat.le_refl _) _)
        have HOq : Hid (wq.ownsRow (wi.heap.size + 6) 36 32 (.slice oa m cp) m A) := by rw [← hwq]; exact HO.out.alloc _
        have hBq : Below w.heap.size w wq := by rw [← hwq]; exact hBwz.alloc hBwz.size _
        obtain ⟨g0, g1, g2, g3, g4, gf⟩ : wq.cell? ⟨wz.heap.size, 0, none⟩ = some (.bool x) ∧ wq.cell? ⟨wz.heap.size, 1, none⟩ = some (.bool f) ∧ wq.cell? ⟨wz.heap.size, 2, none⟩ = some (.slice none 0 0) ∧ wq.cell? ⟨wz.heap.size, 3, none⟩ = some (.int .i64 h) ∧ wq.cell? ⟨wz.heap.size, 4, none⟩ = some (.slice none 0 0) ∧ ∀ j, wq.frozen? ⟨wz.heap.size, j, none⟩ = false := by
          rw [← hwq]; exact five_cell (heap_alloc_new wz _)
        clear hwq HR1z HR2z HO hBwz gf
        go_cut [14, 15] (fun s14 _ wx => ∃ k : Nat, s14 = .int .i64 k ∧ k < n ∧ Hid (∀ j, j < k → F j = false) ∧ Hid (F k = true ∨ k + 1 = n) ∧ wq = wx)
        case first =>
          go_wp2_with fail
          go_loop [14, 15] (fun s14 s15 => ∃ i : Nat, s14 = .int .i64 (n - 1) ∧ s15 = .int .i64 i ∧ i ≤ n ∧ Hid (∀ j, j < i → F j = false)) (fun _ s15 => n - (intOf s15).toNat)
          case atStart => exact ⟨0, rfl, rfl, by omega, fun j hj => by omega⟩
          case round =>
            obtain ⟨i, rfl, rfl, hi, hfi⟩ := hrel
            by_cases hlt : i < n
            · cases hFi : F i
              · have HFi := hide hFi
                have C8 := foundAt_any wq a1' lf c1' F HR1q.out HF.out (by omega) i (by omega)
                rw [hFi] at C8
                have HC8 := hide C8
                clear hFi C8
                go_wp2_with (go_at_call 8; refine HC8.out.mono ?_; rintro e w' ⟨rfl, hw⟩; obtain rfl := hw.symm)
                go_round
                case rel => exact ⟨i + 1, rfl, by go_num, by omega, fun j hj => by
                  by_cases e : j = i
                  · subst e; exact HFi.out
                  · exact hfi.out j (by omega)⟩
                case measure => simp [intOf]; omega
              · have HFi := hide hFi
                have C8 := foundAt_any wq a1' lf c1' F HR1q.out HF.out (by omega) i (by omega)
                rw [hFi] at C8
                have HC8 := hide C8
                clear hFi C8
                go_wp2_with (go_at_call 8; refine HC8.out.mono ?_; rintro e w' ⟨rfl, hw⟩; obtain rfl := hw.symm)
                go_meet
                case rel => exact ⟨i, rfl, hlt, hfi, .inl HFi.out, rfl⟩
            · go_wp2_with fail
              go_meet
              case rel => exact ⟨n - 1, by rw [show ((n : Int) - 1) = ((n - 1 : Nat) : Int) from by omega], by omega, fun j hj => hfi.out j (by omega), .inr (by omega), rfl⟩
        case rest =>
          obtain ⟨k, rfl, hk, hk1, hk2, rfl⟩ := hcut
          have e := fin_at F H ((List.range n).map P) 0 [] k (by simpa using hk) (fun i hi => by simpa using hk1.out i hi) (by simpa using hk2.out)
          rw [Hr.out] at e
          simp only [Nat.zero_add, List.nil_append, Prod.mk.injEq] at e
          obtain ⟨em, eA, rfl, rfl, rfl⟩ := e
          obtain ⟨g, hoa, RA⟩ := asked_at HOq.out em eA hk (fun i hi => (HPB.out i hi).1)
          obtain ⟨b, off, ha0, RP⟩ := pos_at (pos_below HP.out hBq) (by omega)
          subst hoa ha0
          have hm1 : m ≤ k + 1 := by omega
          have hm2 : k + 1 ≤ m := by omega
          have hm3 : ((m : Int) != (k : Int) + 1) = false := by simp; omega
          have HRA := hide RA
          have HRP := hide RP
          clear em eA RA RP HOq Hr Hnil HP hk1 hk2
          go_wp2_with fail
          go_loopw [16] (fun s16 wx => ∃ i q : Nat, s16 = .int .i64 i ∧ i ≤ k + 1 ∧ wx = wq.drewN q) (fun s16 _ => k + 1 - (intOf s16).toNat)
          case atStart => exact ⟨0, 0, rfl, by omega, rfl⟩
          case round =>
            obtain ⟨i, q, rfl, hi, rfl⟩ := hrel
            by_cases hlt : i ≤ k
            · obtain ⟨p, hp⟩ : ∃ p, p = P i := ⟨_, rfl⟩
              have hB : Byt p := by rw [hp]; exact HPB.out i (by omega)
              have r1 : wq.rangeAt g (i * 32) p := by rw [hp]; exact HRA.out i (by omega)
              have r2 : wq.rangeAt b (off + i * 32) p := by rw [hp]; exact HRP.out i (by omega)
              have hu35 := Try.underlying35
              have hu36 := Try.underlying36
              have hi35 : (Try.prog.info? 35).map (·.size) = some p.length := by rw [hB.1]; kernel_rfl
              have hi36 : (Try.prog.info? 36).map (·.size) = some p.length := by rw [hB.1]; kernel_rfl
              have hneq := run_neq_byt Try.underlying35 Try.cells35 Try.key35 hB
              have hg35 : Try.prog.eqGuardType Try.prog.depth 35 = false := by kernel_rfl
              have j1 : (0 : Int) ≤ (i : Int) := by omega
              have j2 : (i : Int) < (m : Int) := by omega
              have j3 : (i : Int) < (n : Int) := by omega
              clear hp hB
              go_wp2_with fail
              refine wp_region_quiet_lit (by kernel_rfl) (by kernel_rfl) ?_
              go_big_quiet_step (fail)
              go_big_quiet_step (fail)
              go_big_quiet_step (fail)
              refine wpQuiet_load_mid rfl 36 (.tmp 116) rfl g (i * 32) (by simp [Act.eval]) p _ (fun w' hw' => by obtain ⟨q', rfl⟩ := hw'; exact r1) hu36 rfl hi36 ?_
              simp only [Act.put, List.setIfInBounds_toArray, List.set_cons_zero, List.set_cons_succ]
              go_big_quiet_step (fail)
              go_big_quiet_step (fail)
              go_big_quiet_step (fail)
              refine wpQuiet_load_mid rfl 35 (.tmp 120) rfl b (off + i * 32) (by simp [Act.eval]) p _ (fun w' hw' => by obtain ⟨q', rfl⟩ := hw'; exact r2) hu35 rfl hi35 ?_
              simp only [Act.put, List.setIfInBounds_toArray, List.set_cons_zero, List.set_cons_succ]
              go_big_quiet_step (fail)
              refine wpQuiet_nil ?_
              intro _ hw'
              obtain ⟨nq, hw''⟩ := hw'
              subst hw''
              go_wp2_with fail
              go_roundw
              case rel => exact ⟨i + 1, q + nq, by go_num, by omega, rfl⟩
              case measure => simp [intOf]; omega
            · go_wp2_with fail
              go_name_world wd hwd
              have hBd : Below w.heap.size w wd := by rw [← hwd]; exact ⟨hBq.os, hBq.tape, hBq.output, hBq.size, hBq.block⟩
              have C8 : ∀ q' : Nat, Calls Try.prog 8 #[.slice a1' lf c1', .int .i64 k] (wd.drewN q') fun e w' => e = .returned (.bool (F k)) ∧ w' = wd.drewN q' := fun q' => foundAt_any (wd.drewN q') a1' lf c1' F (by rw [← hwd]; exact HR1q.out) HF.out (by omega) k (by omega)
              have C9 : ∀ q' : Nat, Calls Try.prog 9 #[.slice a2' lh c2', .int .i64 k] (wd.drewN q') fun e w' => e = .returned (.int .i64 (H k)) ∧ w' = wd.drewN q' := fun q' => hopsAt_any (wd.drewN q') a2' lh c2' H (by rw [← hwd]; exact HR2q.out) HH.out (by omega) k (by omega)
              have d0 : wd.cell? ⟨wz.heap.size, 0, none⟩ = some (.bool true) := by rw [← hwd]; exact g0
              have d1 : wd.cell? ⟨wz.heap.size, 1, none⟩ = some (.bool (F k)) := by rw [← hwd]; exact g1
              have d2 : wd.cell? ⟨wz.heap.size, 2, none⟩ = some (.slice none 0 0) := by rw [← hwd]; exact g2
              have d3 : wd.cell? ⟨wz.heap.size, 3, none⟩ = some (.int .i64 (H k)) := by rw [← hwd]; exact g3
              have d4 : wd.cell? ⟨wz.heap.size, 4, none⟩ = some (.slice none 0 0) := by rw [← hwd]; exact g4
              have HC8 := hide C8
              have HC9 := hide C9
              generalize F k = fk at *
              generalize H k = hk at *
              clear C8 C9 hwd g0 g1 g2 g3 g4 HR1q HR2q
              have e1 : (fk == fk) = true := by simp
              have e2 : (hk == hk) = true := by simp
              go_quiet ((first | (go_at_call 8; exact Calls.quiet_of_same (HC8.out _)) | (go_at_call 9; exact Calls.quiet_of_same (HC9.out _))))
              go_wp2_with fail
              go_ret
              exact ⟨rfl, ⟨hBd.os, hBd.tape, hBd.output, hBd.size, hBd.block⟩⟩

set_option maxRecDepth 100000 in
set_option maxHeartbeats 1000000 in
/-- The law's walk, whatever the lengths: what is longer than the guards allow is answered true at once. -/
theorem law3_any (w : World) (a0 a1 a2 : Option Addr) (n c0 lf c1 lh c2 : Nat) (P : Nat → List Value) (F : Nat → Bool) (H : Nat → Int)
    (h0 : CamePos w a0 n c0 P) (h1 : Came w a1 lf c1 Value.bool F) (h2 : Came w a2 lh c2 (Value.int .i64) H) (hF : ∀ i, lf ≤ i → F i = false) (hH : ∀ i, lh ≤ i → H i = 0) :
    Calls Try.prog 3 #[.slice a0 n c0, .slice a1 lf c1, .slice a2 lh c2] w fun e w' => e = .returned (.bool true) ∧ Below w.heap.size w w' := by
  by_cases g : n ≤ 16384 ∧ lf ≤ 65536 ∧ lh ≤ 32768
  · exact law3_core w a0 a1 a2 n c0 lf c1 lh c2 P F H h1 h2 hF hH g.1 g.2.1 g.2.2 h0.2.1 h0.1 h0.2.2.1 h0.2.2.2.1 h0.2.2.2.2
  · have e0 : n ≤ 9223372036854775807 := Nat.le_trans h0.1 h0.2.1
    have e1 : lf ≤ 9223372036854775807 := Nat.le_trans h1.2.2.1 h1.2.2.2
    have e2 : lh ≤ 9223372036854775807 := Nat.le_trans h2.2.2.1 h2.2.2.2
    clear h0 h1 h2 hF hH
    by_cases g1 : n ≤ 16384
    · by_cases g2 : lf ≤ 65536
      · have g3 : ¬ lh ≤ 32768 := fun h => g ⟨g1, g2, h⟩
        clear g
        go_enter Try.func3, Try.ntmps3
        go_wp2_with fail
        refine (bytes5_any _ _ _ _ _ _ _ _ _ _ (by omega) (by omega) (by omega)).mono ?_
        rintro e w' ⟨⟨b, rfl⟩, hw⟩
        obtain rfl := hw.symm
        cases b <;> (go_wp2_with fail; go_ret; exact ⟨rfl, Below.refl _ _⟩)
      · clear g
        go_enter Try.func3, Try.ntmps3
        go_wp2_with fail
        refine (bytes5_any _ _ _ _ _ _ _ _ _ _ (by omega) (by omega) (by omega)).mono ?_
        rintro e w' ⟨⟨b, rfl⟩, hw⟩
        obtain rfl := hw.symm
        cases b <;> (go_wp2_with fail; go_ret; exact ⟨rfl, Below.refl _ _⟩)
    · clear g
      go_enter Try.func3, Try.ntmps3
      go_wp2_with fail
      refine (bytes5_any _ _ _ _ _ _ _ _ _ _ (by omega) (by omega) (by omega)).mono ?_
      rintro e w' ⟨⟨b, rfl⟩, hw⟩
      obtain rfl := hw.symm
      cases b <;> (go_wp2_with fail; go_ret; exact ⟨rfl, Below.refl _ _⟩)
end Go.Proofs.Qxb6616194a
