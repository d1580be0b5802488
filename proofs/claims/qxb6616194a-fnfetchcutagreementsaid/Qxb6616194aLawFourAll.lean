/-
  THE LAW FnFetchCutAgreement, WALKED (seat b6616194a).
-/
import Derived.Test.Qxb6616194aLawFour
import Derived.WalkSpells
import Derived.Laws.CopyOwn
import Derived.Deep.DeepCutAuto
import Derived.Deep.CutBlock
import Derived.Deep.LoopGhost
import Derived.BigQuiet
import Derived.Deep.QuietTactic
namespace Go.Proofs.Qxb6616194a
open Go.ChangeShapes Go.WideShapes Go.ChangeAt Go.RowKit
set_option linter.unusedVariables false

set_option maxRecDepth 100000 in
set_option maxHeartbeats 2000000 in
theorem law4_out (w : World) (a0 a1 a2 : Option Addr) (n c0 lf c1 lh c2 : Nat) (cut : Int) (P : Nat → List Value) (F : Nat → Bool) (H : Nat → Int)
    (h1 : Came w a1 lf c1 Value.bool F) (h2 : Came w a2 lh c2 (Value.int .i64) H) (hn : n ≤ 16384) (hlf : lf ≤ 65536) (hlh : lh ≤ 32768) (hcut : cut < 1 ∨ (n : Int) ≤ cut) :
    Calls Try.prog 4 #[.slice a0 n c0, .slice a1 lf c1, .slice a2 lh c2, .int .i64 cut] w fun e w' => e = .returned (.bool true) ∧ Below w.heap.size w w' := by
  have q23 : ∀ (w : World) (a : Option Addr) (n c n' c' : Nat), (binOp .neq 23 (.slice a n c) (.slice none n' c')).run Try.prog w = .ok (.bool (!a.isNone)) w := fun w a n c n' c' => run_neq_slice_nil_any w _ _ a n c n' c' Try.underlying23
  have q24 : ∀ (w : World) (a : Option Addr) (n c n' c' : Nat), (binOp .neq 24 (.slice a n c) (.slice none n' c')).run Try.prog w = .ok (.bool (!a.isNone)) w := fun w a n c n' c' => run_neq_slice_nil_any w _ _ a n c n' c' Try.underlying24
  have HC1 := hide h1
  have HC2 := hide h2
  have HCut := hide hcut
  clear h1 h2 hcut
  go_enter Try.func4, Try.ntmps4
  go_wp2_with fail
  refine (bytes10_any _ _ _ _ _ _ _ _ _ _ _ (by omega) (by omega) (by omega)).mono ?_
  rintro e w' ⟨⟨b, rfl⟩, hw⟩
  obtain rfl := hw.symm
  cases b
  · go_wp2_with fail
    go_ret
    exact ⟨rfl, Below.refl _ _⟩
  have d0 : decide ((16384 : Int) < (n : Int)) = false := by simp; omega
  have d1 : decide ((65536 : Int) < (lf : Int)) = false := by simp; omega
  have d2 : decide ((32768 : Int) < (lh : Int)) = false := by simp; omega
  go_upto_if 44 with fail
  obtain ⟨i4, hi4, z40, z41, z42⟩ := info_parts Try.info4
  have HI4 : Hid (Try.prog.info? 4 = some i4 ∧ i4.zero = some (.bool false) ∧ i4.size = 1 ∧ i4.bytes = 1) := ⟨hi4, z40, z41, z42⟩
  clear hi4 z40 z41 z42
  go_cut [1, 9] (fun s1 _ wx => ∃ a1' c1', s1 = .slice a1' lf c1' ∧ Hid (RowOf wx a1' lf Value.bool F) ∧ lf ≤ c1' ∧ c1' ≤ 9223372036854775807 ∧ Below w.heap.size w wx)
  case first =>
    cases a1 with
    | none =>
      go_wp2_with fail
      go_meet
      case rel => exact ⟨none, c1, rfl, HC1.out.1, HC1.out.2.2.1, HC1.out.2.2.2, Below.refl _ _⟩
    | some x =>
      have HS4 : Hid ((Try.prog.info? 4).map (·.size) = some 1) := by exact (by kernel_rfl : (Try.prog.info? 4).map (·.size) = some 1)
      have HO1 : Hid (∀ v ∈ (List.range lf).map (fun i => Value.bool (F i)), v.oneCell' = true) := fun v hv => by
        simp only [List.mem_map] at hv; obtain ⟨i, _, rfl⟩ := hv; rfl
      go_wp2_with (first
        | (at_make; refine wpList_make_full _ (by rfl) (.tmp 46) (.tmp 46) 23 (by rfl) w.heap.size 4 i4 (.bool false) 1 Try.underlying23 HI4.out.1 HI4.out.2.1 HI4.out.2.2.1 .i64 .i64 lf lf lf (by simp [Act.eval]) (by simp [Act.eval]) rfl rfl (by rw [HI4.out.2.2.2]; omega) (by unfold maxLen; omega) (Nat.le_refl _) ?_; intro w1 hown hgrow; obtain ⟨cur, hg1, hl1⟩ := made_row hown; have HG1 := hide hg1; have HL := hide hl1; have HB := hide ((Below.refl w.heap.size w).grown hgrow (Nat.le_refl _) (by intro k hk; cases hk)); have HX := hide (copy_src HC1.out.1 HB.out); clear hown hgrow hg1 hl1)
        | (with_reducible refine wpList_copy_splice ?_ (.tmp 48) (.tmp 49) 23 23 ?_ 4 Try.underlying23 HS4.out (some ⟨w.heap.size, 0, none⟩) (some x) lf lf lf c1 ?_ ?_ w.heap.size 0 cur 4 HG1.out ((List.range lf).map fun i => Value.bool (F i)) ?_ (fun _ => ⟨rfl, x, rfl, HX.out⟩) ?_ HO1.out w.heap.size w HB.out (Nat.le_refl _) ?_; rfl; rfl; (simp [Act.eval]); (simp [Act.eval]); (simp); (simp [HL.out]); intro w2 HR2 hB2))
      go_meet
      case rel => exact ⟨_, _, rfl, row_copied HL.out HR2.out, Nat.le_refl _, by omega, hB2⟩
  case rest =>
    obtain ⟨a1', c1', rfl, HR1, hl1, hm1, hB1⟩ := hcut
    obtain ⟨wf, rfl⟩ : ∃ wf, wf = wc := ⟨_, rfl⟩
    go_upto_if 53 with fail
    obtain ⟨i3, hi3, z30, z31, z32⟩ := info_parts Try.info3
    have HI3 : Hid (Try.prog.info? 3 = some i3 ∧ i3.zero = some (.int .i64 0) ∧ i3.size = 1 ∧ i3.bytes = 8) := ⟨hi3, z30, z31, z32⟩
    clear hi3 z30 z31 z32
    have HC2f : Hid (RowOf wf a2 lh (Value.int .i64) H) := rowOf_below HC2.out.1 hB1
    go_cut [2, 10] (fun s2 _ wx => ∃ a2' c2', s2 = .slice a2' lh c2' ∧ Hid (RowOf wx a2' lh (Value.int .i64) H) ∧ lh ≤ c2' ∧ c2' ≤ 9223372036854775807 ∧ Below wf.heap.size wf wx)
    case first =>
      cases a2 with
      | none =>
        go_wp2_with fail
        go_meet
        case rel => exact ⟨none, c2, rfl, HC2f.out, HC2.out.2.2.1, HC2.out.2.2.2, Below.refl _ _⟩
      | some x =>
        have HS3 : Hid ((Try.prog.info? 3).map (·.size) = some 1) := by exact (by kernel_rfl : (Try.prog.info? 3).map (·.size) = some 1)
        have HO1 : Hid (∀ v ∈ (List.range lh).map (fun i => Value.int .i64 (H i)), v.oneCell' = true) := fun v hv => by
          simp only [List.mem_map] at hv; obtain ⟨i, _, rfl⟩ := hv; rfl
        go_wp2_with (first
          | (at_make; refine wpList_make_full _ (by rfl) (.tmp 55) (.tmp 55) 24 (by rfl) wf.heap.size 3 i3 (.int .i64 0) 1 Try.underlying24 HI3.out.1 HI3.out.2.1 HI3.out.2.2.1 .i64 .i64 lh lh lh (by simp [Act.eval]) (by simp [Act.eval]) rfl rfl (by rw [HI3.out.2.2.2]; omega) (by unfold maxLen; omega) (Nat.le_refl _) ?_; intro w1 hown hgrow; obtain ⟨cur, hg1, hl1⟩ := made_row hown; have HG1 := hide hg1; have HL := hide hl1; have HB := hide ((Below.refl wf.heap.size wf).grown hgrow (Nat.le_refl _) (by intro k hk; cases hk)); have HX := hide (copy_src HC2f.out HB.out); clear hown hgrow hg1 hl1)
          | (with_reducible refine wpList_copy_splice ?_ (.tmp 57) (.tmp 58) 24 24 ?_ 3 Try.underlying24 HS3.out (some ⟨wf.heap.size, 0, none⟩) (some x) lh lh lh c2 ?_ ?_ wf.heap.size 0 cur 3 HG1.out ((List.range lh).map fun i => Value.int .i64 (H i)) ?_ (fun _ => ⟨rfl, x, rfl, HX.out⟩) ?_ HO1.out wf.heap.size wf HB.out (Nat.le_refl _) ?_; rfl; rfl; (simp [Act.eval]); (simp [Act.eval]); (simp); (simp [HL.out]); intro w2 HR2 hB2))
        go_meet
        case rel => exact ⟨_, _, rfl, row_copied HL.out HR2.out, Nat.le_refl _, by omega, hB2⟩
    case rest =>
      obtain ⟨a2', c2', rfl, HR2, hl2, hm2, hB2⟩ := hcut
      have HR1' : Hid (RowOf wc a1' lf Value.bool F) := rowOf_below HR1.out hB2
      have hBw : Below w.heap.size w wc := hB1.trans (hB2.mono hB1.size)
      by_cases u1 : cut < 1
      · go_wp2_with fail
        go_ret
        exact ⟨rfl, hBw⟩
      · have u2 : (n : Int) ≤ cut := by have := HCut.out; omega
        go_wp2_with fail
        go_ret
        exact ⟨rfl, hBw⟩


set_option maxRecDepth 100000 in
set_option maxHeartbeats 1000000 in
/-- The law's walk, whatever the lengths and the cut. -/
theorem law4_any (w : World) (a0 a1 a2 : Option Addr) (n c0 lf c1 lh c2 : Nat) (cut : Int) (P : Nat → List Value) (F : Nat → Bool) (H : Nat → Int)
    (h0 : CamePos w a0 n c0 P) (h1 : Came w a1 lf c1 Value.bool F) (h2 : Came w a2 lh c2 (Value.int .i64) H) (hF : ∀ i, lf ≤ i → F i = false) (hH : ∀ i, lh ≤ i → H i = 0) :
    Calls Try.prog 4 #[.slice a0 n c0, .slice a1 lf c1, .slice a2 lh c2, .int .i64 cut] w fun e w' => e = .returned (.bool true) ∧ Below w.heap.size w w' := by
  by_cases g : n ≤ 16384 ∧ lf ≤ 65536 ∧ lh ≤ 32768
  · by_cases hc : cut < 1 ∨ (n : Int) ≤ cut
    · exact law4_out w a0 a1 a2 n c0 lf c1 lh c2 cut P F H h1 h2 g.1 g.2.1 g.2.2 hc
    · obtain ⟨c, rfl⟩ : ∃ c : Nat, cut = c := ⟨cut.toNat, by omega⟩
      obtain ⟨kh, b1, b2, b3⟩ := first_or_last F c (by omega)
      obtain ⟨kt, d1, d2, d3⟩ := first_or_last (fun i => F (c + i)) (n - c) (by omega)
      cases hfk : F kh
      · have hkc : kh + 1 = c := by rcases b3 with b3 | b3
                                    · rw [hfk] at b3; cases b3
                                    · exact b3
        refine law4_core w a0 a1 a2 n c0 lf c1 lh c2 c (c + kt) kh kt P F H h1 h2 hF hH g.1 g.2.1 g.2.2 h0.2.1 h0.1 h0.2.2.1 h0.2.2.2.1 h0.2.2.2.2 (by omega) (by omega) (by omega) ?_ ?_ b1 b2 b3 d1 d2 d3 (.inr ⟨hfk, hkc, rfl⟩)
        · intro i hi
          by_cases e : i < kh
          · exact b2 i e
          · by_cases e' : i = kh
            · rw [e']; exact hfk
            · have := d2 (i - c) (by omega)
              rw [show c + (i - c) = i from by omega] at this
              exact this
        · rcases d3 with d3 | d3
          · exact .inl d3
          · exact .inr (by omega)
      · exact law4_core w a0 a1 a2 n c0 lf c1 lh c2 c kh kh kt P F H h1 h2 hF hH g.1 g.2.1 g.2.2 h0.2.1 h0.1 h0.2.2.1 h0.2.2.2.1 h0.2.2.2.2 (by omega) (by omega) (by omega) b2 (.inl hfk) b1 b2 b3 d1 d2 d3 (.inl ⟨hfk, rfl⟩)
  · have e0 : n ≤ 9223372036854775807 := Nat.le_trans h0.1 h0.2.1
    have e1 : lf ≤ 9223372036854775807 := Nat.le_trans h1.2.2.1 h1.2.2.2
    have e2 : lh ≤ 9223372036854775807 := Nat.le_trans h2.2.2.1 h2.2.2.2
    clear h0 h1 h2 hF hH
    by_cases g1 : n ≤ 16384
    · by_cases g2 : lf ≤ 65536
      · have g3 : ¬ lh ≤ 32768 := fun h => g ⟨g1, g2, h⟩
        clear g
        go_enter Try.func4, Try.ntmps4
        go_wp2_with fail
        refine (bytes10_any _ _ _ _ _ _ _ _ _ _ _ (by omega) (by omega) (by omega)).mono ?_
        rintro e w' ⟨⟨b, rfl⟩, hw⟩
        obtain rfl := hw.symm
        cases b <;> (go_wp2_with fail; go_ret; exact ⟨rfl, Below.refl _ _⟩)
      · clear g
        go_enter Try.func4, Try.ntmps4
        go_wp2_with fail
        refine (bytes10_any _ _ _ _ _ _ _ _ _ _ _ (by omega) (by omega) (by omega)).mono ?_
        rintro e w' ⟨⟨b, rfl⟩, hw⟩
        obtain rfl := hw.symm
        cases b <;> (go_wp2_with fail; go_ret; exact ⟨rfl, Below.refl _ _⟩)
    · clear g
      go_enter Try.func4, Try.ntmps4
      go_wp2_with fail
      refine (bytes10_any _ _ _ _ _ _ _ _ _ _ _ (by omega) (by omega) (by omega)).mono ?_
      rintro e w' ⟨⟨b, rfl⟩, hw⟩
      obtain rfl := hw.symm
      cases b <;> (go_wp2_with fail; go_ret; exact ⟨rfl, Below.refl _ _⟩)
end Go.Proofs.Qxb6616194a
