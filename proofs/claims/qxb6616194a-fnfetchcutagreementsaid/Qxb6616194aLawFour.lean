/-
  THE LAW FnFetchCutAgreement, WALKED (seat b6616194a).
-/
import Derived.Test.Qxb6616194aHelpFour
import Derived.WalkSpells
import Derived.Laws.CopyOwn
import Derived.Deep.DeepCutAuto
import Derived.Deep.CutBlock
import Derived.Deep.LoopGhost
import Derived.BigQuiet
import Derived.Deep.QuietTactic
namespace Go.Proofs.Qxb6616194a
open Go.ChangeShapes Go.WideShapes Go.ChangeAt Go.RowKit
set_option linter.unusedVariables false

theorem rng_below {w wx : World} {g n : Nat} {P : Nat → List Value} (h : ∀ i, i < n → w.rangeAt g (i * 32) (P i)) (hb : Below w.heap.size w wx) : ∀ i, i < n → wx.rangeAt g (i * 32) (P i) :=
  fun i hi j v hj => (hb.cell (World.block_lt_of_cell? w _ (h i hi j v hj))).trans (h i hi j v hj)
theorem pos_tail {w : World} {g n cut : Nat} {P : Nat → List Value} (hg : g < w.heap.size) (h : ∀ i, i < n → w.rangeAt g (i * 32) (P i)) (hP : ∀ i, i < n → (P i).length = 32 ∧ ∀ v ∈ P i, v.oneCell' = true) :
    PosAt w.heap.size w (some ⟨g, cut * 32, none⟩) ((List.range (n - cut)).map fun i => P (cut + i)) := by
  refine .inr ⟨g, cut * 32, rfl, hg, fun i p hp => ?_⟩
  rw [List.getElem?_map, Option.map_eq_some_iff] at hp
  obtain ⟨j, hj, rfl⟩ := hp
  obtain ⟨hlt, rfl⟩ := List.getElem?_eq_some_iff.1 hj
  simp only [List.length_range, List.getElem_range] at hlt ⊢
  refine ⟨(hP _ (by omega)).1, (hP _ (by omega)).2, ?_⟩
  rw [show cut * 32 + 32 * i = (cut + i) * 32 from by omega]; exact h _ (by omega)
theorem rowOf_tail {α : Type} {w : World} {b off cut len : Nat} {mk : α → Value} {X : Nat → α} (h : RowOf w (some ⟨b, off, none⟩) len mk X) : RowOf w (some ⟨b, off + cut, none⟩) (len - cut) mk (fun i => X (cut + i)) := fun i hi => by
  obtain ⟨b', off', e, hc⟩ := h (cut + i) (by omega)
  simp only [Option.some.injEq, Addr.mk.injEq, and_true] at e
  obtain ⟨rfl, rfl⟩ := e
  exact ⟨b, off + cut, rfl, by rw [Nat.add_assoc]; exact hc⟩

set_option maxRecDepth 100000 in
set_option maxHeartbeats 2000000 in
theorem law4_core (w : World) (a0 a1 a2 : Option Addr) (n c0 lf c1 lh c2 cut kw kh kt : Nat) (P : Nat → List Value) (F : Nat → Bool) (H : Nat → Int)
    (h1 : Came w a1 lf c1 Value.bool F) (h2 : Came w a2 lh c2 (Value.int .i64) H) (hF : ∀ i, lf ≤ i → F i = false) (hH : ∀ i, lh ≤ i → H i = 0) (hn : n ≤ 16384) (hlf : lf ≤ 65536) (hlh : lh ≤ 32768) (hc0 : c0 ≤ 9223372036854775807) (hcap : n ≤ c0) (hnil : a0 = none → n = 0 ∧ c0 = 0)
    (hPB : ∀ i, i < n → Byt (P i)) (hP : n = 0 ∨ ∃ b off, a0 = some ⟨b, off, none⟩ ∧ ∀ i, i < n → (P i).length = 32 ∧ (∀ v ∈ P i, v.oneCell' = true) ∧ w.rangeAt b (off + i * 32) (P i))
    (hc1 : 1 ≤ cut) (hc2 : cut < n) (hkw : kw < n) (hkw1 : ∀ i, i < kw → F i = false) (hkw2 : F kw = true ∨ kw + 1 = n) (hkh : kh < cut) (hkh1 : ∀ i, i < kh → F i = false) (hkh2 : F kh = true ∨ kh + 1 = cut)
    (hkt : kt < n - cut) (hkt1 : ∀ i, i < kt → F (cut + i) = false) (hkt2 : F (cut + kt) = true ∨ kt + 1 = n - cut)
    (hcase : (F kh = true ∧ kw = kh) ∨ (F kh = false ∧ kh + 1 = cut ∧ kw = cut + kt)) :
    Calls Try.prog 4 #[.slice a0 n c0, .slice a1 lf c1, .slice a2 lh c2, .int .i64 cut] w fun e w' => e = .returned (.bool true) ∧ Below w.heap.size w w' := by
  have q23 : ∀ (w : World) (a : Option Addr) (n c n' c' : Nat), (binOp .neq 23 (.slice a n c) (.slice none n' c')).run Try.prog w = .ok (.bool (!a.isNone)) w := fun w a n c n' c' => run_neq_slice_nil_any w _ _ a n c n' c' Try.underlying23
  have q24 : ∀ (w : World) (a : Option Addr) (n c n' c' : Nat), (binOp .neq 24 (.slice a n c) (.slice none n' c')).run Try.prog w = .ok (.bool (!a.isNone)) w := fun w a n c n' c' => run_neq_slice_nil_any w _ _ a n c n' c' Try.underlying24
  have HC1 := hide h1
  have HC2 := hide h2
  have HF := hide hF
  have HH := hide hH
  have HP := hide hP
  have Hnil := hide hnil
  have HPB := hide hPB
  have HW1 := hide hkw1
  have HW2 := hide hkw2
  have HH1 := hide hkh1
  have HH2 := hide hkh2
  have HT1 := hide hkt1
  have HT2 := hide hkt2
  have HCa := hide hcase
  clear h1 h2 hF hH hP hnil hPB hkw1 hkw2 hkh1 hkh2 hkt1 hkt2 hcase
  go_enter Try.func4, Try.ntmps4
  go_wp2_with fail
  refine (bytes10_any _ _ _ _ _ _ _ _ _ _ _ (by omega) (by omega) (by omega)).mono ?_
  rintro e w' ⟨⟨b, rfl⟩, hw⟩
  obtain rfl := hw.symm
  cases b
  · go_wp2_with fail
    go_ret
    exact ⟨rfl, Below.refl _ _⟩
  have d0 : decide ((16384 : Int) < (n : Int)) = false := by simp; omega
  have d1 : decide ((65536 : Int) < (lf : Int)) = false := by simp; omega
  have d2 : decide ((32768 : Int) < (lh : Int)) = false := by simp; omega
  go_upto_if 44 with fail
  obtain ⟨i4, hi4, z40, z41, z42⟩ := info_parts Try.info4
  have HI4 : Hid (Try.prog.info? 4 = some i4 ∧ i4.zero = some (.bool false) ∧ i4.size = 1 ∧ i4.bytes = 1) := ⟨hi4, z40, z41, z42⟩
  clear hi4 z40 z41 z42
  go_cut [1, 9] (fun s1 _ wx => ∃ a1' c1', s1 = .slice a1' lf c1' ∧ Hid (RowOf wx a1' lf Value.bool F) ∧ lf ≤ c1' ∧ c1' ≤ 9223372036854775807 ∧ Below w.heap.size w wx)
  case first =>
    cases a1 with
    | none =>
      go_wp2_with fail
      go_meet
      case rel => exact ⟨none, c1, rfl, HC1.out.1, HC1.out.2.2.1, HC1.out.2.2.2, Below.refl _ _⟩
    | some x =>
      have HS4 : Hid ((Try.prog.info? 4).map (·.size) = some 1) := by exact (by kernel_rfl : (Try.prog.info? 4).map (·.size) = some 1)
      have HO1 : Hid (∀ v ∈ (List.range lf).map (fun i => Value.bool (F i)), v.oneCell' = true) := fun v hv => by
        simp only [List.mem_map] at hv; obtain ⟨i, _, rfl⟩ := hv; rfl
      go_wp2_with (first
        | (at_make; refine wpList_make_full _ (by rfl) (.tmp 46) (.tmp 46) 23 (by rfl) w.heap.size 4 i4 (.bool false) 1 Try.underlying23 HI4.out.1 HI4.out.2.1 HI4.out.2.2.1 .i64 .i64 lf lf lf (by simp [Act.eval]) (by simp [Act.eval]) rfl rfl (by rw [HI4.out.2.2.2]; omega) (by unfold maxLen; omega) (Nat.le_refl _) ?_; intro w1 hown hgrow; obtain ⟨cur, hg1, hl1⟩ := made_row hown; have HG1 := hide hg1; have HL := hide hl1; have HB := hide ((Below.refl w.heap.size w).grown hgrow (Nat.le_refl _) (by intro k hk; cases hk)); have HX := hide (copy_src HC1.out.1 HB.out); clear hown hgrow hg1 hl1)
        | (with_reducible refine wpList_copy_splice ?_ (.tmp 48) (.tmp 49) 23 23 ?_ 4 Try.underlying23 HS4.out (some ⟨w.heap.size, 0, none⟩) (some x) lf lf lf c1 ?_ ?_ w.heap.size 0 cur 4 HG1.out ((List.range lf).map fun i => Value.bool (F i)) ?_ (fun _ => ⟨rfl, x, rfl, HX.out⟩) ?_ HO1.out w.heap.size w HB.out (Nat.le_refl _) ?_; rfl; rfl; (simp [Act.eval]); (simp [Act.eval]); (simp); (simp [HL.out]); intro w2 HR2 hB2))
      go_meet
      case rel => exact ⟨_, _, rfl, row_copied HL.out HR2.out, Nat.le_refl _, by omega, hB2⟩
  case rest =>
    obtain ⟨a1', c1', rfl, HR1, hl1, hm1, hB1⟩ := hcut
    obtain ⟨wf, rfl⟩ : ∃ wf, wf = wc := ⟨_, rfl⟩
    go_upto_if 53 with fail
    obtain ⟨i3, hi3, z30, z31, z32⟩ := info_parts Try.info3
    have HI3 : Hid (Try.prog.info? 3 = some i3 ∧ i3.zero = some (.int .i64 0) ∧ i3.size = 1 ∧ i3.bytes = 8) := ⟨hi3, z30, z31, z32⟩
    clear hi3 z30 z31 z32
    have HC2f : Hid (RowOf wf a2 lh (Value.int .i64) H) := rowOf_below HC2.out.1 hB1
    go_cut [2, 10] (fun s2 _ wx => ∃ a2' c2', s2 = .slice a2' lh c2' ∧ Hid (RowOf wx a2' lh (Value.int .i64) H) ∧ lh ≤ c2' ∧ c2' ≤ 9223372036854775807 ∧ Below wf.heap.size wf wx)
    case first =>
      cases a2 with
      | none =>
        go_wp2_with fail
        go_meet
        case rel => exact ⟨none, c2, rfl, HC2f.out, HC2.out.2.2.1, HC2.out.2.2.2, Below.refl _ _⟩
      | some x =>
        have HS3 : Hid ((Try.prog.info? 3).map (·.size) = some 1) := by exact (by kernel_rfl : (Try.prog.info? 3).map (·.size) = some 1)
        have HO1 : Hid (∀ v ∈ (List.range lh).map (fun i => Value.int .i64 (H i)), v.oneCell' = true) := fun v hv => by
          simp only [List.mem_map] at hv; obtain ⟨i, _, rfl⟩ := hv; rfl
        go_wp2_with (first
          | (at_make; refine wpList_make_full _ (by rfl) (.tmp 55) (.tmp 55) 24 (by rfl) wf.heap.size 3 i3 (.int .i64 0) 1 Try.underlying24 HI3.out.1 HI3.out.2.1 HI3.out.2.2.1 .i64 .i64 lh lh lh (by simp [Act.eval]) (by simp [Act.eval]) rfl rfl (by rw [HI3.out.2.2.2]; omega) (by unfold maxLen; omega) (Nat.le_refl _) ?_; intro w1 hown hgrow; obtain ⟨cur, hg1, hl1⟩ := made_row hown; have HG1 := hide hg1; have HL := hide hl1; have HB := hide ((Below.refl wf.heap.size wf).grown hgrow (Nat.le_refl _) (by intro k hk; cases hk)); have HX := hide (copy_src HC2f.out HB.out); clear hown hgrow hg1 hl1)
          | (with_reducible refine wpList_copy_splice ?_ (.tmp 57) (.tmp 58) 24 24 ?_ 3 Try.underlying24 HS3.out (some ⟨wf.heap.size, 0, none⟩) (some x) lh lh lh c2 ?_ ?_ wf.heap.size 0 cur 3 HG1.out ((List.range lh).map fun i => Value.int .i64 (H i)) ?_ (fun _ => ⟨rfl, x, rfl, HX.out⟩) ?_ HO1.out wf.heap.size wf HB.out (Nat.le_refl _) ?_; rfl; rfl; (simp [Act.eval]); (simp [Act.eval]); (simp); (simp [HL.out]); intro w2 HR2 hB2))
        go_meet
        case rel => exact ⟨_, _, rfl, row_copied HL.out HR2.out, Nat.le_refl _, by omega, hB2⟩
    case rest =>
      obtain ⟨a2', c2', rfl, HR2, hl2, hm2, hB2⟩ := hcut
      have HR1' : Hid (RowOf wc a1' lf Value.bool F) := rowOf_below HR1.out hB2
      have hBw : Below w.heap.size w wc := hB1.trans (hB2.mono hB1.size)
      have HPw := hide (pos_below HP.out hBw)
      have u1 : ¬ (cut : Int) < 1 := by omega
      have u2 : ¬ (n : Int) ≤ (cut : Int) := by omega
      go_wp2_with fail
      refine (ids_all wc a0 n c0 P (by omega) (by omega) Hnil.out HPw.out).mono ?_
      rintro e wi ⟨ai, rfl, hpi, hBi⟩
      obtain ⟨gi, hai, hgi, RI⟩ : ∃ g, ai = some ⟨g, 0, none⟩ ∧ g < wi.heap.size ∧ ∀ i, i < n → wi.rangeAt g (i * 32) (P i) := by
        rcases hpi with h | h
        · omega
        · exact h
      subst hai
      have HRI := hide RI
      have HR1i : Hid (RowOf wi a1' lf Value.bool F) := rowOf_below HR1'.out hBi
      have HR2i : Hid (RowOf wi a2' lh (Value.int .i64) H) := rowOf_below HR2.out hBi
      have hBwi : Below w.heap.size w wi := hBw.trans (hBi.mono hBw.size)
      clear hpi RI hB1 hB2 hBi hBw HR1 HR1' HR2 HPw HC1 HC2 HC2f
      go_wp2_with fail
      refine (zz_at P n kw wi (some ⟨gi, 0, none⟩) a1' a2' n lf c1' lh c2' F H HR1i.out HR2i.out HF.out HH.out (by omega) (by omega) (pos_list (.inr ⟨gi, rfl, hgi, HRI.out⟩) (fun i hi => ⟨(HPB.out i hi).1, (HPB.out i hi).one⟩)) (fun i hi => (HPB.out i hi).1) (by omega) (by omega) (by omega) hkw HW1.out HW2.out).mono ?_
      rintro e wz ⟨gw, cpw, rfl, RW, hBz⟩
      have HRW := hide RW
      have HR1z : Hid (RowOf wz a1' lf Value.bool F) := rowOf_below HR1i.out hBz
      have HR2z : Hid (RowOf wz a2' lh (Value.int .i64) H) := rowOf_below HR2i.out hBz
      have HRIz : Hid (∀ i, i < n → wz.rangeAt gi (i * 32) (P i)) := fun i hi j v hj => (hBz.cell hgi).trans (HRI.out i hi j v hj)
      have hgz : gi < wz.heap.size := Nat.lt_of_lt_of_le hgi hBz.size
      have hBwz : Below w.heap.size w wz := hBwi.trans (hBz.mono hBwi.size)
      clear RW hBz hBwi HRI HR1i HR2i hgi
      go_wp2_with fail
      obtain ⟨wa, hwa⟩ : ∃ wa, wz.alloc (.cells #[.bool true, .bool (F kw), .slice none 0 0, .int .i64 (H kw), .slice none 0 0] 31) = wa := ⟨_, rfl⟩
      rw [hwa]
      have ba : Below wz.heap.size wz wa := by rw [← hwa]; exact (Below.refl _ _).alloc (Nat.le_refl _) _
      have HR1a : Hid (RowOf wa a1' lf Value.bool F) := rowOf_below HR1z.out ba
      have HR2a : Hid (RowOf wa a2' lh (Value.int .i64) H) := rowOf_below HR2z.out ba
      have HRIa := hide (rng_below HRIz.out ba)
      have HRWa := hide (rng_below HRW.out ba)
      have HGa : Hid (wa.heap[wz.heap.size]? = some (.cells #[.bool true, .bool (F kw), .slice none 0 0, .int .i64 (H kw), .slice none 0 0] 31 (0, 0))) := by rw [← hwa]; exact heap_alloc_new wz _
      have hga : gi < wa.heap.size := Nat.lt_of_lt_of_le hgz ba.size
      have hBwa : Below w.heap.size w wa := hBwz.trans (ba.mono hBwz.size)
      clear ba HR1z HR2z HRIz HRW hgz hBwz hwa
      refine (zz_at P cut kh wa (some ⟨gi, 0, none⟩) a1' a2' n lf c1' lh c2' F H HR1a.out HR2a.out HF.out HH.out (by omega) (by omega) (pos_list (.inr ⟨gi, rfl, hga, fun i hi => HRIa.out i (by omega)⟩) (fun i hi => ⟨(HPB.out i (by omega)).1, (HPB.out i (by omega)).one⟩)) (fun i hi => (HPB.out i (by omega)).1) (by omega) (by omega) (by omega) hkh HH1.out HH2.out).mono ?_
      rintro e wy ⟨gh, cph, rfl, RH, hBy⟩
      have HRH := hide RH
      clear RH
      go_upto_if 93 with fail
      go_name_world wb hwb
      have by' : Below wy.heap.size wy wb := by rw [← hwb]; exact (Below.refl _ _).alloc (Nat.le_refl _) _
      have bb : Below wa.heap.size wa wb := hBy.trans (by'.mono hBy.size)
      have HR1b : Hid (RowOf wb a1' lf Value.bool F) := rowOf_below HR1a.out bb
      have HR2b : Hid (RowOf wb a2' lh (Value.int .i64) H) := rowOf_below HR2a.out bb
      have HRIb := hide (rng_below HRIa.out bb)
      have HRWb := hide (rng_below HRWa.out bb)
      have HRHb := hide (rng_below HRH.out by')
      have HGb : Hid (wb.heap[wz.heap.size]? = some (.cells #[.bool true, .bool (F kw), .slice none 0 0, .int .i64 (H kw), .slice none 0 0] 31 (0, 0))) := (bb.block _ (lt_of_heap HGa.out)).trans HGa.out
      have HKb : Hid (wb.heap[wy.heap.size]? = some (.cells #[.bool true, .bool (F kh), .slice none 0 0, .int .i64 (H kh), .slice none 0 0] 31 (0, 0))) := by rw [← hwb]; exact heap_alloc_new wy _
      have hgb : gi < wb.heap.size := Nat.lt_of_lt_of_le hga bb.size
      have hBwb : Below w.heap.size w wb := hBwa.trans (bb.mono hBwa.size)
      clear bb by' hBy HR1a HR2a HRIa HRWa HRH HGa hga hBwa hwb
      go_cut [19] (fun s19 wx => ∃ a3 l3 c3, s19 = .slice a3 l3 c3 ∧ Hid (RowOf wx a3 l3 Value.bool (fun i => F (cut + i))) ∧ Hid (∀ i, l3 ≤ i → F (cut + i) = false) ∧ l3 ≤ 65536 ∧ wb = wx)
      case first =>
        by_cases hcf : cut < lf
        · obtain ⟨b, off, ha, _⟩ := HR1b.out cut hcf
          subst ha
          have v1 : (cut : Int) < (lf : Int) := by omega
          have v2 : ¬ c1' = cut := by omega
          have v3 : (cut : Int) ≤ (lf : Int) := by omega
          have v4 : (lf : Int) ≤ (c1' : Int) := by omega
          go_wp2_with fail
          go_meet
          case rel => exact ⟨_, _, _, rfl, rowOf_tail HR1b.out, fun i hi => HF.out _ (by omega), by omega, rfl⟩
        · go_wp2_with fail
          go_meet
          case rel => exact ⟨none, 0, 0, rfl, fun i hi => by omega, fun i hi => HF.out _ (by omega), by omega, rfl⟩
      case rest =>
        obtain ⟨a3, l3, c3, rfl, HR3, HF3, hl3, rfl⟩ := hcut
        go_upto_if 100 with fail
        go_cut [20] (fun s20 wx => ∃ a4 l4 c4, s20 = .slice a4 l4 c4 ∧ Hid (RowOf wx a4 l4 (Value.int .i64) (fun i => H (cut + i))) ∧ Hid (∀ i, l4 ≤ i → H (cut + i) = 0) ∧ l4 ≤ 65536 ∧ wb = wx)
        case first =>
          by_cases hcf : cut < lh
          · obtain ⟨b, off, ha, _⟩ := HR2b.out cut hcf
            subst ha
            have v1 : (cut : Int) < (lh : Int) := by omega
            have v2 : ¬ c2' = cut := by omega
            have v3 : (cut : Int) ≤ (lh : Int) := by omega
            have v4 : (lh : Int) ≤ (c2' : Int) := by omega
            go_wp2_with fail
            go_meet
            case rel => exact ⟨_, _, _, rfl, rowOf_tail HR2b.out, fun i hi => HH.out _ (by omega), by omega, rfl⟩
          · go_wp2_with fail
            go_meet
            case rel => exact ⟨none, 0, 0, rfl, fun i hi => by omega, fun i hi => HH.out _ (by omega), by omega, rfl⟩
        case rest =>
          obtain ⟨a4, l4, c4, rfl, HR4, HF4, hl4, rfl⟩ := hcut
          have v1 : (cut : Int) ≤ (n : Int) := by omega
          have v2 : ¬ n = cut := by omega
          go_wp2_with fail
          refine (zz_at (fun i => P (cut + i)) (n - cut) kt wb (some ⟨gi, cut * 32, none⟩) a3 a4 (n - cut) l3 c3 l4 c4 (fun i => F (cut + i)) (fun i => H (cut + i)) HR3.out HR4.out HF3.out HF4.out (by omega) (by omega) (pos_tail hgb HRIb.out (fun i hi => ⟨(HPB.out i hi).1, (HPB.out i hi).one⟩)) (fun i hi => (HPB.out _ (by omega)).1) (by omega) (by omega) (by omega) hkt HT1.out HT2.out).mono ?_
          rintro e wt ⟨gt, cpt, rfl, RT, hBt⟩
          have HRT := hide RT
          clear RT
          go_upto_region 30 with fail
          go_name_world wc hwc
          have bt : Below wt.heap.size wt wc := by rw [← hwc]; exact (Below.refl _ _).alloc (Nat.le_refl _) _
          have bc : Below wb.heap.size wb wc := hBt.trans (bt.mono hBt.size)
          have HR1c : Hid (RowOf wc a1' lf Value.bool F) := rowOf_below HR1b.out bc
          have HR2c : Hid (RowOf wc a2' lh (Value.int .i64) H) := rowOf_below HR2b.out bc
          have HRWc := hide (rng_below HRWb.out bc)
          have HRHc := hide (rng_below HRHb.out bc)
          have HRTc := hide (rng_below HRT.out bt)
          have HGc : Hid (wc.heap[wz.heap.size]? = some (.cells #[.bool true, .bool (F kw), .slice none 0 0, .int .i64 (H kw), .slice none 0 0] 31 (0, 0))) := (bc.block _ (lt_of_heap HGb.out)).trans HGb.out
          have HKc : Hid (wc.heap[wy.heap.size]? = some (.cells #[.bool true, .bool (F kh), .slice none 0 0, .int .i64 (H kh), .slice none 0 0] 31 (0, 0))) := (bc.block _ (lt_of_heap HKb.out)).trans HKb.out
          have HTc : Hid (wc.heap[wt.heap.size]? = some (.cells #[.bool true, .bool (F (cut + kt)), .slice none 0 0, .int .i64 (H (cut + kt)), .slice none 0 0] 31 (0, 0))) := by rw [← hwc]; exact heap_alloc_new wt _
          have hBwc : Below w.heap.size w wc := hBwb.trans (bc.mono hBwb.size)
          clear bt bc hBt HR1b HR2b HRIb HRWb HRHb HRT HGb HKb hgb hBwb hwc HR3 HR4 HF3 HF4 hl3 hl4
          obtain ⟨g0, g1, g2, g3, g4, _⟩ := five_cell HGc.out
          obtain ⟨k0, k1, k2, k3, k4, _⟩ := five_cell HKc.out
          obtain ⟨t0, t1, t2, t3, t4, _⟩ := five_cell HTc.out
          have x1 : decide ((kw : Int) < 0) = false := by simp
          go_upto_region 35 with fail
          have C8 : ∀ q' : Nat, Calls Try.prog 8 #[.slice a1' lf c1', .int .i64 kw] (wc.drewN q') fun e w' => e = .returned (.bool (F kw)) ∧ w' = wc.drewN q' := fun q' => foundAt_any (wc.drewN q') a1' lf c1' F HR1c.out HF.out (by omega) kw (by omega)
          have C9 : ∀ q' : Nat, Calls Try.prog 9 #[.slice a2' lh c2', .int .i64 kw] (wc.drewN q') fun e w' => e = .returned (.int .i64 (H kw)) ∧ w' = wc.drewN q' := fun q' => hopsAt_any (wc.drewN q') a2' lh c2' H HR2c.out HH.out (by omega) kw (by omega)
          have HC8 := hide C8
          have HC9 := hide C9
          have e1 : (F kw != F kw) = false := by simp
          have e2 : (H kw != H kw) = false := by simp
          clear C8 C9
          go_quiet ((first | (go_at_call 8; exact Calls.quiet_of_same (HC8.out _)) | (go_at_call 9; exact Calls.quiet_of_same (HC9.out _))))
          clear HC8 HC9 HR1c HR2c
          go_upto_region 37 with fail
          rcases HCa.out with ⟨cA, cE⟩ | ⟨cB, cC, cE⟩
          · have a1 : kw ≤ kh := by omega
            have a2 : kh ≤ kw := by omega
            rw [cA] at k1
            rw [cE, cA] at g1
            rw [← cE] at k3
            clear cA cE e1 e2 HGc HKc HTc t0 t1 t2 t3 t4 HCa
            go_wp2_with fail
            go_loopw [25] (fun s wx => ∃ i q : Nat, s = .int .i64 i ∧ i ≤ (kh + 1) ∧ wx = wc.drewN q) (fun s _ => (kh + 1) - (intOf s).toNat)
            case atStart => exact ⟨0, nq, rfl, by omega, rfl⟩
            case round =>
              obtain ⟨i, q, rfl, hi, rfl⟩ := hrel
              by_cases hlt : i < (kh + 1)
              · obtain ⟨p, hp⟩ : ∃ p, p = P i := ⟨_, rfl⟩
                have hB : Byt p := by rw [hp]; exact HPB.out _ (by omega)
                have r1 : wc.rangeAt gw (i * 32) p := by rw [hp]; exact HRWc.out i (by omega)
                have r2 : wc.rangeAt gh (i * 32) p := by rw [hp]; exact HRHc.out i (by omega)
                have hu36 := Try.underlying36
                have hi36 : (Try.prog.info? 36).map (·.size) = some p.length := by rw [hB.1]; kernel_rfl
                have hneq := run_neq_byt Try.underlying36 Try.cells36 Try.key36 hB
                have hg36 : Try.prog.eqGuardType Try.prog.depth 36 = false := by kernel_rfl
                have j1 : (0 : Int) ≤ (i : Int) := by omega
                have j2 : (i : Int) < (kw : Int) + 1 := by omega
                have j3 : (i : Int) < (kh : Int) + 1 := by omega
                clear hp hB
                go_wp2_with fail
                refine wp_region_quiet_lit (by kernel_rfl) (by kernel_rfl) ?_
                iterate 3 go_big_quiet_step (fail)
                refine wpQuiet_load_mid rfl 36 (.tmp 163) rfl gw (i * 32) (by simp [Act.eval]) p _ (fun w' hw' => by obtain ⟨q', rfl⟩ := hw'; exact r1) hu36 rfl hi36 ?_
                simp only [Act.put, List.setIfInBounds_toArray, List.set_cons_zero, List.set_cons_succ]
                iterate 3 go_big_quiet_step (fail)
                refine wpQuiet_load_mid rfl 36 (.tmp 167) rfl gh (i * 32) (by simp [Act.eval]) p _ (fun w' hw' => by obtain ⟨q', rfl⟩ := hw'; exact r2) hu36 rfl hi36 ?_
                simp only [Act.put, List.setIfInBounds_toArray, List.set_cons_zero, List.set_cons_succ]
                go_big_quiet_step (fail)
                refine wpQuiet_nil ?_
                intro _ hw'
                obtain ⟨nq', hw''⟩ := hw'
                subst hw''
                go_wp2_with fail
                go_roundw
                case rel => exact ⟨i + 1, q + nq', by go_num, by omega, rfl⟩
                case measure => simp [intOf]; omega
              · go_wp2_with fail
                refine (same_any _ true (H kw)).mono ?_
                rintro e we ⟨rfl, hBe⟩
                go_wp2_with fail
                go_ret
                refine ⟨rfl, ?_⟩
                have hBd : Below w.heap.size w (wc.drewN q) := ⟨hBwc.os, hBwc.tape, hBwc.output, hBwc.size, hBwc.block⟩
                exact hBd.trans (hBe.mono hBd.size)
          · have a1 : kw ≤ cut + kt := by omega
            have a2 : cut + kt ≤ kw := by omega
            have a3 : kh + 1 ≤ cut := by omega
            have a4 : cut ≤ kh + 1 := by omega
            rw [cB] at k1
            rw [← cE] at t1 t3
            clear cB cC cE HGc HKc HTc k0 k2 k3 k4 HCa
            go_wp2_with fail
            go_loopw [26] (fun s wx => ∃ i q : Nat, s = .int .i64 i ∧ i ≤ (kh + 1) ∧ wx = wc.drewN q) (fun s _ => (kh + 1) - (intOf s).toNat)
            case atStart => exact ⟨0, nq, rfl, by omega, rfl⟩
            case round =>
              obtain ⟨i, q, rfl, hi, rfl⟩ := hrel
              by_cases hlt : i < (kh + 1)
              · obtain ⟨p, hp⟩ : ∃ p, p = P i := ⟨_, rfl⟩
                have hB : Byt p := by rw [hp]; exact HPB.out _ (by omega)
                have r1 : wc.rangeAt gw (i * 32) p := by rw [hp]; exact HRWc.out i (by omega)
                have r2 : wc.rangeAt gh (i * 32) p := by rw [hp]; exact HRHc.out i (by omega)
                have hu36 := Try.underlying36
                have hi36 : (Try.prog.info? 36).map (·.size) = some p.length := by rw [hB.1]; kernel_rfl
                have hneq := run_neq_byt Try.underlying36 Try.cells36 Try.key36 hB
                have hg36 : Try.prog.eqGuardType Try.prog.depth 36 = false := by kernel_rfl
                have j1 : (0 : Int) ≤ (i : Int) := by omega
                have j2 : (i : Int) < (kw : Int) + 1 := by omega
                have j3 : (i : Int) < (kh : Int) + 1 := by omega
                clear hp hB
                go_wp2_with fail
                refine wp_region_quiet_lit (by kernel_rfl) (by kernel_rfl) ?_
                iterate 3 go_big_quiet_step (fail)
                refine wpQuiet_load_mid rfl 36 (.tmp 189) rfl gw (i * 32) (by simp [Act.eval]) p _ (fun w' hw' => by obtain ⟨q', rfl⟩ := hw'; exact r1) hu36 rfl hi36 ?_
                simp only [Act.put, List.setIfInBounds_toArray, List.set_cons_zero, List.set_cons_succ]
                iterate 3 go_big_quiet_step (fail)
                refine wpQuiet_load_mid rfl 36 (.tmp 193) rfl gh (i * 32) (by simp [Act.eval]) p _ (fun w' hw' => by obtain ⟨q', rfl⟩ := hw'; exact r2) hu36 rfl hi36 ?_
                simp only [Act.put, List.setIfInBounds_toArray, List.set_cons_zero, List.set_cons_succ]
                go_big_quiet_step (fail)
                refine wpQuiet_nil ?_
                intro _ hw'
                obtain ⟨nq', hw''⟩ := hw'
                subst hw''
                go_wp2_with fail
                go_roundw
                case rel => exact ⟨i + 1, q + nq', by go_num, by omega, rfl⟩
                case measure => simp [intOf]; omega
              · go_wp2_with fail
                go_loopw [27] (fun s wx => ∃ j q : Nat, s = .int .i64 j ∧ j ≤ (kt + 1) ∧ wx = wc.drewN q) (fun s _ => (kt + 1) - (intOf s).toNat)
                case atStart => exact ⟨0, q, rfl, by omega, rfl⟩
                case round =>
                  obtain ⟨j, q2, rfl, hi2, rfl⟩ := hrel
                  by_cases hlt : j < (kt + 1)
                  · obtain ⟨p, hp⟩ : ∃ p, p = P (cut + j) := ⟨_, rfl⟩
                    have hB : Byt p := by rw [hp]; exact HPB.out _ (by omega)
                    have r1 : wc.rangeAt gw ((kh + 1 + j) * 32) p := by rw [hp]; rw [show kh + 1 + j = cut + j from by omega]; exact HRWc.out (cut + j) (by omega)
                    have r2 : wc.rangeAt gt (j * 32) p := by rw [hp]; exact HRTc.out j (by omega)
                    have hu36 := Try.underlying36
                    have hi36 : (Try.prog.info? 36).map (·.size) = some p.length := by rw [hB.1]; kernel_rfl
                    have hneq := run_neq_byt Try.underlying36 Try.cells36 Try.key36 hB
                    have hg36 : Try.prog.eqGuardType Try.prog.depth 36 = false := by kernel_rfl
                    have j1 : (0 : Int) ≤ (j : Int) := by omega
                    have j2 : (kh : Int) + 1 + (j : Int) < (kw : Int) + 1 := by omega
                    have j3 : (j : Int) < (kt : Int) + 1 := by omega
                    have j4 : (0 : Int) ≤ (kh : Int) + 1 + (j : Int) := by omega
                    clear hp hB
                    go_wp2_with fail
                    refine wp_region_quiet_lit (by kernel_rfl) (by kernel_rfl) ?_
                    iterate 6 go_big_quiet_step (fail)
                    refine wpQuiet_load_mid rfl 36 (.tmp 207) rfl gw ((kh + 1 + j) * 32) (by simp [Act.eval]) p _ (fun w' hw' => by obtain ⟨q', rfl⟩ := hw'; exact r1) hu36 rfl hi36 ?_
                    simp only [Act.put, List.setIfInBounds_toArray, List.set_cons_zero, List.set_cons_succ]
                    iterate 3 go_big_quiet_step (fail)
                    refine wpQuiet_load_mid rfl 36 (.tmp 211) rfl gt (j * 32) (by simp [Act.eval]) p _ (fun w' hw' => by obtain ⟨q', rfl⟩ := hw'; exact r2) hu36 rfl hi36 ?_
                    simp only [Act.put, List.setIfInBounds_toArray, List.set_cons_zero, List.set_cons_succ]
                    go_big_quiet_step (fail)
                    refine wpQuiet_nil ?_
                    intro _ hw'
                    obtain ⟨nq', hw''⟩ := hw'
                    subst hw''
                    go_wp2_with fail
                    go_roundw
                    case rel => exact ⟨j + 1, q2 + nq', by go_num, by omega, rfl⟩
                    case measure => simp [intOf]; omega
                  · go_wp2_with fail
                    refine (same_any _ (F kw) (H kw)).mono ?_
                    rintro e we ⟨rfl, hBe⟩
                    go_wp2_with fail
                    go_ret
                    refine ⟨rfl, ?_⟩
                    have hBd : Below w.heap.size w (wc.drewN q2) := ⟨hBwc.os, hBwc.tape, hBwc.output, hBwc.size, hBwc.block⟩
                    exact hBd.trans (hBe.mono hBd.size)
end Go.Proofs.Qxb6616194a
