/-
  FnBulkFramesReadBack BY ITS CONTRACT (seat b6616642aF): for every two slices of bytes it returns true; the blocks that came in are as they were.
-/
import Derived.Test.Qxb6616642aFmtLawNull
namespace Go.Proofs.Qxb6616642aFmt
open Go.Shelf Go.RowKit

theorem bytes8_ok (a0 a1 : Option Addr) (n m c0 c1 : Nat) (w : World) (h : n + m ≤ 1048576) : Calls Tryf.prog 8 #[.slice a0 n c0, .slice a1 m c1] w fun e w' => e = .returned (.bool true) ∧ w' = w := by
  have b1 : ¬ (1048576 : Int) < (n : Int) := by omega
  have b2 : ¬ (1048576 : Int) < (m : Int) := by omega
  have b3 : ¬ (1048576 : Int) < (n : Int) + (m : Int) := by omega
  go_enter Tryf.func8, Tryf.ntmps8
  go_wp2
  go_ret
  exact ⟨rfl, rfl⟩
theorem bytes8_no (a0 a1 : Option Addr) (n m c0 c1 : Nat) (w : World) (h : ¬ n + m ≤ 1048576) : Calls Tryf.prog 8 #[.slice a0 n c0, .slice a1 m c1] w fun e w' => e = .returned (.bool false) ∧ w' = w := by
  by_cases h1 : n ≤ 1048576
  · by_cases h2 : m ≤ 1048576
    · have b1 : ¬ (1048576 : Int) < (n : Int) := by omega
      have b2 : ¬ (1048576 : Int) < (m : Int) := by omega
      have b3 : (1048576 : Int) < (n : Int) + (m : Int) := by omega
      go_enter Tryf.func8, Tryf.ntmps8
      go_wp2
      go_ret
      exact ⟨rfl, rfl⟩
    · have b1 : ¬ (1048576 : Int) < (n : Int) := by omega
      have b2 : (1048576 : Int) < (m : Int) := by omega
      go_enter Tryf.func8, Tryf.ntmps8
      go_wp2
      go_ret
      exact ⟨rfl, rfl⟩
  · have b1 : (1048576 : Int) < (n : Int) := by omega
    go_enter Tryf.func8, Tryf.ntmps8
    go_wp2
    go_ret
    exact ⟨rfl, rfl⟩

set_option maxHeartbeats 4000000 in
set_option maxRecDepth 100000 in
/-- FnBulkFramesReadBack, within the bounds. -/
theorem law_bulk_in (a0 a1 : Option Addr) (n m c0 c1 sb so tb tp : Nat) (cs ds : List Int) (w : World) (hn : cs.length = n) (hm : ds.length = m) (hc : n ≤ c0) (hcm : c0 ≤ maxLen) (hd : m ≤ c1) (hdm : c1 ≤ maxLen)
    (hao : 0 < n → a0 = some ⟨sb, so, none⟩ ∧ sb < w.heap.size ∧ w.rangeAt sb so (ic cs)) (hbo : 0 < m → a1 = some ⟨tb, tp, none⟩ ∧ tb < w.heap.size ∧ w.rangeAt tb tp (ic ds)) (htab : TabK w.heap.size w) (h1 : n ≤ 524288) (h2 : m ≤ 524288) :
    Calls Tryf.prog 3 #[.slice a0 n c0, .slice a1 m c1] w fun e w' => e = .returned (.bool true) ∧ Kp w.heap.size w w' := by
  have b1 : ¬ (524288 : Int) < (n : Int) := by omega
  have b2 : ¬ (524288 : Int) < (m : Int) := by omega
  have HA := hide hao
  have HB := hide hbo
  have HT := hide htab
  clear hao hbo htab
  go_enter Tryf.func3, Tryf.ntmps3
  go_wp2_with (first | (go_at_call 8; refine (bytes8_ok a0 a1 n m c0 c1 _ (by omega)).mono ?_; rintro e w' ⟨rfl, rfl⟩) | (go_at_call 9; refine (zznew_any _).mono ?_))
  rintro e w1 ⟨rfl, hS1, hK1⟩
  obtain ⟨N, hN⟩ : ∃ N, w'.heap.size = N := ⟨_, rfl⟩
  rw [hN] at hS1 hK1 HT HA HB
  have HK1 := hide hK1
  have R1 := hide (wbulk_any N [] [] cs sb so n c0 a0 w1 hS1 hn (by omega) hc hcm (fun h => ⟨(HA.out h).1, (HA.out h).2.1, HK1.out.range (HA.out h).2.2 (HA.out h).2.1⟩) (by simp) (HT.out.kp HK1.out))
  clear hK1
  rw [hN]
  go_wp2_with (first | (go_at_call 10; refine R1.out.mono ?_))
  rintro e w2 ⟨fl2, pe2, rfl, hS2, hcat2, hK2⟩
  have hf1 := frame_length cs (by omega)
  have hf2 := frame_length ds (by omega)
  have hl2 : fl2.length + pe2.length ≤ 600000 := by have := congrArg List.length hcat2; simp at this; omega
  have HK2 := hide (HK1.out.trans hK2)
  have R2 := hide (wbulk_any N fl2 pe2 ds tb tp m c1 a1 w2 hS2 hm (by omega) hd hdm (fun h => ⟨(HB.out h).1, (HB.out h).2.1, HK2.out.range (HB.out h).2.2 (HB.out h).2.1⟩) (by omega) (HT.out.kp HK2.out))
  replace hcat2 := hide hcat2
  clear R1 hS1 hS2 hK2
  go_wp2_with (first | (go_at_call 10; refine R2.out.mono ?_))
  rintro e w4 ⟨fl4, pe4, rfl, hS4, hcat4, hK4⟩
  rw [hcat2.out] at hcat4
  have HK4 := hide (HK2.out.trans hK4)
  have hl4 : fl4.length + pe4.length ≤ 3000000 := by have := congrArg List.length hcat4; simp at this; omega
  have hp4 : 0 < (fl4 ++ pe4).length := by rw [hcat4]; simp [frame]
  have R4 := hide (flushed_any N fl4 pe4 w4 hS4 hp4 (by omega))
  obtain ⟨S, hSS⟩ : ∃ S, fl4 ++ pe4 = S := ⟨_, rfl⟩
  obtain ⟨L, hL⟩ : ∃ L, S.length = L := ⟨_, rfl⟩
  rw [hSS, hL] at R4
  have hLlim : L ≤ 3000000 := by rw [← hL, ← hSS, List.length_append]; exact hl4
  have hS5 : S = [] ++ (frame cs ++ frame ds) := by rw [← hSS, hcat4]; simp
  have hS6 : S = frame cs ++ (frame ds ++ []) := by rw [hS5]; simp
  replace hcat4 := hide hcat4
  replace hSS := hide hSS
  clear R2 hS4 hK4
  go_wp2_with (first | (go_at_call 11; refine R4.out.mono ?_))
  rintro e w5 ⟨g, cS, rfl, hg1, hg2, hr5, hK5, hg5⟩
  have HAt := hide (at_of_range hr5)
  have HK5 := hide (HK4.out.trans hK5)
  obtain ⟨o1, ho1⟩ : ∃ o1, 0 + 3 + Lib.nDigits n = o1 := ⟨_, rfl⟩
  obtain ⟨p1, hp1⟩ : ∃ p1, 0 + 5 + Lib.nDigits n + n = p1 := ⟨_, rfl⟩
  have hlen1 : (frame cs).length = p1 := by rw [frame_len, hn]; omega
  obtain ⟨o2, ho2⟩ : ∃ o2, p1 + 3 + Lib.nDigits m = o2 := ⟨_, rfl⟩
  have hpL : p1 + 5 + Lib.nDigits m + m = L := by rw [← hL, hS6, List.length_append, List.append_nil, frame_len ds, hlen1, hm]; omega
  have Q1 : Hid (∀ W : World, W.heap = w5.heap → Calls Tryf.prog 12 #[.slice (some ⟨g, 0, none⟩) L cS, .int .i64 0] W fun e w' => (∃ c', e = .returned (.tuple #[.bool false, .slice (some ⟨g, o1, none⟩) n c', .int .i64 p1, .bool true])) ∧ ∃ q, w' = W.drewN q) := fun W hW =>
    read_bulk [] cs (frame ds) S 0 o1 p1 n L g cS W hS5 rfl hn ho1 hp1 hL (by omega) hg1 hg2 (HAt.out.heap hW)
  have Q2 : Hid (∀ W : World, W.heap = w5.heap → Calls Tryf.prog 12 #[.slice (some ⟨g, 0, none⟩) L cS, .int .i64 p1] W fun e w' => (∃ c', e = .returned (.tuple #[.bool false, .slice (some ⟨g, o2, none⟩) m c', .int .i64 L, .bool true])) ∧ ∃ q, w' = W.drewN q) := fun W hW =>
    read_bulk (frame cs) ds [] S p1 o2 L m L g cS W hS6 hlen1 hm ho2 hpL hL (by omega) hg1 hg2 (HAt.out.heap hW)
  have Q3 : Hid (∀ (W : World) (c' : Nat), W.heap = w5.heap → Calls Tryf.prog 13 #[.slice (some ⟨g, o1, none⟩) n c', .slice a0 n c0] W fun e w' => e = .returned (.bool true) ∧ ∃ q, w' = W.drewN q) := fun W c' hW =>
    eq_any cs _ a0 n c' c0 W hn (by omega) (fun _ => ⟨g, o1, rfl, by
        have hA := HAt.out
        rw [hS5] at hA
        have := (body_of hA).heap hW
        rw [hn, List.length_nil, ho1] at this
        exact this⟩)
      (fun h => ⟨sb, so, (HA.out h).1, (at_of_range (HK5.out.range (HA.out h).2.2 (HA.out h).2.1)).heap hW⟩)
  have Q4 : Hid (∀ (W : World) (c' : Nat), W.heap = w5.heap → Calls Tryf.prog 13 #[.slice (some ⟨g, o2, none⟩) m c', .slice a1 m c1] W fun e w' => e = .returned (.bool true) ∧ ∃ q, w' = W.drewN q) := fun W c' hW =>
    eq_any ds _ a1 m c' c1 W hm (by omega) (fun _ => ⟨g, o2, rfl, by
        have hA := HAt.out
        rw [hS6] at hA
        have := (body_of hA).heap hW
        rw [hm, hlen1, ho2] at this
        exact this⟩)
      (fun h => ⟨tb, tp, (HB.out h).1, (at_of_range (HK5.out.range (HB.out h).2.2 (HB.out h).2.1)).heap hW⟩)
  clear R4 hr5 hK5 hlen1 ho1 hp1 ho2 hpL hS5 hS6 hg1 hg2
  go_wp2_with (first
    | (go_at_call_of 12 (Value.int .i64 0); refine (Q1.out _ ?_).mono ?_; rfl; rintro e w' ⟨⟨c', rfl⟩, q, rfl⟩)
    | (go_at_call_of 12 (Value.int .i64 (p1 : Int)); refine (Q2.out _ ?_).mono ?_; rfl; rintro e w' ⟨⟨c2', rfl⟩, q1, rfl⟩)
    | (go_at_call_of 13 (Value.slice a0 n c0); refine (Q3.out _ _ ?_).mono ?_; rfl; rintro e w' ⟨rfl, q2, rfl⟩)
    | (go_at_call_of 13 (Value.slice a1 m c1); refine (Q4.out _ _ ?_).mono ?_; rfl; rintro e w' ⟨rfl, q3, rfl⟩))
  go_ret
  exact ⟨rfl, by rw [hN]; exact ⟨HK5.out.os, HK5.out.output, HK5.out.size, HK5.out.block⟩⟩

set_option maxHeartbeats 4000000 in
set_option maxRecDepth 100000 in
/-- FnBulkFramesReadBack. -/
theorem law_bulk (a0 a1 : Option Addr) (n m c0 c1 sb so tb tp : Nat) (cs ds : List Int) (w : World) (hn : cs.length = n) (hm : ds.length = m) (hc : n ≤ c0) (hcm : c0 ≤ maxLen) (hd : m ≤ c1) (hdm : c1 ≤ maxLen)
    (hao : 0 < n → a0 = some ⟨sb, so, none⟩ ∧ sb < w.heap.size ∧ w.rangeAt sb so (ic cs)) (hbo : 0 < m → a1 = some ⟨tb, tp, none⟩ ∧ tb < w.heap.size ∧ w.rangeAt tb tp (ic ds)) (htab : TabK w.heap.size w) :
    Calls Tryf.prog 3 #[.slice a0 n c0, .slice a1 m c1] w fun e w' => e = .returned (.bool true) ∧ Kp w.heap.size w w' := by
  by_cases h1 : n ≤ 524288
  · by_cases h2 : m ≤ 524288
    · exact law_bulk_in a0 a1 n m c0 c1 sb so tb tp cs ds w hn hm hc hcm hd hdm hao hbo htab h1 h2
    · have b1 : ¬ (524288 : Int) < (n : Int) := by omega
      have b2 : (524288 : Int) < (m : Int) := by omega
      unfold maxLen at hcm hdm
      by_cases hs : n + m ≤ 1048576
      · clear hao hbo htab
        go_enter Tryf.func3, Tryf.ntmps3
        go_wp2_with (first | (go_at_call 8; refine (bytes8_ok a0 a1 n m c0 c1 _ hs).mono ?_; rintro e w' ⟨rfl, rfl⟩))
        go_ret
        exact ⟨rfl, Kp.refl _ _⟩
      · clear hao hbo htab
        have HZ := hide (bytes8_no a0 a1 n m c0 c1 w hs)
        go_enter Tryf.func3, Tryf.ntmps3
        go_wp2_with (first | (go_at_call 8; refine HZ.out.mono ?_; rintro e w' ⟨rfl, rfl⟩))
        go_ret
        exact ⟨rfl, Kp.refl _ _⟩
  · have b1 : (524288 : Int) < (n : Int) := by omega
    unfold maxLen at hcm hdm
    by_cases hs : n + m ≤ 1048576
    · clear hao hbo htab
      go_enter Tryf.func3, Tryf.ntmps3
      go_wp2_with (first | (go_at_call 8; refine (bytes8_ok a0 a1 n m c0 c1 _ hs).mono ?_; rintro e w' ⟨rfl, rfl⟩))
      go_ret
      exact ⟨rfl, Kp.refl _ _⟩
    · clear hao hbo htab
      have HZ := hide (bytes8_no a0 a1 n m c0 c1 w hs)
      go_enter Tryf.func3, Tryf.ntmps3
      go_wp2_with (first | (go_at_call 8; refine HZ.out.mono ?_; rintro e w' ⟨rfl, rfl⟩))
      go_ret
      exact ⟨rfl, Kp.refl _ _⟩
end Go.Proofs.Qxb6616642aFmt
