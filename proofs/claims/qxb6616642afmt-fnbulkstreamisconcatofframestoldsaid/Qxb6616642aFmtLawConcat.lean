/-
  FnBulkStreamIsConcatOfFrames BY ITS CONTRACT (seat b6616642aF): for every two slices of bytes it returns true; the blocks that came in are as they were.
-/
import Derived.Test.Qxb6616642aFmtLawBulk
namespace Go.Proofs.Qxb6616642aFmt
open Go.Shelf Go.RowKit

set_option maxHeartbeats 1000000 in
set_option maxRecDepth 100000 in
theorem digits_any (n : Nat) (w : World) (hn : n ≤ 1000000000) : Calls Tryf.prog 16 #[.int .i64 n] w fun e w' => e = .returned (.int .i64 (Lib.nDigits n)) ∧ w' = w := by
  have hnd := nd_le n (by omega)
  go_enter Tryf.func16, Tryf.ntmps16
  go_wp2_with fail
  go_loopw [0, 3] (fun x d wx => ∃ k j : Nat, k ≤ n ∧ x = .int .i64 k ∧ d = .int .i64 j ∧ j + Lib.nDigits k = 1 + Lib.nDigits n ∧ wx = w) (fun x _ _ => (intOf x).toNat)
  case atStart => exact ⟨n, 1, by omega, rfl, rfl, rfl, rfl⟩
  case round =>
    obtain ⟨k, j, hk, rfl, rfl, hj, rfl⟩ := hrel
    by_cases hlt : k < 10
    · rw [Lib.nDigits_small hlt] at hj
      have hj' : j = Lib.nDigits n := by omega
      have b1 : ¬ (10 : Int) ≤ (k : Int) := by omega
      clear hj hnd
      go_wp2_with fail
      go_ret
      exact ⟨by rw [← hj']; rfl, rfl⟩
    · rw [Lib.nDigits_big hlt] at hj
      have b1 : (10 : Int) ≤ (k : Int) := by omega
      have b2 : (j : Int) ≤ 100 := by omega
      have HJ := hide hj
      clear hj hnd
      go_wp2_with fail
      go_roundw
      case rel => exact ⟨k / 10, j + 1, by omega, by go_num, by go_num, by have := HJ.out; omega, by first | rfl | trivial⟩
      case measure => simp [intOf]; omega

theorem bytes14_ok (a0 a1 : Option Addr) (n m c0 c1 : Nat) (w : World) (h : n + m ≤ 1048576) : Calls Tryf.prog 14 #[.slice a0 n c0, .slice a1 m c1] w fun e w' => e = .returned (.bool true) ∧ w' = w := by
  have b1 : ¬ (1048576 : Int) < (n : Int) := by omega
  have b2 : ¬ (1048576 : Int) < (m : Int) := by omega
  have b3 : ¬ (1048576 : Int) < (n : Int) + (m : Int) := by omega
  go_enter Tryf.func14, Tryf.ntmps14
  go_wp2
  go_ret
  exact ⟨rfl, rfl⟩
theorem bytes14_no (a0 a1 : Option Addr) (n m c0 c1 : Nat) (w : World) (h : ¬ n + m ≤ 1048576) : Calls Tryf.prog 14 #[.slice a0 n c0, .slice a1 m c1] w fun e w' => e = .returned (.bool false) ∧ w' = w := by
  by_cases h1 : n ≤ 1048576
  · by_cases h2 : m ≤ 1048576
    · have b1 : ¬ (1048576 : Int) < (n : Int) := by omega
      have b2 : ¬ (1048576 : Int) < (m : Int) := by omega
      have b3 : (1048576 : Int) < (n : Int) + (m : Int) := by omega
      go_enter Tryf.func14, Tryf.ntmps14
      go_wp2
      go_ret
      exact ⟨rfl, rfl⟩
    · have b1 : ¬ (1048576 : Int) < (n : Int) := by omega
      have b2 : (1048576 : Int) < (m : Int) := by omega
      go_enter Tryf.func14, Tryf.ntmps14
      go_wp2
      go_ret
      exact ⟨rfl, rfl⟩
  · have b1 : (1048576 : Int) < (n : Int) := by omega
    go_enter Tryf.func14, Tryf.ntmps14
    go_wp2
    go_ret
    exact ⟨rfl, rfl⟩

set_option maxHeartbeats 1000000 in
set_option maxRecDepth 100000 in
/-- zzBulk: the frame, in a row of its own. -/
theorem zbulk_any (a0 : Option Addr) (n c0 sb so L : Nat) (cs : List Int) (w : World) (hn : cs.length = n) (hc : n ≤ c0) (hcm : c0 ≤ maxLen) (hL : (frame cs).length = L)
    (hao : 0 < n → a0 = some ⟨sb, so, none⟩ ∧ sb < w.heap.size ∧ w.rangeAt sb so (ic cs)) (htab : TabK w.heap.size w) (h1 : n ≤ 1048576) :
    Calls Tryf.prog 15 #[.slice a0 n c0] w fun e w' => ∃ g c', e = .returned (.tuple #[.slice (some ⟨g, 0, none⟩) L c', .bool true]) ∧ L ≤ c' ∧ c' ≤ maxLen ∧ At w' g 0 (frame cs) ∧ Kp w.heap.size w w' ∧ g < w'.heap.size := by
  have HA := hide hao
  have HT := hide htab
  clear hao htab
  go_enter Tryf.func15, Tryf.ntmps15
  go_wp2_with (first | (go_at_call 9; refine (zznew_any _).mono ?_))
  rintro e w1 ⟨rfl, hS1, hK1⟩
  obtain ⟨N, hN⟩ : ∃ N, w.heap.size = N := ⟨_, rfl⟩
  rw [hN] at hS1 hK1 HT HA
  have HK1 := hide hK1
  have R1 := hide (wbulk_any N [] [] cs sb so n c0 a0 w1 hS1 hn (by omega) hc hcm (fun h => ⟨(HA.out h).1, (HA.out h).2.1, HK1.out.range (HA.out h).2.2 (HA.out h).2.1⟩) (by simp) (HT.out.kp HK1.out))
  clear hK1
  rw [hN]
  go_wp2_with (first | (go_at_call 10; refine R1.out.mono ?_))
  rintro e w4 ⟨fl4, pe4, rfl, hS4, hcat4, hK4⟩
  have hcat5 : fl4 ++ pe4 = frame cs := by simpa using hcat4
  have hf1 := frame_length cs (by omega)
  have HK4 := hide (HK1.out.trans hK4)
  have hl4 : fl4.length + pe4.length ≤ 3000000 := by have := congrArg List.length hcat5; simp at this; omega
  have hp4 : 0 < (fl4 ++ pe4).length := by rw [hcat5]; simp [frame]
  have R4 := hide (flushed_any N fl4 pe4 w4 hS4 hp4 (by omega))
  rw [hcat5, hL] at R4
  clear R1 hS4 hK4 hS1
  replace hcat4 := hide hcat4
  replace hcat5 := hide hcat5
  go_wp2_with (first | (go_at_call 11; refine R4.out.mono ?_))
  rintro e w5 ⟨g, cS, rfl, hg1, hg2, hr5, hK5, hg5⟩
  have HAt := hide (at_of_range hr5)
  have HK5 := hide (HK4.out.trans hK5)
  clear hr5 hK5 R4
  go_wp2
  go_ret2
  exact ⟨g, cS, rfl, hg1, hg2, HAt.out, by rw [hN]; exact HK5.out, hg5⟩

set_option maxHeartbeats 1000000 in
set_option maxRecDepth 100000 in
/-- zzEndsInBody at a frame of cs. -/
theorem ends_any (cs : List Int) (a1 : Option Addr) (n L g c c1 : Nat) (w : World) (hn : cs.length = n) (hL : (frame cs).length = L) (hc : L ≤ c) (hcm : c ≤ maxLen) (hlim : n ≤ 1048576) (h : At w g 0 (frame cs)) (h2 : 0 < n → ∃ g' o, a1 = some ⟨g', o, none⟩ ∧ At w g' o cs) :
    Calls Tryf.prog 17 #[.slice (some ⟨g, 0, none⟩) L c, .slice a1 n c1] w fun e w' => e = .returned (.bool true) ∧ ∃ q, w' = w.drewN q := by
  have hfl := frame_len cs
  rw [hn, hL] at hfl
  obtain ⟨hd, hhd⟩ : ∃ hd, 3 + Lib.nDigits n = hd := ⟨_, rfl⟩
  have hnd := nd_le n (by omega)
  have B := bulky_of [] cs []
  rw [hn] at B
  have e1 := B.cr2
  have e2 := B.lf2
  simp only [List.nil_append, List.append_nil, List.length_nil] at e1 e2
  have k1 := h.cells hL (0 + 3 + Lib.nDigits n + n) (by omega)
  have k2 := h.cells hL (0 + 4 + Lib.nDigits n + n) (by omega)
  rw [e1, show 0 + 3 + Lib.nDigits n + n = hd + n by omega] at k1
  rw [e2, show 0 + 4 + Lib.nDigits n + n = hd + n + 1 by omega] at k2
  have hb : At w g hd cs := by
    have := body_of (pre := []) (post := []) (cs := cs) (w := w) (g := g) (by simpa using h)
    rw [hn, List.length_nil, show 0 + 3 + Lib.nDigits n = hd by omega] at this
    exact this
  have hLL : L = hd + n + 2 := by omega
  have HB := hide hb
  have H2 := hide h2
  have HQ : Hid (∀ (W : World) (c' : Nat), W.heap = w.heap → Calls Tryf.prog 13 #[.slice (some ⟨g, hd, none⟩) n c', .slice a1 n c1] W fun e w' => e = .returned (.bool true) ∧ ∃ q, w' = W.drewN q) := fun W c' hW =>
    eq_any cs _ a1 n c' c1 W hn (by omega) (fun _ => ⟨g, hd, rfl, hb.heap hW⟩) (fun h => by obtain ⟨g', o, e, ha⟩ := h2 h; exact ⟨g', o, e, ha.heap hW⟩)
  subst hLL
  unfold maxLen at hcm
  have hc3 : ¬ c = hd := by omega
  clear h h2 B hb e1 e2 hfl hL hhd hnd HB H2
  go_enter Tryf.func17, Tryf.ntmps17
  go_wp2_with (first | (go_at_call 13; refine (HQ.out _ _ ?_).mono ?_; rfl; rintro e w' ⟨rfl, q, rfl⟩))
  go_ret
  exact ⟨rfl, q, rfl⟩
theorem TabK.mono {M N : Nat} {w : World} (h : TabK N w) (hm : N ≤ M) : TabK M w := fun w' hb => h w' fun k hk => hb k (by omega)
theorem At.kp {N : Nat} {a b : World} {g o : Nat} {xs : List Int} (h : At a g o xs) (hk : Kp N a b) (hg : g < N) : At b g o xs := fun i hi => by
  rw [World.cell?_of_block (a := ⟨g, o + i, none⟩) (hk.block g hg)]; exact h i hi
theorem At.left {w : World} {g o : Nat} {xs ys : List Int} (h : At w g o (xs ++ ys)) : At w g o xs := fun i hi => by
  rw [h i (by rw [List.length_append]; omega)]
  congr 2
  simp only [List.getD_eq_getElem?_getD]
  rw [List.getElem?_append_left hi]
theorem At.right {w : World} {g o k : Nat} {xs ys : List Int} (h : At w g o (xs ++ ys)) (hk : o + xs.length = k) : At w g k ys := fun i hi => by
  subst hk
  rw [Nat.add_assoc, h (xs.length + i) (by rw [List.length_append]; omega), getD_pre]

set_option maxHeartbeats 4000000 in
set_option maxRecDepth 100000 in
/-- FnBulkStreamIsConcatOfFrames, within the bounds. -/
theorem law_concat_in (a0 a1 : Option Addr) (n m c0 c1 sb so tb tp : Nat) (cs ds : List Int) (w : World) (hn : cs.length = n) (hm : ds.length = m) (hc : n ≤ c0) (hcm : c0 ≤ maxLen) (hd : m ≤ c1) (hdm : c1 ≤ maxLen)
    (hao : 0 < n → a0 = some ⟨sb, so, none⟩ ∧ sb < w.heap.size ∧ w.rangeAt sb so (ic cs)) (hbo : 0 < m → a1 = some ⟨tb, tp, none⟩ ∧ tb < w.heap.size ∧ w.rangeAt tb tp (ic ds)) (htab : TabK w.heap.size w) (h1 : n ≤ 524288) (h2 : m ≤ 524288) :
    Calls Tryf.prog 4 #[.slice a0 n c0, .slice a1 m c1] w fun e w' => e = .returned (.bool true) ∧ Kp w.heap.size w w' := by
  have b1 : ¬ (524288 : Int) < (n : Int) := by omega
  have b2 : ¬ (524288 : Int) < (m : Int) := by omega
  have HA := hide hao
  have HB := hide hbo
  have HT := hide htab
  clear hao hbo htab
  go_enter Tryf.func4, Tryf.ntmps4
  go_wp2_with (first | (go_at_call 14; refine (bytes14_ok a0 a1 n m c0 c1 _ (by omega)).mono ?_; rintro e w' ⟨rfl, rfl⟩) | (go_at_call 9; refine (zznew_any _).mono ?_))
  rintro e w1 ⟨rfl, hS1, hK1⟩
  obtain ⟨N, hN⟩ : ∃ N, w'.heap.size = N := ⟨_, rfl⟩
  rw [hN] at hS1 hK1 HT HA HB
  have HK1 := hide hK1
  have R1 := hide (wbulk_any N [] [] cs sb so n c0 a0 w1 hS1 hn (by omega) hc hcm (fun h => ⟨(HA.out h).1, (HA.out h).2.1, HK1.out.range (HA.out h).2.2 (HA.out h).2.1⟩) (by simp) (HT.out.kp HK1.out))
  clear hK1
  rw [hN]
  go_wp2_with (first | (go_at_call 10; refine R1.out.mono ?_))
  rintro e w2 ⟨fl2, pe2, rfl, hS2, hcat2, hK2⟩
  have hf1 := frame_length cs (by omega)
  have hf2 := frame_length ds (by omega)
  have hl2 : fl2.length + pe2.length ≤ 600000 := by have := congrArg List.length hcat2; simp at this; omega
  have HK2 := hide (HK1.out.trans hK2)
  have R2 := hide (wbulk_any N fl2 pe2 ds tb tp m c1 a1 w2 hS2 hm (by omega) hd hdm (fun h => ⟨(HB.out h).1, (HB.out h).2.1, HK2.out.range (HB.out h).2.2 (HB.out h).2.1⟩) (by omega) (HT.out.kp HK2.out))
  replace hcat2 := hide hcat2
  clear R1 hS2 hK2
  go_wp2_with (first | (go_at_call 10; refine R2.out.mono ?_))
  rintro e w4 ⟨fl4, pe4, rfl, hS4, hcat4, hK4⟩
  rw [hcat2.out] at hcat4
  have HK4 := hide (HK2.out.trans hK4)
  have hl4 : fl4.length + pe4.length ≤ 3000000 := by have := congrArg List.length hcat4; simp at this; omega
  have hp4 : 0 < (fl4 ++ pe4).length := by rw [hcat4]; simp [frame]
  have R4 := hide (flushed_any N fl4 pe4 w4 hS4 hp4 (by omega))
  have hSS : fl4 ++ pe4 = frame cs ++ frame ds := by rw [hcat4]; simp
  obtain ⟨L1, hL1⟩ : ∃ L, (frame cs).length = L := ⟨_, rfl⟩
  obtain ⟨L2, hL2⟩ : ∃ L, (frame ds).length = L := ⟨_, rfl⟩
  obtain ⟨d1, hd1⟩ : ∃ d, Lib.nDigits n = d := ⟨_, rfl⟩
  obtain ⟨d2, hd2⟩ : ∃ d, Lib.nDigits m = d := ⟨_, rfl⟩
  have q1 : (n : Int) + 5 + (d1 : Int) = (L1 : Int) := by have := frame_len cs; rw [hn, hL1, hd1] at this; omega
  have q2 : (m : Int) + 5 + (d2 : Int) = (L2 : Int) := by have := frame_len ds; rw [hm, hL2, hd2] at this; omega
  rw [hSS, List.length_append, hL1, hL2] at R4
  have hl1 : L1 ≤ 600000 := by omega
  have hl2' : L2 ≤ 600000 := by omega
  replace hcat4 := hide hcat4
  replace hSS := hide hSS
  have hN4 : N + 4 ≤ w4.heap.size := hS4.size
  clear R2 hS4 hK4 hS1
  go_wp2_with (first | (go_at_call 11; refine R4.out.mono ?_))
  rintro e w5 ⟨g, cS, rfl, hg1, hg2, hr5, hK5, hg5⟩
  have HAt := hide (at_of_range hr5)
  have HK5 := hide (HK4.out.trans hK5)
  have hN5 : N ≤ w5.heap.size := by have := hK5.size; omega
  have R5 := hide (zbulk_any a0 n c0 sb so L1 cs w5 hn hc hcm hL1 (fun h => ⟨(HA.out h).1, by have := (HA.out h).2.1; omega, HK5.out.range (HA.out h).2.2 (HA.out h).2.1⟩) ((HT.out.kp HK5.out).mono hN5) (by omega))
  clear R4 hr5 hK5
  replace q1 := hide q1
  replace q2 := hide q2
  go_wp2_with (first | (go_at_call 15; refine R5.out.mono ?_))
  rintro e w6 ⟨g6, c6, rfl, hg61, hg62, hA6, hK6, hg6⟩
  have HK6 := hide (HK5.out.trans (hK6.mono hN5))
  have HAt6 := hide (HAt.out.kp hK6 hg5)
  have hz6 := hK6.size
  have R6 := hide (zbulk_any a1 m c1 tb tp L2 ds w6 hm hd hdm hL2 (fun h => ⟨(HB.out h).1, by have := (HB.out h).2.1; omega, HK6.out.range (HB.out h).2.2 (HB.out h).2.1⟩) ((HT.out.kp HK6.out).mono (by omega)) (by omega))
  replace hA6 := hide hA6
  clear R5 hK6 HAt
  go_wp2_with (first | (go_at_call 15; refine R6.out.mono ?_))
  rintro e w7 ⟨g7, c7, rfl, hg71, hg72, hA7, hK7, hg7⟩
  have HK7 := hide (HK6.out.trans (hK7.mono (by omega)))
  have HAt7 := hide (HAt6.out.kp hK7 (by omega))
  have HA67 := hide (hA6.out.kp hK7 hg6)
  replace hA7 := hide hA7
  clear R6 hK7 HAt6 hA6
  have D1 : Hid (∀ W : World, Calls Tryf.prog 16 #[.int .i64 n] W fun e w' => e = .returned (.int .i64 d1) ∧ w' = W) := fun W => by have := digits_any n W (by omega); rw [hd1] at this; exact this
  have D2 : Hid (∀ W : World, Calls Tryf.prog 16 #[.int .i64 m] W fun e w' => e = .returned (.int .i64 d2) ∧ w' = W) := fun W => by have := digits_any m W (by omega); rw [hd2] at this; exact this
  have E1 : Hid (∀ W : World, W.heap = w7.heap → Calls Tryf.prog 17 #[.slice (some ⟨g6, 0, none⟩) L1 c6, .slice a0 n c0] W fun e w' => e = .returned (.bool true) ∧ ∃ q, w' = W.drewN q) := fun W hW =>
    ends_any cs a0 n L1 g6 c6 c0 W hn hL1 hg61 hg62 (by omega) (HA67.out.heap hW) (fun h => ⟨sb, so, (HA.out h).1, (at_of_range (HK7.out.range (HA.out h).2.2 (HA.out h).2.1)).heap hW⟩)
  have E2 : Hid (∀ W : World, W.heap = w7.heap → Calls Tryf.prog 17 #[.slice (some ⟨g7, 0, none⟩) L2 c7, .slice a1 m c1] W fun e w' => e = .returned (.bool true) ∧ ∃ q, w' = W.drewN q) := fun W hW =>
    ends_any ds a1 m L2 g7 c7 c1 W hm hL2 hg71 hg72 (by omega) (hA7.out.heap hW) (fun h => ⟨tb, tp, (HB.out h).1, (at_of_range (HK7.out.range (HB.out h).2.2 (HB.out h).2.1)).heap hW⟩)
  have F1 : Hid (∀ (W : World) (c' : Nat), W.heap = w7.heap → Calls Tryf.prog 13 #[.slice (some ⟨g, 0, none⟩) L1 c', .slice (some ⟨g6, 0, none⟩) L1 c6] W fun e w' => e = .returned (.bool true) ∧ ∃ q, w' = W.drewN q) := fun W c' hW =>
    eq_any (frame cs) _ _ L1 c' c6 W hL1 (by omega) (fun _ => ⟨g, 0, rfl, HAt7.out.left.heap hW⟩) (fun _ => ⟨g6, 0, rfl, HA67.out.heap hW⟩)
  have F2 : Hid (∀ (W : World) (c' : Nat), W.heap = w7.heap → Calls Tryf.prog 13 #[.slice (some ⟨g, L1, none⟩) L2 c', .slice (some ⟨g7, 0, none⟩) L2 c7] W fun e w' => e = .returned (.bool true) ∧ ∃ q, w' = W.drewN q) := fun W c' hW =>
    eq_any (frame ds) _ _ L2 c' c7 W hL2 (by omega) (fun _ => ⟨g, L1, rfl, (HAt7.out.right (by omega)).heap hW⟩) (fun _ => ⟨g7, 0, rfl, hA7.out.heap hW⟩)
  have hcS : ¬ cS = L1 := by have := frame_len ds; rw [hm, hL2, hd2] at this; omega
  unfold maxLen at hg2
  replace q1 := q1.out
  replace q2 := q2.out
  clear hd1 hd2 hL1 hL2
  go_wp2_with (first
    | (go_at_call_of 16 (Value.int .i64 (n : Int)); refine (D1.out _).mono ?_; rintro e w' ⟨rfl, rfl⟩)
    | (go_at_call_of 16 (Value.int .i64 (m : Int)); refine (D2.out _).mono ?_; rintro e w' ⟨rfl, rfl⟩)
    | (go_at_call_of 17 (Value.slice a0 n c0); refine (E1.out _ ?_).mono ?_; rfl; rintro e w' ⟨rfl, qa, rfl⟩)
    | (go_at_call_of 17 (Value.slice a1 m c1); refine (E2.out _ ?_).mono ?_; rfl; rintro e w' ⟨rfl, qb, rfl⟩)
    | (go_at_call_of 13 (Value.slice (some ⟨g6, 0, none⟩) L1 c6); refine (F1.out _ _ ?_).mono ?_; rfl; rintro e w' ⟨rfl, qc, rfl⟩)
    | (go_at_call_of 13 (Value.slice (some ⟨g7, 0, none⟩) L2 c7); refine (F2.out _ _ ?_).mono ?_; rfl; rintro e w' ⟨rfl, qd, rfl⟩))
  go_ret
  exact ⟨rfl, by rw [hN]; exact ⟨HK7.out.os, HK7.out.output, HK7.out.size, HK7.out.block⟩⟩

set_option maxHeartbeats 4000000 in
set_option maxRecDepth 100000 in
/-- FnBulkStreamIsConcatOfFrames. -/
theorem law_concat (a0 a1 : Option Addr) (n m c0 c1 sb so tb tp : Nat) (cs ds : List Int) (w : World) (hn : cs.length = n) (hm : ds.length = m) (hc : n ≤ c0) (hcm : c0 ≤ maxLen) (hd : m ≤ c1) (hdm : c1 ≤ maxLen)
    (hao : 0 < n → a0 = some ⟨sb, so, none⟩ ∧ sb < w.heap.size ∧ w.rangeAt sb so (ic cs)) (hbo : 0 < m → a1 = some ⟨tb, tp, none⟩ ∧ tb < w.heap.size ∧ w.rangeAt tb tp (ic ds)) (htab : TabK w.heap.size w) :
    Calls Tryf.prog 4 #[.slice a0 n c0, .slice a1 m c1] w fun e w' => e = .returned (.bool true) ∧ Kp w.heap.size w w' := by
  by_cases h1 : n ≤ 524288
  · by_cases h2 : m ≤ 524288
    · exact law_concat_in a0 a1 n m c0 c1 sb so tb tp cs ds w hn hm hc hcm hd hdm hao hbo htab h1 h2
    · have b1 : ¬ (524288 : Int) < (n : Int) := by omega
      have b2 : (524288 : Int) < (m : Int) := by omega
      unfold maxLen at hcm hdm
      by_cases hs : n + m ≤ 1048576
      · clear hao hbo htab
        go_enter Tryf.func4, Tryf.ntmps4
        go_wp2_with (first | (go_at_call 14; refine (bytes14_ok a0 a1 n m c0 c1 _ hs).mono ?_; rintro e w' ⟨rfl, rfl⟩))
        go_ret
        exact ⟨rfl, Kp.refl _ _⟩
      · clear hao hbo htab
        have HZ := hide (bytes14_no a0 a1 n m c0 c1 w hs)
        go_enter Tryf.func4, Tryf.ntmps4
        go_wp2_with (first | (go_at_call 14; refine HZ.out.mono ?_; rintro e w' ⟨rfl, rfl⟩))
        go_ret
        exact ⟨rfl, Kp.refl _ _⟩
  · have b1 : (524288 : Int) < (n : Int) := by omega
    unfold maxLen at hcm hdm
    by_cases hs : n + m ≤ 1048576
    · clear hao hbo htab
      go_enter Tryf.func4, Tryf.ntmps4
      go_wp2_with (first | (go_at_call 14; refine (bytes14_ok a0 a1 n m c0 c1 _ hs).mono ?_; rintro e w' ⟨rfl, rfl⟩))
      go_ret
      exact ⟨rfl, Kp.refl _ _⟩
    · clear hao hbo htab
      have HZ := hide (bytes14_no a0 a1 n m c0 c1 w hs)
      go_enter Tryf.func4, Tryf.ntmps4
      go_wp2_with (first | (go_at_call 14; refine HZ.out.mono ?_; rintro e w' ⟨rfl, rfl⟩))
      go_ret
      exact ⟨rfl, Kp.refl _ _⟩
end Go.Proofs.Qxb6616642aFmt
