/-
  FnNullFramesReadBack BY ITS CONTRACT (seat b6616642aF): for every slice of bytes it returns true; the blocks that came in are as they were.
-/
import Derived.Test.Qxb6616642aFmtPlain
namespace Go.Proofs.Qxb6616642aFmt
open Go.Shelf Go.RowKit

theorem At.heap {w w' : World} {g o : Nat} {xs : List Int} (h : At w g o xs) (e : w'.heap = w.heap) : At w' g o xs := fun i hi => by
  rw [World.cell?_of_block (a := ⟨g, o + i, none⟩) (w := w) (by rw [e])]; exact h i hi
theorem At.cells {w : World} {g L : Nat} {xs : List Int} (h : At w g 0 xs) (hL : xs.length = L) : ∀ i, i < L → w.cell? ⟨g, i, none⟩ = some (.int .u8 (xs.getD i 0)) := fun i hi => by
  have := h i (by omega); rwa [Nat.zero_add] at this

theorem getD_pre (pre rest : List Int) (j : Nat) : (pre ++ rest).getD (pre.length + j) 0 = rest.getD j 0 := by
  simp only [List.getD_eq_getElem?_getD]
  rw [List.getElem?_append_right (by omega), Nat.add_sub_cancel_left]

/-- zzReadFrame at a null frame in a stream. -/
theorem read_null (pre post S : List Int) (p p' L g c : Nat) (w : World) (hS : S = pre ++ (nullFrame ++ post)) (hp : pre.length = p) (hp' : p + 5 = p') (hL : S.length = L) (hlim : L ≤ 100000000) (h : At w g 0 S) :
    Calls Tryf.prog 12 #[.slice (some ⟨g, 0, none⟩) L c, .int .i64 p] w fun e w' => e = .returned (.tuple #[.bool true, .slice none 0 0, .int .i64 p', .bool true]) ∧ w' = w := by
  subst hp hp'
  have hf : ∀ j, S.getD (pre.length + j) 0 = (nullFrame ++ post).getD j 0 := fun j => by rw [hS, getD_pre]
  have hl : pre.length + 5 ≤ L := by rw [← hL, hS]; simp [nullFrame]
  exact rf_null (fun i => S.getD i 0) pre.length L g c w (hf 0) (hf 1) (hf 2) (hf 3) (hf 4) hl hlim (h.cells hL)

/-- zzReadFrame at a bulk frame in a stream. -/
theorem read_bulk (pre cs post S : List Int) (p o p' u L g c : Nat) (w : World) (hS : S = pre ++ (frame cs ++ post)) (hp : pre.length = p) (hu : cs.length = u) (ho : p + 3 + Lib.nDigits u = o) (hp' : p + 5 + Lib.nDigits u + u = p') (hL : S.length = L) (hlim : L ≤ 100000000) (hc : L ≤ c) (hcm : c ≤ maxLen) (h : At w g 0 S) :
    Calls Tryf.prog 12 #[.slice (some ⟨g, 0, none⟩) L c, .int .i64 p] w fun e w' => (∃ c', e = .returned (.tuple #[.bool false, .slice (some ⟨g, o, none⟩) u c', .int .i64 p', .bool true])) ∧ ∃ q, w' = w.drewN q := by
  subst hp hu ho hp' hL
  have := bulky_of pre cs post
  rw [← hS] at this
  exact rf_bulk _ _ _ _ _ _ g c w this hlim hc hcm (h.cells rfl)

theorem bytes18_ok (ao : Option Addr) (n c : Nat) (w : World) (h : n ≤ 1048576) : Calls Tryf.prog 18 #[.slice ao n c] w fun e w' => e = .returned (.bool true) ∧ w' = w := by
  have b1 : ¬ (1048576 : Int) < (n : Int) := by omega
  have b2 : (n : Int) ≤ 1048576 := by omega
  go_enter Tryf.func18, Tryf.ntmps18
  go_wp2
  go_ret
  exact ⟨rfl, rfl⟩
theorem bytes18_no (ao : Option Addr) (n c : Nat) (w : World) (h : ¬ n ≤ 1048576) : Calls Tryf.prog 18 #[.slice ao n c] w fun e w' => e = .returned (.bool false) ∧ w' = w := by
  have b1 : (1048576 : Int) < (n : Int) := by omega
  go_enter Tryf.func18, Tryf.ntmps18
  go_wp2
  go_ret
  exact ⟨rfl, rfl⟩

set_option maxHeartbeats 4000000 in
set_option maxRecDepth 100000 in
/-- FnNullFramesReadBack. -/
theorem law_null (ao : Option Addr) (n c sb so : Nat) (cs : List Int) (w : World) (hn : cs.length = n) (hc : n ≤ c) (hcm : c ≤ maxLen) (hao : 0 < n → ao = some ⟨sb, so, none⟩ ∧ sb < w.heap.size ∧ w.rangeAt sb so (ic cs)) (htab : TabK w.heap.size w) :
    Calls Tryf.prog 5 #[.slice ao n c] w fun e w' => e = .returned (.bool true) ∧ Kp w.heap.size w w' := by
  have hcm' := hcm
  unfold maxLen at hcm'
  by_cases hbig : n ≤ 1048576
  · have b1 : ¬ (1048576 : Int) < (n : Int) := by omega
    have b2 : (n : Int) ≤ 1048576 := by omega
    have HA := hide hao
    have HT := hide htab
    clear hao htab
    go_enter Tryf.func5, Tryf.ntmps5
    go_wp2_with (first | (go_at_call 18; refine (bytes18_ok ao n c _ hbig).mono ?_; rintro e w' ⟨rfl, rfl⟩) | (go_at_call 9; refine (zznew_any _).mono ?_))
    rintro e w1 ⟨rfl, hS1, hK1⟩
    obtain ⟨N, hN⟩ : ∃ N, w'.heap.size = N := ⟨_, rfl⟩
    rw [hN] at hS1 hK1 HT HA
    have T1 := hide (HT.out.kp hK1)
    have R1 := hide (wnull_any N [] [] w1 hS1 (by simp) T1.out)
    have HK1 := hide hK1
    clear hK1
    rw [hN]
    go_wp2_with (first | (go_at_call 19; refine R1.out.mono ?_))
    rintro e w2 ⟨fl2, pe2, rfl, hS2, hcat2, hK2⟩
    have hl2 : fl2.length + pe2.length = 5 := by have := congrArg List.length hcat2; simpa [nullFrame] using this
    have HK2 := hide (HK1.out.trans hK2)
    have R2 := hide (wbulk_any N fl2 pe2 cs sb so n c ao w2 hS2 hn (by omega) hc hcm (fun h => ⟨(HA.out h).1, (HA.out h).2.1, HK2.out.range (HA.out h).2.2 (HA.out h).2.1⟩) (by omega) (HT.out.kp HK2.out))
    replace hcat2 := hide hcat2
    clear R1 hS1 hS2 hK2 T1
    go_wp2_with (first | (go_at_call 10; refine R2.out.mono ?_))
    rintro e w3 ⟨fl3, pe3, rfl, hS3, hcat3, hK3⟩
    rw [hcat2.out] at hcat3
    have hfl := frame_length cs (by omega)
    have hl3 : fl3.length + pe3.length ≤ 2000000 := by have := congrArg List.length hcat3; simp [nullFrame] at this; omega
    have HK3 := hide (HK2.out.trans hK3)
    have R3 := hide (wnull_any N fl3 pe3 w3 hS3 (by omega) (HT.out.kp HK3.out))
    replace hcat3 := hide hcat3
    clear R2 hS3 hK3
    go_wp2_with (first | (go_at_call 19; refine R3.out.mono ?_))
    rintro e w4 ⟨fl4, pe4, rfl, hS4, hcat4, hK4⟩
    rw [hcat3.out] at hcat4
    have HK4 := hide (HK3.out.trans hK4)
    have hl4 : fl4.length + pe4.length ≤ 3000000 := by have := congrArg List.length hcat4; simp [nullFrame] at this; omega
    have hp4 : 0 < (fl4 ++ pe4).length := by rw [hcat4]; simp [nullFrame]
    have R4 := hide (flushed_any N fl4 pe4 w4 hS4 hp4 (by omega))
    obtain ⟨S, hSS⟩ : ∃ S, fl4 ++ pe4 = S := ⟨_, rfl⟩
    obtain ⟨L, hL⟩ : ∃ L, S.length = L := ⟨_, rfl⟩
    rw [hSS, hL] at R4
    have hLlim : L ≤ 3000000 := by rw [← hL, ← hSS, List.length_append]; exact hl4
    have hS0 : S = [] ++ (nullFrame ++ (frame cs ++ nullFrame)) := by rw [← hSS, hcat4]; simp
    have hS5 : S = nullFrame ++ (frame cs ++ nullFrame) := hS0
    have hS6 : S = (nullFrame ++ frame cs) ++ (nullFrame ++ []) := by rw [hS5]; simp
    replace hcat4 := hide hcat4
    replace hSS := hide hSS
    clear R3 hS4 hK4
    go_wp2_with (first | (go_at_call 11; refine R4.out.mono ?_))
    rintro e w5 ⟨g, cS, rfl, hg1, hg2, hr5, hK5, hg5⟩
    have HAt := hide (at_of_range hr5)
    have HK5 := hide (HK4.out.trans hK5)
    obtain ⟨o2, ho2⟩ : ∃ o2, 5 + 3 + Lib.nDigits n = o2 := ⟨_, rfl⟩
    obtain ⟨p2, hp2⟩ : ∃ p2, 5 + 5 + Lib.nDigits n + n = p2 := ⟨_, rfl⟩
    have hlen5 : (nullFrame ++ frame cs).length = p2 := by rw [List.length_append, frame_len, hn]; simp [nullFrame]; omega
    have hpL : p2 + 5 = L := by rw [← hL, hS6, List.length_append, hlen5]; rfl
    have Q1 : Hid (∀ W : World, W.heap = w5.heap → Calls Tryf.prog 12 #[.slice (some ⟨g, 0, none⟩) L cS, .int .i64 0] W fun e w' => e = .returned (.tuple #[.bool true, .slice none 0 0, .int .i64 5, .bool true]) ∧ w' = W) := fun W hW =>
      read_null [] _ S 0 5 L g cS W hS0 rfl rfl hL (by omega) (HAt.out.heap hW)
    have Q2 : Hid (∀ W : World, W.heap = w5.heap → Calls Tryf.prog 12 #[.slice (some ⟨g, 0, none⟩) L cS, .int .i64 5] W fun e w' => (∃ c', e = .returned (.tuple #[.bool false, .slice (some ⟨g, o2, none⟩) n c', .int .i64 p2, .bool true])) ∧ ∃ q, w' = W.drewN q) := fun W hW =>
      read_bulk nullFrame cs nullFrame S 5 o2 p2 n L g cS W hS5 rfl hn ho2 hp2 hL (by omega) hg1 hg2 (HAt.out.heap hW)
    have Q3 : Hid (∀ W : World, W.heap = w5.heap → Calls Tryf.prog 12 #[.slice (some ⟨g, 0, none⟩) L cS, .int .i64 p2] W fun e w' => e = .returned (.tuple #[.bool true, .slice none 0 0, .int .i64 L, .bool true]) ∧ w' = W) := fun W hW =>
      read_null _ _ S p2 L L g cS W hS6 hlen5 hpL hL (by omega) (HAt.out.heap hW)
    have Q4 : Hid (∀ (W : World) (c' : Nat), W.heap = w5.heap → Calls Tryf.prog 13 #[.slice (some ⟨g, o2, none⟩) n c', .slice ao n c] W fun e w' => e = .returned (.bool true) ∧ ∃ q, w' = W.drewN q) := fun W c' hW =>
      eq_any cs _ ao n c' c W hn (by omega) (fun _ => ⟨g, o2, rfl, by
          have hA := HAt.out
          rw [hS5] at hA
          have := (body_of hA).heap hW
          rw [hn, show nullFrame.length = 5 from rfl, ho2] at this
          exact this⟩)
        (fun h => ⟨sb, so, (HA.out h).1, (at_of_range (HK5.out.range (HA.out h).2.2 (HA.out h).2.1)).heap hW⟩)
    clear R4 hr5 hK5 hlen5 ho2 hp2 hpL hS0 hS5 hS6 hg1 hg2
    go_wp2_with (first
      | (go_at_call_of 12 (Value.int .i64 0); refine (Q1.out _ ?_).mono ?_; rfl; rintro e w' ⟨rfl, rfl⟩)
      | (go_at_call_of 12 (Value.int .i64 5); refine (Q2.out _ ?_).mono ?_; rfl; rintro e w' ⟨⟨c', rfl⟩, q, rfl⟩)
      | (go_at_call_of 12 (Value.int .i64 (p2 : Int)); refine (Q3.out _ ?_).mono ?_; rfl; rintro e w' ⟨rfl, rfl⟩)
      | (go_at_call 13; refine (Q4.out _ _ ?_).mono ?_; rfl; rintro e w' ⟨rfl, q2, rfl⟩))
    go_ret
    exact ⟨rfl, by rw [hN]; exact ⟨HK5.out.os, HK5.out.output, HK5.out.size, HK5.out.block⟩⟩
  · go_enter Tryf.func5, Tryf.ntmps5
    go_wp2_with (first | (go_at_call 18; refine (bytes18_no ao n c _ hbig).mono ?_; rintro e w' ⟨rfl, rfl⟩))
    go_ret
    exact ⟨rfl, Kp.refl _ _⟩
end Go.Proofs.Qxb6616642aFmt
