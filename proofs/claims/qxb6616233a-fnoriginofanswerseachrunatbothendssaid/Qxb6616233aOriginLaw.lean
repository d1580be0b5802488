/-
  THE LAW FnOriginOfAnswersEachRunAtBothEnds, WALKED (seat b6616233a).
-/
import Derived.Test.Qxb6616233aOrigin
import Derived.OpenShut
namespace Go.Proofs.Qxb6616233a
open Go.ChangeShapes Go.WideShapes Go.ChangeAt Go.RowKit
set_option linter.unusedVariables false

/-- The origins' cells, one behind the other. -/
def cellsOf (f : Nat → Int) : Nat → List Value
  | 0 => []
  | k + 1 => cellsOf f k ++ orig (f k)
theorem cellsOf_len (f : Nat → Int) : ∀ k, (cellsOf f k).length = k * 5
  | 0 => rfl
  | k + 1 => by simp [cellsOf, cellsOf_len f k, orig]; omega
theorem cellsOf_at (f : Nat → Int) : ∀ k i, i < k → (cellsOf f k)[i * 5]? = some (.int .u32 (f i))
  | 0, i, h => by omega
  | k + 1, i, h => by
    by_cases e : i < k
    · rw [cellsOf, List.getElem?_append_left (by rw [cellsOf_len]; omega)]; exact cellsOf_at f k i e
    · obtain rfl : i = k := by omega
      rw [cellsOf, List.getElem?_append_right (by rw [cellsOf_len]; omega), cellsOf_len, Nat.sub_self]; rfl

theorem dr_of {w : World} {db n : Nat} {f : Nat → Int} (h : Bd w db n (cellsOf f n)) (hn : 0 < n) : ∃ g cap, Dr w db g n cap f := by
  obtain ⟨v, cs, h1, h2, h3⟩ := h
  obtain hv := h3.2
  rcases hv with ⟨_, h0⟩ | ⟨g, cap, cur, rfl, _⟩
  · omega
  · refine ⟨g, cap, ⟨by rw [cell_of_row w db 3 cs 61 (0, 0) h1]; exact h2, fun i hi => ?_⟩⟩
    have := h3.cells (g := g) rfl (i * 5) _ (cellsOf_at f n i hi)
    rwa [Go.WideShapes.add_plain, Nat.zero_add] at this

theorem inc_of {n : Nat} {f : Nat → Int} (h : ∀ j, 1 ≤ j → j < n → f (j - 1) < f j) : ∀ a b, a < b → b < n → f a < f b := by
  intro a b hab hb
  induction b with
  | zero => omega
  | succ b ih =>
    have h1 := h (b + 1) (by omega) hb
    rw [Nat.add_sub_cancel] at h1
    by_cases e : a = b
    · rw [e]; exact h1
    · have := ih (by omega) (by omega); omega

set_option maxRecDepth 100000 in
set_option maxHeartbeats 2000000 in
theorem law5_core (w : World) (n : Int) (b off len cap : Nat) (f : Nat → Int) (hn : n < 4294967296) (hlen : 0 < len) (hlen' : len ≤ 65536) (hcap : len ≤ cap) (hcap' : cap ≤ 9223372036854775807)
    (hc : ∀ i, i < len → w.cell? ⟨b, off + i, none⟩ = some (.int .u32 (f i))) (hf : ∀ i, i < len → 0 ≤ f i ∧ f i < 4294967296) (h0 : f 0 = 0) (hlast : f (len - 1) < n) :
    Calls Try.prog 5 #[.int .u32 n, .slice (some ⟨b, off, none⟩) len cap] w fun e w' => e = .returned (.bool true) ∧ Below w.heap.size w w' := by
  have c0 := hc 0 hlen
  have cl := hc (len - 1) (by omega)
  rw [h0] at c0
  simp only [Nat.add_zero] at c0
  have d1 : decide ((65536 : Int) < (len : Int)) = false := by simp; omega
  have d2 : ((len : Int) == 0) = false := by simp; omega
  have d3 : ¬ n ≤ f (len - 1) := by omega
  have d3' : decide (n ≤ f (len - 1)) = false := by simp; omega
  have HC := hide hc
  have HF := hide hf
  have H0 := hide h0
  have HL := hide hlast
  have hn1 : 1 ≤ n := by have := (hf (len - 1) (by omega)).1; omega
  clear hc hf h0 hlast
  obtain ⟨i0, hi0, _, _, _⟩ := info_parts Try.info65
  have qn : ∀ (w : World) (a : Addr), (binOp .neq 33 (.pointer (some a)) (.pointer (some a))).run Try.prog w = .ok (.bool false) w := fun w a => Lib.run_neq_ptr_same w a Try.underlying33 hi0
  clear hi0
  go_enter Try.func5, Try.ntmps5
  go_wp2_with (go_at_call 8; go_in)
  go_loopw [5] (fun s wx => ∃ k q : Nat, s = .int .i64 k ∧ 1 ≤ k ∧ k ≤ len ∧ wx = w.drewN q ∧ Hid (∀ j, 1 ≤ j → j < k → f (j - 1) < f j)) (fun s _ => len - (intOf s).toNat)
  case atStart => exact ⟨1, 0, rfl, by omega, by omega, rfl, fun j h1 h2 => by omega⟩
  case round =>
    obtain ⟨k, q, rfl, hk1, hk2, rfl, hinc⟩ := hrel
    by_cases hlt : k < len
    · have c1 := HC.out k hlt
      have c2 := HC.out (k - 1) (by omega)
      have j1 : (0 : Int) ≤ (k : Int) := by omega
      have j2 : (k : Int) < (len : Int) := by omega
      have j3 : (0 : Int) ≤ (k : Int) - 1 := by omega
      have j4 : (k : Int) - 1 < (len : Int) := by omega
      by_cases hcmp : f k ≤ f (k - 1)
      · go_wp2_with fail
        go_quiet (fail)
        go_wp2_with fail
        go_ret
        exact ⟨rfl, ⟨rfl, rfl, rfl, Nat.le_refl _, fun _ _ => rfl⟩⟩
      · have hcmp' : decide (f k ≤ f (k - 1)) = false := by simp; omega
        have HCmp := hide hcmp
        clear hcmp
        go_wp2_with fail
        go_quiet (fail)
        go_wp2_with fail
        go_roundw
        case rel => exact ⟨k + 1, q + nq, by go_num, by omega, by omega, rfl, fun j h1 h2 => by
          by_cases e : j < k
          · exact hinc.out j h1 e
          · obtain rfl : j = k := by omega
            have := HCmp.out; omega⟩
        case measure => simp [intOf]; omega
    · obtain rfl : len = k := by omega
      have HInc := hide (inc_of hinc.out)
      clear hinc c0 cl d3 d3'
      go_wp2_with fail
      refine (newDir_any (w.drewN q) n).mono ?_
      rintro e w1 ⟨rfl, hBd, hB1⟩
      obtain ⟨db, hdb⟩ : ∃ db, (w.drewN q).heap.size = db := ⟨_, rfl⟩
      have hdw : w.heap.size = db := hdb
      rw [hdb] at hBd hB1 ⊢
      have hBw : Below db w w1 := ⟨hB1.os, hB1.tape, hB1.output, hB1.size, hB1.block⟩
      have Hdw := hide hdw
      have HBd := hide hBd
      clear hdb hdw hBd hB1
      go_wp2_with fail
      go_loopw [7] (fun s wx => ∃ k : Nat, s = .int .i64 k ∧ k ≤ len ∧ Hid (Bd wx db k (cellsOf f k)) ∧ Below db w wx) (fun s _ => len - (intOf s).toNat)
      case atStart => exact ⟨0, rfl, by omega, HBd.out, hBw⟩
      case round =>
        obtain ⟨k, rfl, hk, hbd, hbw⟩ := hrel
        by_cases hlt : k < len
        · have c1 : wr.cell? ⟨b, off + k, none⟩ = some (.int .u32 (f k)) := (hbw.cell (by have := World.block_lt_of_cell? w _ (HC.out k hlt); rw [← Hdw.out]; exact this)).trans (HC.out k hlt)
          go_wp2_with fail
          refine (addOrigin_any wr db k _ (f k) hbd.out (by omega)).mono ?_
          rintro e w2 ⟨rfl, hbd2, hb2⟩
          have HB2 := hide hbd2
          clear hbd2
          go_wp2_with fail
          go_roundw
          case rel => exact ⟨k + 1, by go_num, by omega, HB2.out, hbw.trans hb2⟩
          case measure => simp [intOf]; omega
        · obtain rfl : len = k := by omega
          obtain ⟨g, cp, hdr⟩ := dr_of hbd.out hlen
          obtain ⟨wo, rfl⟩ : ∃ wo : World, wo = wr := ⟨_, rfl⟩
          have HDr := hide hdr
          clear hbd hdr hBw HBd
          go_wp2_with fail
          go_loopw [8] (fun s wx => ∃ i : Nat, s = .int .i64 i ∧ i ≤ len ∧ Hid (Dr wx db g len cp f) ∧ Below db w wx) (fun s _ => len - (intOf s).toNat)
          case atStart => exact ⟨0, rfl, by omega, HDr.out, hbw⟩
          case round =>
            obtain ⟨i, rfl, hi, hdi, hbi⟩ := hrel
            by_cases hlt : i < len
            · have c1 : wr.cell? ⟨b, off + i, none⟩ = some (.int .u32 (f i)) := (hbi.cell (by have := World.block_lt_of_cell? w _ (HC.out i hlt); rw [← Hdw.out]; exact this)).trans (HC.out i hlt)
              by_cases hnx : i + 1 < len
              · have c2 : wr.cell? ⟨b, off + (i + 1), none⟩ = some (.int .u32 (f (i + 1))) := (hbi.cell (by have := World.block_lt_of_cell? w _ (HC.out (i + 1) hnx); rw [← Hdw.out]; exact this)).trans (HC.out (i + 1) hnx)
                have l1 := HInc.out i (i + 1) (by omega) hnx
                have l2 := (HF.out i hlt).1
                have l3 := (HF.out (i + 1) hnx).2
                go_wp2_with fail
                refine (zzOriginAt_any wr db g len cp i f hdi.out hlt).mono ?_
                rintro e w' ⟨rfl, hw⟩
                obtain rfl := hw.symm
                go_wp2_with fail
                refine (zzOriginOf_any wr db g len cp i (f i) f hdi.out (by omega) HInc.out hlt (Int.le_refl _) (fun h => HInc.out i (i + 1) (by omega) h)).mono ?_
                rintro e w2 ⟨rfl, hb2⟩
                have HD2 := hide (hdi.out.below hb2)
                have hbw2 : Below db w w2 := hbi.trans (hb2.mono (Nat.le_trans (Nat.le_of_eq Hdw.out.symm) hbi.size))
                clear hb2
                go_wp2_with fail
                refine (zzOriginOf_any w2 db g len cp i (f (i + 1) - 1) f HD2.out (by omega) HInc.out hlt (by omega) (fun h => by omega)).mono ?_
                rintro e w3 ⟨rfl, hb3⟩
                have HD3 := hide (HD2.out.below hb3)
                have hbw3 : Below db w w3 := hbw2.trans (hb3.mono (Nat.le_trans (Nat.le_of_eq Hdw.out.symm) hbw2.size))
                clear hb3
                go_wp2_with fail
                go_roundw
                case rel => exact ⟨i + 1, by go_num, by omega, HD3.out, hbw3⟩
                case measure => simp [intOf]; omega
              · have l2 : f i ≤ n - 1 := by
                  have := HL.out
                  rw [show len - 1 = i from by omega] at this; omega
                have l3 : n - 1 < 4294967296 := by omega
                go_wp2_with fail
                refine (zzOriginAt_any wr db g len cp i f hdi.out hlt).mono ?_
                rintro e w' ⟨rfl, hw⟩
                obtain rfl := hw.symm
                go_wp2_with fail
                refine (zzOriginOf_any wr db g len cp i (f i) f hdi.out (by omega) HInc.out hlt (Int.le_refl _) (fun h => HInc.out i (i + 1) (by omega) h)).mono ?_
                rintro e w2 ⟨rfl, hb2⟩
                have HD2 := hide (hdi.out.below hb2)
                have hbw2 : Below db w w2 := hbi.trans (hb2.mono (Nat.le_trans (Nat.le_of_eq Hdw.out.symm) hbi.size))
                clear hb2
                go_wp2_with fail
                refine (zzOriginOf_any w2 db g len cp i (n - 1) f HD2.out (by omega) HInc.out hlt (by omega) (fun h => by omega)).mono ?_
                rintro e w3 ⟨rfl, hb3⟩
                have HD3 := hide (HD2.out.below hb3)
                have hbw3 : Below db w w3 := hbw2.trans (hb3.mono (Nat.le_trans (Nat.le_of_eq Hdw.out.symm) hbw2.size))
                clear hb3
                go_wp2_with fail
                go_roundw
                case rel => exact ⟨i + 1, by go_num, by omega, HD3.out, hbw3⟩
                case measure => simp [intOf]; omega
            · go_wp2_with fail
              go_ret
              exact ⟨rfl, by rw [Hdw.out]; exact hbi⟩
end Go.Proofs.Qxb6616233a
