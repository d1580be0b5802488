/-
  (*bufio.Writer).Write over a bytes.Buffer (seat b6616642aF): what was flushed and what is pending, together, grow by what is written.
-/
import Derived.Test.Qxb6616642aFmtFlush
import Derived.Deep.MidRow
namespace Go.Proofs.Qxb6616642aFmt
open Go.Shelf Go.RowKit

def pend (N : Nat) (w : World) : Nat := match w.cell? ⟨N + 2, 2, none⟩ with | some (.int _ z) => z.toNat | _ => 0
theorem SW.pend {N : Nat} {fl pe : List Int} {w : World} (h : SW N fl pe w) : pend N w = pe.length := by
  unfold Qxb6616642aFmt.pend
  rw [h.cells.2.2.1]
  simp
def slen : Value → Nat | .slice _ n _ => n | _ => 0

/-- A block that the writer's functions do not touch. -/
structure Far (N b : Nat) (w : World) : Prop where
  ne : ¬ SB N b
  row : ¬ RowOf w N b
  lt : b < w.heap.size
theorem Far.on {N b : Nat} {w w' : World} (h : Far N b w) (hf : Fw (SB N) N w w') : Far N b w' :=
  ⟨h.ne, fun e => by rcases hf.row b e with e | e; exact h.row e; have := h.lt; omega, Nat.lt_of_lt_of_le h.lt hf.size⟩
theorem Far.block {N b : Nat} {w w' : World} (h : Far N b w) (hf : Fw (SB N) N w w') : w'.heap[b]? = w.heap[b]? := hf.block b h.lt h.ne h.row

theorem SW.setE {N : Nat} {fl pe : List Int} {w : World} (h : SW N fl pe w) : SW N fl pe (w.setCell ⟨N + 2, 0, none⟩ .nilIface) := by
  obtain ⟨h1, h2, h3, h4, h5⟩ := h
  refine ⟨?_, ?_, ?_, ?_, h5⟩
  · obtain ⟨lr, ⟨e, hb⟩ | ⟨e, g, cap, cur, hb, hg, r1, r2, r3, r4, hn⟩⟩ := h1
    · exact ⟨lr, .inl ⟨e, by rw [Below.heap_setCell _ _ _ _ (by show N ≠ N + 2; omega)]; exact hb⟩⟩
    · by_cases hg2 : g = N + 2
      · omega
      · exact ⟨lr, .inr ⟨e, g, cap, cur, by rw [Below.heap_setCell _ _ _ _ (by show N ≠ N + 2; omega)]; exact hb, by rw [Below.heap_setCell _ _ _ _ (by show g ≠ N + 2; omega)]; exact hg, r1, r2, r3, r4, hn⟩⟩
  · rw [Below.heap_setCell _ _ _ _ (by show N + 1 ≠ N + 2; omega)]; exact h2
  · exact Lib.heap_setCell_same (i := 0) h3 _
  · rw [Below.heap_setCell _ _ _ _ (by show N + 3 ≠ N + 2; omega)]; exact h4
theorem Fw.ofDrewN {S : Nat → Prop} {N n : Nat} {w w' : World} (h : Fw S N (w.drewN n) w') : Fw S N w w' := ⟨h.os, h.output, h.size, h.block, h.row⟩
theorem Fw.ofDrew {S : Nat → Prop} {N : Nat} {w w' : World} (h : Fw S N w.drew w') : Fw S N w w' := ⟨h.os, h.output, h.size, h.block, h.row⟩

/-- What is still to be written, at the head of a round. -/
structure Todo (N : Nat) (fl pe cs : List Int) (sb so n : Nat) (w : World) (p nn : Value) (W : World) : Prop where
  ex : ∃ (k : Nat) (fl' pe' : List Int) (ao : Option Addr) (c : Nat), k ≤ n ∧ n - k ≤ c ∧ c ≤ maxLen ∧ p = .slice ao (n - k) c ∧ nn = .int .i64 k ∧ SW N fl' pe' W ∧ fl' ++ pe' = fl ++ pe ++ cs.take k ∧ Fw (SB N) N w W ∧
    (0 < n - k → ao = some ⟨sb, so + k, none⟩ ∧ W.rangeAt sb (so + k) (ic (cs.drop k))) ∧ (4096 - pe'.length < n - k → Far N sb W)

set_option maxHeartbeats 6400000 in
set_option maxRecDepth 100000 in
theorem bwrite_any (N : Nat) (fl pe cs : List Int) (sb so n c : Nat) (ao : Option Addr) (w : World) (h : SW N fl pe w) (hn : cs.length = n) (hc : n ≤ c) (hcm : c ≤ maxLen) (hao : 0 < n → ao = some ⟨sb, so, none⟩ ∧ w.rangeAt sb so (ic cs)) (hfar : 4096 - pe.length < n → Far N sb w) (hlim : fl.length + pe.length + n ≤ 1000000000) :
    Calls Tryf.prog 25 #[.pointer (some ⟨N + 2, 0, none⟩), .slice ao n c] w fun e w' => ∃ fl' pe', e = .returned (.tuple #[.int .i64 n, .nilIface]) ∧ SW N fl' pe' w' ∧ fl' ++ pe' = fl ++ pe ++ cs ∧ Fw (SB N) N w w' := by
  have H0 : Hid (Todo N fl pe cs sb so n w (.slice ao n c) (.int .i64 0) w) := ⟨0, fl, pe, ao, c, by omega, by omega, hcm, rfl, rfl, h, by simp, Fw.refl _ _ _, by simpa using hao, by simpa using hfar⟩
  clear h hao hfar hc hcm
  go_enter Tryf.func25, Tryf.ntmps25
  go_wp2_with fail
  go_loopw [1, 4] (fun p nn W => Hid (Todo N fl pe cs sb so n w p nn W)) (fun p _ W => slen p + pend N W)
  case atStart => exact H0
  case round =>
    clear H0
    obtain ⟨k, fl', pe', ao, c, hkn, hc, hcm, rfl, rfl, hS, hcat, hF, hao, hfar⟩ := hrel.out
    have hle := hS.le
    obtain ⟨d0, d1, d2, d3, -, fz⟩ := hS.cells
    have HS := hide hS
    have HF := hide hF
    have HA := hide hao
    have HFar := hide hfar
    have hcm' := hcm
    unfold maxLen at hcm'
    clear hS hF hao hfar hrel
    by_cases hlt : 4096 - pe'.length < n - k
    · -- A ROUND
      have hi1 : (4096 - (pe'.length : Int)) < ((n - k : Nat) : Int) := by omega
      have hpos : 0 < n - k := by omega
      obtain ⟨rfl, hsrc⟩ := HA.out hpos
      have hFar := HFar.out hlt
      have HSrc := hide hsrc
      clear HA HFar hsrc
      by_cases h0 : pe' = []
      · -- NOTHING IS PENDING: straight into the buffer
        subst h0
        have hm := wr_method
        have HB : Hid (∀ W : World, W.heap = wr.heap → Calls Tryf.prog 76 #[.pointer (some ⟨N, 0, none⟩), .slice (some ⟨sb, so + k, none⟩) (n - k) c] W fun e w' => e = .returned (.tuple #[.int .i64 (n - k : Nat), .nilIface]) ∧ SW N (fl' ++ cs.drop k) [] w' ∧ Fw (SB N) N W w') := fun W hW => by
          have hS := HS.out.heap hW
          have hl2 : fl'.length ≤ 1000000000 := by have := congrArg List.length hcat; simp at this; omega
          refine (bw_any N fl' (cs.drop k) ⟨sb, so + k, none⟩ (n - k) c W hS.buf (by simp [hn]) hpos (fun e => hFar.ne (.inl e)) ?_ (by omega) hS.size).mono ?_
          · intro j v hj
            rw [Addr.add_mid, World.cell?_of_block (a := ⟨sb, so + k + j, none⟩) (w := wr) (by rw [hW])]
            exact HSrc.out j v hj
          · rintro e w' ⟨rfl, h1, h2⟩
            exact ⟨rfl, hS.wrote _ h1 h2 hS.size, h2.mono fun k h => .inl h⟩
        go_wp2_with (first
          | (go_at_call 34; refine (avail_any N fl' [] _ ?_).mono ?_; exact HS.out.heap rfl; rintro e w' ⟨rfl, q, rfl⟩)
          | (go_at_call 35; refine (buffered_any N fl' [] _ ?_).mono ?_; exact HS.out.heap rfl; rintro e w' ⟨rfl, rfl⟩)
          | (go_at_call 76; refine (HB.out _ ?_).mono ?_; rfl; rintro e w2 ⟨rfl, hS2, hF2⟩; obtain ⟨e0, e1, e2, e3, -, fz2⟩ := hS2.cells; replace hS2 := hide hS2))
        go_roundw
        case rel =>
          refine ⟨n, fl' ++ cs.drop k, [], _, c - (n - k), Nat.le_refl _, by omega, by omega, by rw [Nat.sub_self], ?_, hS2.out.setE, ?_, HF.out.trans (hF2.ofDrewN.setQ 0 _), fun h => by omega, fun h => by omega⟩
          · congr 1; omega
          · rw [List.append_nil] at hcat
            rw [List.append_nil, hcat, List.append_assoc, List.take_append_drop, List.take_of_length_le (by omega)]
        case measure =>
          rw [hS2.out.setE.pend, HS.out.pend]
          simp [slen]
          omega
      · -- SOMETHING IS PENDING: fill the row, flush it
        have hp0 : 0 < pe'.length := by cases pe' with | nil => exact absurd rfl h0 | cons a b => simp
        have hi2 : (pe'.length : Int) ≤ 4096 := by omega
        go_wp2_with (first
          | (go_at_call 34; refine (avail_any N fl' pe' _ ?_).mono ?_; exact HS.out.heap rfl; rintro e w' ⟨rfl, q, rfl⟩)
          | (go_at_call 35; refine (buffered_any N fl' pe' _ ?_).mono ?_; exact HS.out.heap rfl; rintro e w' ⟨rfl, rfl⟩))
        obtain ⟨W', hcp, hC⟩ := copyTo (HS.out.heap (w' := wr.drewN (q + 1)) rfl) ((cs.drop k).take (4096 - pe'.length)) (some ⟨sb, so + k, none⟩) (n - k) c (by rw [List.length_take, List.length_drop, hn, Nat.min_comm])
          (fun _ => ⟨_, rfl, fun j v hj => by
            rw [Addr.add_mid]
            refine HSrc.out j v ?_
            simp only [ic, List.map_take, List.getElem?_take] at hj ⊢
            split at hj
            · exact hj
            · cases hj⟩)
        have hlen : ((cs.drop k).take (4096 - pe'.length)).length = 4096 - pe'.length := by rw [List.length_take, List.length_drop, hn]; omega
        rw [hlen] at hcp
        go_region
        obtain ⟨f0, f1, f2, f3, -, fz2⟩ := hC.sw.cells
        have HC := hide hC
        clear hC hcp
        have HL : Hid (∀ W : World, SW N fl' (pe' ++ (cs.drop k).take (4096 - pe'.length)) W → Calls Tryf.prog 28 #[.pointer (some ⟨N + 2, 0, none⟩)] W fun e w' => e = .returned .nilIface ∧ SW N (fl' ++ (pe' ++ (cs.drop k).take (4096 - pe'.length))) [] w' ∧ Fw (SB N) N W w') := fun W hW =>
          flush_any N fl' _ W hW (by have := congrArg List.length hcat; simp at this; omega)
        go_wp2_with (first
          | (go_at_call 28; refine (HL.out _ ?_).mono ?_; exact HC.out.sw.setN _ (by rw [List.length_append, hlen]; omega) HC.out.row _ (by rw [List.length_append, hlen]; omega); rintro e w2 ⟨rfl, hS2, hF2⟩))
        go_roundw
        case rel =>
          refine ⟨k + (4096 - pe'.length), fl' ++ (pe' ++ (cs.drop k).take (4096 - pe'.length)), [], _, c - (4096 - pe'.length), by omega, by omega, by omega, by rw [← Nat.sub_sub], ?_, hS2, ?_, HF.out.trans ((HC.out.fw.ofDrewN.setQ 2 _).trans hF2), fun h => ⟨?_, ?_⟩, fun _ => hFar.on ((HC.out.fw.ofDrewN.setQ 2 _).trans hF2)⟩
          · congr 1 <;> omega
          · rw [List.append_nil, ← List.append_assoc, hcat, List.append_assoc, ← List.take_add]
          · rw [Nat.add_assoc]
          · intro j v hj
            rw [World.cell?_of_block (a := ⟨sb, so + (k + (4096 - pe'.length)) + j, none⟩) (hFar.block ((HC.out.fw.ofDrewN.setQ 2 _).trans hF2))]
            have := HSrc.out (4096 - pe'.length + j) v (by
              rw [← hj, ← List.drop_drop]
              simp [ic, List.getElem?_drop, Nat.add_assoc])
            rw [← this]
            congr 2; omega
        case measure =>
          rw [hS2.pend, HS.out.pend]
          simp [slen]
          omega
    · -- THE REST FITS
      have hi1 : ¬ (4096 - (pe'.length : Int)) < ((n - k : Nat) : Int) := by omega
      have hi2 : (pe'.length : Int) ≤ 4096 := by omega
      clear HFar
      go_wp2_with (first
        | (go_at_call 34; refine (avail_any N fl' pe' _ ?_).mono ?_; exact HS.out.heap rfl; rintro e w' ⟨rfl, q, rfl⟩))
      obtain ⟨W', hcp, hC⟩ := copyTo (HS.out.heap (w' := wr.drewN (q + 1)) rfl) (cs.drop k) ao (n - k) c (by rw [List.length_drop, hn]; have : Nat.min (n - k) (4096 - pe'.length) = n - k := Nat.min_eq_left (by omega); omega)
        (fun h => by
          obtain ⟨e, hr⟩ := HA.out (by rw [List.length_drop, hn] at h; exact h)
          exact ⟨_, e, fun j v hj => by rw [Addr.add_mid]; exact hr j v hj⟩)
      have hlen : (cs.drop k).length = n - k := by rw [List.length_drop, hn]
      rw [hlen] at hcp
      go_region
      obtain ⟨f0, f1, f2, f3, -, fz2⟩ := hC.sw.cells
      have HC := hide hC
      clear hC hcp
      go_wp2
      all_goals (
        go_ret2
        refine ⟨?_, fl', pe' ++ cs.drop k, HC.out.sw.setN _ (by rw [List.length_append, hlen]; omega) HC.out.row _ (by rw [List.length_append, hlen]; omega), ?_, HF.out.trans (HC.out.fw.ofDrewN.setQ 2 _)⟩
        · show Ending.returned (Value.tuple #[.int .i64 ((k : Int) + ((n - k : Nat) : Int)), .nilIface]) = _
          rw [show (k : Int) + ((n - k : Nat) : Int) = n by omega]
        · rw [← List.append_assoc, hcat, List.append_assoc, List.append_assoc, List.take_append_drop])
end Go.Proofs.Qxb6616642aFmt
