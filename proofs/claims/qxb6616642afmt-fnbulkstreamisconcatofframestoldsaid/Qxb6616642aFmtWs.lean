/-
  (*bufio.Writer).WriteString at CR LF (seat b6616642aF).
-/
import Derived.Test.Qxb6616642aFmtWr
namespace Go.Proofs.Qxb6616642aFmt
open Go.Shelf Go.RowKit

/-- CR LF, from its k-th byte on. -/
def crlf (k : Nat) : Value := if k = 0 then .string ⟨#[13, 10]⟩ else .string ⟨#[10]⟩

/-- What is still to be written, at the head of a round: all of CR LF, or (the row then empty) LF. -/
def TodoS (N : Nat) (fl pe : List Int) (w : World) (s nn : Value) (W : World) : Prop :=
  (s = .string ⟨#[13, 10]⟩ ∧ nn = .int .i64 0 ∧ ∃ fl' pe', SW N fl' pe' W ∧ fl' ++ pe' = fl ++ pe ∧ Fw (SB N) N w W) ∨
  (s = .string ⟨#[10]⟩ ∧ nn = .int .i64 1 ∧ ∃ fl', SW N fl' [] W ∧ fl' = fl ++ pe ++ [13] ∧ Fw (SB N) N w W)
def stlen : Value → Nat | .string s => s.size | _ => 0

set_option maxHeartbeats 6400000 in
set_option maxRecDepth 100000 in
theorem wstr_any (N : Nat) (fl pe : List Int) (w : World) (h : SW N fl pe w) (hlim : fl.length + pe.length ≤ 1000000000) :
    Calls Tryf.prog 26 #[.pointer (some ⟨N + 2, 0, none⟩), .string ⟨#[13, 10]⟩] w fun e w' => ∃ fl' pe', e = .returned (.tuple #[.int .i64 2, .nilIface]) ∧ SW N fl' pe' w' ∧ fl' ++ pe' = fl ++ pe ++ [13, 10] ∧ Fw (SB N) N w w' := by
  have H0 : Hid (TodoS N fl pe w (.string ⟨#[13, 10]⟩) (.int .i64 0) w) := .inl ⟨rfl, rfl, fl, pe, h, rfl, Fw.refl _ _ _⟩
  clear h
  go_enter Tryf.func26, Tryf.ntmps26
  go_wp2_with fail
  go_loopw [1, 8] (fun s nn W => Hid (TodoS N fl pe w s nn W)) (fun s _ W => stlen s + pend N W)
  case atStart => exact H0
  case round =>
    clear H0
    rcases hrel.out with ⟨rfl, rfl, fl', pe', hS, hcat, hF⟩ | ⟨rfl, rfl, fl', hS, hcat, hF⟩
    · have hle := hS.le
      obtain ⟨d0, d1, d2, d3, -, fz⟩ := hS.cells
      have hi2 : (pe'.length : Int) ≤ 4096 := by omega
      have HS := hide hS
      have HF := hide hF
      clear hS hF hrel
      by_cases hlt : 4096 - pe'.length < 2
      · have hi1 : 4096 - (pe'.length : Int) < 2 := by omega
        have hi3 : ((pe'.length : Int) == 0) = false := beq_eq_false_iff_ne.2 (by omega)
        go_wp2_with (first
          | (go_at_call 34; refine (avail_any N fl' pe' _ ?_).mono ?_; exact HS.out.heap rfl; rintro e w' ⟨rfl, q, rfl⟩)
          | (go_at_call 35; refine (buffered_any N fl' pe' _ ?_).mono ?_; exact HS.out.heap rfl; rintro e w' ⟨rfl, rfl⟩))
        by_cases h95 : pe'.length = 4095
        · obtain ⟨W', hcp, hC⟩ := copyToS (HS.out.heap (w' := wr.drewN (q + 1)) rfl) ⟨#[13, 10]⟩ [13] (by rw [h95]; rfl)
          have hcp' : (Builtin.copy_ #[22, 9] 3 #[.slice (if 4096 = pe'.length then some ⟨N + 1, 0, none⟩ else some ⟨N + 1, pe'.length, none⟩) (4096 - pe'.length) (4096 - pe'.length), .string ⟨#[13, 10]⟩]).run Tryf.prog (wr.drewN (q + 1)) = .ok (.int .i64 1) W' := hcp
          have HL : Hid (∀ W : World, SW N fl' (pe' ++ [13]) W → Calls Tryf.prog 28 #[.pointer (some ⟨N + 2, 0, none⟩)] W fun e w' => e = .returned .nilIface ∧ SW N (fl' ++ (pe' ++ [13])) [] w' ∧ Fw (SB N) N W w') := fun W hW =>
            flush_any N fl' _ W hW (by have := congrArg List.length hcat; simp at this; omega)
          have HX := hide h95
          clear hcp h95
          go_region
          obtain ⟨f0, f1, f2, f3, -, fz2⟩ := hC.sw.cells
          have HC := hide hC
          clear hC hcp'
          go_wp2_with (first
            | (go_at_call 28; refine (HL.out _ ?_).mono ?_; exact HC.out.sw.setN _ (by rw [List.length_append, HX.out]; decide) HC.out.row _ (by rw [List.length_append, HX.out]; first | rfl | decide); rintro e w2 ⟨rfl, hS2, hF2⟩))
          go_roundw
          case rel => exact .inr ⟨by kernel_rfl, rfl, fl' ++ (pe' ++ [13]), hS2, by rw [← List.append_assoc, hcat], HF.out.trans ((HC.out.fw.ofDrewN.setQ 2 _).trans hF2)⟩
          case measure =>
            rw [hS2.pend, HS.out.pend, show stlen (Value.string (ByteArray.extract ⟨#[13, 10]⟩ 1 2)) = 1 by kernel_rfl, show stlen (Value.string ⟨#[13, 10]⟩) = 2 by kernel_rfl]
            simp
            omega
        · have h96 : pe'.length = 4096 := by omega
          obtain ⟨W', hcp, hC⟩ := copyToS (HS.out.heap (w' := wr.drewN (q + 1)) rfl) ⟨#[13, 10]⟩ [] (by rw [h96]; rfl)
          have hcp' : (Builtin.copy_ #[22, 9] 3 #[.slice (if 4096 = pe'.length then some ⟨N + 1, 0, none⟩ else some ⟨N + 1, pe'.length, none⟩) (4096 - pe'.length) (4096 - pe'.length), .string ⟨#[13, 10]⟩]).run Tryf.prog (wr.drewN (q + 1)) = .ok (.int .i64 0) W' := hcp
          have HL : Hid (∀ W : World, SW N fl' (pe' ++ []) W → Calls Tryf.prog 28 #[.pointer (some ⟨N + 2, 0, none⟩)] W fun e w' => e = .returned .nilIface ∧ SW N (fl' ++ (pe' ++ [])) [] w' ∧ Fw (SB N) N W w') := fun W hW =>
            flush_any N fl' _ W hW (by have := congrArg List.length hcat; simp at this; omega)
          have HX := hide h96
          clear hcp h96 h95
          go_region
          obtain ⟨f0, f1, f2, f3, -, fz2⟩ := hC.sw.cells
          have HC := hide hC
          clear hC hcp'
          go_wp2_with (first
            | (go_at_call 28; refine (HL.out _ ?_).mono ?_; exact HC.out.sw.setN _ (by rw [List.length_append, HX.out]; decide) HC.out.row _ (by rw [List.length_append, HX.out]; first | rfl | decide); rintro e w2 ⟨rfl, hS2, hF2⟩))
          go_roundw
          case rel => exact .inl ⟨by kernel_rfl, rfl, _, _, hS2, by rw [List.append_nil, List.append_nil, hcat], HF.out.trans ((HC.out.fw.ofDrewN.setQ 2 _).trans hF2)⟩
          case measure =>
            rw [hS2.pend, HS.out.pend, HX.out, show stlen (Value.string (ByteArray.extract ⟨#[13, 10]⟩ 0 2)) = 2 by kernel_rfl, show stlen (Value.string ⟨#[13, 10]⟩) = 2 by kernel_rfl]
            decide
      · have hi1 : ¬ 4096 - (pe'.length : Int) < 2 := by omega
        go_wp2_with (first
          | (go_at_call 34; refine (avail_any N fl' pe' _ ?_).mono ?_; exact HS.out.heap rfl; rintro e w' ⟨rfl, q, rfl⟩))
        obtain ⟨W', hcp, hC⟩ := copyToS (HS.out.heap (w' := wr.drewN (q + 1)) rfl) ⟨#[13, 10]⟩ [13, 10] (by
          rw [show Nat.min (ByteArray.size ⟨#[13, 10]⟩) (4096 - pe'.length) = 2 from Nat.min_eq_left (show 2 ≤ 4096 - pe'.length by omega)]; rfl)
        have hcp' : (Builtin.copy_ #[22, 9] 3 #[.slice (if 4096 = pe'.length then some ⟨N + 1, 0, none⟩ else some ⟨N + 1, pe'.length, none⟩) (4096 - pe'.length) (4096 - pe'.length), .string ⟨#[13, 10]⟩]).run Tryf.prog (wr.drewN (q + 1)) = .ok (.int .i64 2) W' := hcp
        clear hcp
        go_region
        obtain ⟨f0, f1, f2, f3, -, fz2⟩ := hC.sw.cells
        have HC := hide hC
        clear hC hcp'
        go_wp2
        all_goals (
          go_ret2
          refine ⟨rfl, fl', pe' ++ [13, 10], HC.out.sw.setN _ (by simp; omega) HC.out.row _ (by simp), ?_, HF.out.trans (HC.out.fw.ofDrewN.setQ 2 _)⟩
          rw [← List.append_assoc, hcat, List.append_assoc])
    · obtain ⟨d0, d1, d2, d3, -, fz⟩ := hS.cells
      have HS := hide hS
      have HF := hide hF
      clear hS hF hrel
      go_wp2_with (first
        | (go_at_call 34; refine (avail_any N fl' [] _ ?_).mono ?_; exact HS.out.heap rfl; rintro e w' ⟨rfl, q, rfl⟩))
      obtain ⟨W', hcp, hC⟩ := copyToS (HS.out.heap (w' := wr.drewN (q + 1)) rfl) ⟨#[10]⟩ [10] (by rfl)
      have hcp' : (Builtin.copy_ #[22, 9] 3 #[.slice (some ⟨N + 1, 0, none⟩) 4096 4096, .string ⟨#[10]⟩]).run Tryf.prog (wr.drewN (q + 1)) = .ok (.int .i64 1) W' := hcp
      clear hcp
      go_region
      obtain ⟨f0, f1, f2, f3, -, fz2⟩ := hC.sw.cells
      have HC := hide hC
      clear hC hcp'
      go_wp2
      all_goals (
        go_ret2
        refine ⟨fl', [10], rfl, HC.out.sw.setN ([] ++ [10]) (by simp) HC.out.row 1 (by simp), ?_, HF.out.trans (HC.out.fw.ofDrewN.setQ 2 _)⟩
        rw [hcat]; simp)
end Go.Proofs.Qxb6616642aFmt
