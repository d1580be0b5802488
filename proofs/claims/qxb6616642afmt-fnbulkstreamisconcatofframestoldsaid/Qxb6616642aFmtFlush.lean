/-
  (*bufio.Writer).Flush over a bytes.Buffer (seat b6616642aF): what was pending is in the buffer.
-/
import Derived.Test.Qxb6616642aFmtBufio
import Derived.Deep.RegionWith
namespace Go.Proofs.Qxb6616642aFmt
open Go.Shelf Go.RowKit

theorem wr_method (a : Addr) (w : World) : (method 221 25 (.pointer (some a)) "Write").run Tryf.prog w = .ok (76, .pointer (some a)) w := by kernel_rfl

/-- What lies at the row's head. -/
theorem SW.src {N : Nat} {fl pe : List Int} {w : World} (h : SW N fl pe w) : ∀ j v, (ic pe)[j]? = some v → w.cell? ((⟨N + 1, 0, none⟩ : Addr).add j) = some v := by
  obtain ⟨cur, h1, h2, h3⟩ := h.row
  rw [← h3]
  exact Lib.cells_of_row h1 _

set_option maxHeartbeats 6400000 in
set_option maxRecDepth 100000 in
theorem flush_any (N : Nat) (fl pe : List Int) (w : World) (h : SW N fl pe w) (hlim : fl.length + 4096 ≤ 1000000000000) :
    Calls Tryf.prog 28 #[.pointer (some ⟨N + 2, 0, none⟩)] w fun e w' => e = .returned .nilIface ∧ SW N (fl ++ pe) [] w' ∧ Fw (SB N) N w w' := by
  obtain ⟨c0, c1, c2, c3, -, fz⟩ := h.cells
  have hle := h.le
  by_cases h0 : pe = []
  · subst h0
    have H := hide h
    clear h
    go_enter Tryf.func28, Tryf.ntmps28
    go_wp2
    go_ret
    exact ⟨rfl, by simpa using H.out, Fw.refl _ _ _⟩
  · have hpos : 0 < pe.length := by cases pe with | nil => exact absurd rfl h0 | cons a b => simp
    obtain ⟨k, hk⟩ : ∃ k, pe.length = k := ⟨_, rfl⟩
    have H := hide h
    rw [hk] at c2 hle hpos
    have i1 : (0 : Int) < (k : Int) := by omega
    have i2 : (k : Int) ≤ 4096 := by omega
    clear h
    go_enter Tryf.func28, Tryf.ntmps28
    go_wp2
    have mixed : Tryf.prog.follows Departure.mixedOrders = true := by kernel_rfl
    have HB : Hid (∀ W : World, W.heap = w.heap → Calls Tryf.prog 76 #[.pointer (some ⟨N, 0, none⟩), .slice (some ⟨N + 1, 0, none⟩) k 4096] W fun e w' => e = .returned (.tuple #[.int .i64 k, .nilIface]) ∧ SW N (fl ++ pe) pe w' ∧ Fw (SB N) N W w') := fun W hW => by
      have hS := H.out.heap hW
      refine (bw_any N fl pe ⟨N + 1, 0, none⟩ k 4096 W hS.buf hk hpos (by show N + 1 ≠ N; omega) hS.src (by omega) hS.size).mono ?_
      rintro e w' ⟨rfl, h1, h2⟩
      exact ⟨rfl, hS.wrote _ h1 h2 hS.size, h2.mono fun k h => .inl h⟩
    have hm := wr_method
    go_region_with (
      go_at_call 76
      refine (HB.out _ ?_).mono ?_
      rfl
      rintro e w2 ⟨rfl, hS2, hF2⟩
      obtain ⟨d0, d1, d2, d3, -, fz2⟩ := hS2.cells
      rw [hk] at d2
      replace hS2 := hide hS2)
    all_goals (
      go_wp2
      go_ret
      obtain ⟨cur, r1, r2, _⟩ := hS2.out.row
      exact ⟨rfl, hS2.out.setN [] (by simp) ⟨cur, r1, r2, by simp [ic]⟩ 0 rfl, (show Fw (SB N) N w w2 from ⟨hF2.os, hF2.output, hF2.size, hF2.block, hF2.row⟩).setQ 2 _⟩)
end Go.Proofs.Qxb6616642aFmt
