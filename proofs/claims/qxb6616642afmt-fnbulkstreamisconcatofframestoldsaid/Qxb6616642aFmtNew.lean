/-
  resp.ZZnew, resp.ZZflushed, by contracts (seat b6616642aF).
-/
import Derived.Test.Qxb6616642aFmtResp
namespace Go.Proofs.Qxb6616642aFmt
open Go.Shelf Go.RowKit

theorem assert_no (a : Addr) (w : World) : (Instr.typeAssert (.iface 25 (.pointer (some a))) 58 49 true).run Tryf.prog w = .ok (.tuple #[.pointer none, .bool false]) w := by kernel_rfl

set_option maxHeartbeats 1000000 in
set_option maxRecDepth 100000 in
theorem nws_any (a : Addr) (w : World) : Calls Tryf.prog 38 #[.iface 25 (.pointer (some a)), .int .i64 4096] w fun e w' =>
    ∃ M : Array Value, M.size = 4096 ∧ e = .returned (.pointer (some ⟨w.heap.size + 1, 0, none⟩)) ∧ w' = (w.alloc (.cells M 5)).alloc (.cells #[.nilIface, .slice (some ⟨w.heap.size, 0, none⟩) 4096 4096, .int .i64 0, .iface 25 (.pointer (some a))] 63) := by
  obtain ⟨i0, hi, hz0, hz1, hz2⟩ := infoByte
  obtain ⟨M, hM⟩ : ∃ M, M = madeCells (Value.int .u8 0).cells ((4096 : Int).toNat * i0.size) := ⟨_, rfl⟩
  have hMs : M.size = 4096 := by rw [hM, size_madeCells, hz1]; rfl
  have hmk : ∀ W : World, (Instr.makeSlice 22 (.int .i64 4096) (.int .i64 4096)).run Tryf.prog W = .ok (.slice (some ⟨W.heap.size, 0, none⟩) 4096 4096) (W.alloc (.cells M 5)) := fun W => by
    have h := run_makeSlice (P := Tryf.prog) W 22 5 i0 (.int .u8 0) und22 hi hz0 .i64 .i64 4096 4096 (by omega) (by omega) (by rw [hz1]; decide) (by rw [hz2]; decide) (by decide)
    rw [← hM] at h
    simpa using h
  clear hM
  have hta := assert_no a
  go_enter Tryf.func38, Tryf.ntmps38
  go_wp2
  go_ret
  exact ⟨M, hMs, rfl, rfl⟩

set_option maxRecDepth 100000 in
theorem nw_any (a : Addr) (w : World) : Calls Tryf.prog 31 #[.iface 25 (.pointer (some a))] w fun e w' =>
    ∃ M : Array Value, M.size = 4096 ∧ e = .returned (.pointer (some ⟨w.heap.size + 1, 0, none⟩)) ∧ w' = (w.alloc (.cells M 5)).alloc (.cells #[.nilIface, .slice (some ⟨w.heap.size, 0, none⟩) 4096 4096, .int .i64 0, .iface 25 (.pointer (some a))] 63) := by
  go_enter Tryf.func31, Tryf.ntmps31
  go_wp2_with (go_at_call 38; refine (nws_any a _).mono ?_)
  rintro e w' ⟨M, hM, rfl, rfl⟩
  go_wp2
  go_ret
  exact ⟨M, hM, rfl, rfl⟩

set_option maxRecDepth 100000 in
theorem rnew_any (a : Addr) (w : World) : Calls Tryf.prog 23 #[.iface 25 (.pointer (some a))] w fun e w' =>
    ∃ M : Array Value, M.size = 4096 ∧ e = .returned (.pointer (some ⟨w.heap.size + 2, 0, none⟩)) ∧ w' = ((w.alloc (.cells M 5)).alloc (.cells #[.nilIface, .slice (some ⟨w.heap.size, 0, none⟩) 4096 4096, .int .i64 0, .iface 25 (.pointer (some a))] 63)).alloc (.cells #[.pointer (some ⟨w.heap.size + 1, 0, none⟩)] 51) := by
  go_enter Tryf.func23, Tryf.ntmps23
  go_wp2_with (go_at_call 31; refine (nw_any a _).mono ?_)
  rintro e w' ⟨M, hM, rfl, rfl⟩
  go_wp2
  go_ret
  exact ⟨M, hM, rfl, rfl⟩

/-- Four new blocks: the state of a new Writer. -/
theorem four_new (w : World) (A B C D : Obj) (M : Array Value) (hM : M.size = 4096) (hA : A = .cells #[.slice none 0 0, .int .i64 0, .int .i8 0] 45) (hB : B = .cells M 5)
    (hC : C = .cells #[.nilIface, .slice (some ⟨w.heap.size + 1, 0, none⟩) 4096 4096, .int .i64 0, .iface 25 (.pointer (some ⟨w.heap.size, 0, none⟩))] 63) (hD : D = .cells #[.pointer (some ⟨w.heap.size + 2, 0, none⟩)] 51) :
    SW w.heap.size [] [] ((((w.alloc A).alloc B).alloc C).alloc D) ∧ Kp w.heap.size w ((((w.alloc A).alloc B).alloc C).alloc D) := by
  have z1 : (w.alloc A).heap.size = w.heap.size + 1 := by simp
  have z2 : ((w.alloc A).alloc B).heap.size = w.heap.size + 2 := by simp
  have z3 : (((w.alloc A).alloc B).alloc C).heap.size = w.heap.size + 3 := by simp
  have e0 : ((((w.alloc A).alloc B).alloc C).alloc D).heap[w.heap.size]? = some A := by
    rw [Below.heap_alloc _ _ _ (by omega), Below.heap_alloc _ _ _ (by omega), Below.heap_alloc _ _ _ (by omega)]; exact heap_alloc_new w A
  have e1 : ((((w.alloc A).alloc B).alloc C).alloc D).heap[w.heap.size + 1]? = some B := by
    rw [Below.heap_alloc _ _ _ (by omega), Below.heap_alloc _ _ _ (by omega), ← z1]; exact heap_alloc_new (w.alloc A) B
  have e2 : ((((w.alloc A).alloc B).alloc C).alloc D).heap[w.heap.size + 2]? = some C := by
    rw [Below.heap_alloc _ _ _ (by omega), ← z2]; exact heap_alloc_new ((w.alloc A).alloc B) C
  have e3 : ((((w.alloc A).alloc B).alloc C).alloc D).heap[w.heap.size + 3]? = some D := by
    rw [← z3]; exact heap_alloc_new (((w.alloc A).alloc B).alloc C) D
  subst hA hB hC hD
  refine ⟨⟨⟨0, .inl ⟨rfl, e0⟩⟩, ⟨M, e1, hM, by simp [ic]⟩, e2, e3, by simp⟩, ⟨rfl, rfl, by simp; omega, fun k hk => ?_⟩⟩
  rw [Below.heap_alloc _ _ _ (by omega), Below.heap_alloc _ _ _ (by omega), Below.heap_alloc _ _ _ (by omega), Below.heap_alloc _ _ _ (by omega)]

set_option maxHeartbeats 1000000 in
set_option maxRecDepth 100000 in
theorem zznew_any (w : World) : Calls Tryf.prog 9 #[] w fun e w' =>
    e = .returned (.tuple #[.pointer (some ⟨w.heap.size + 3, 0, none⟩), .pointer (some ⟨w.heap.size, 0, none⟩)]) ∧ SW w.heap.size [] [] w' ∧ Kp w.heap.size w w' := by
  go_enter Tryf.func9, Tryf.ntmps9
  go_wp2_with (go_at_call 23; refine (rnew_any _ _).mono ?_)
  rintro e w' ⟨M, hM, rfl, rfl⟩
  go_wp2
  go_ret2
  exact ⟨rfl, four_new w _ _ _ _ M hM rfl rfl rfl rfl⟩

set_option maxHeartbeats 1000000 in
set_option maxRecDepth 100000 in
theorem flushed_any (N : Nat) (fl pe : List Int) (w : World) (h : SW N fl pe w) (hpos : 0 < (fl ++ pe).length) (hlim : fl.length + pe.length ≤ 900000000) :
    Calls Tryf.prog 11 #[.pointer (some ⟨N + 3, 0, none⟩), .pointer (some ⟨N, 0, none⟩)] w fun e w' =>
      ∃ g c, e = .returned (.slice (some ⟨g, 0, none⟩) (fl ++ pe).length c) ∧ (fl ++ pe).length ≤ c ∧ c ≤ maxLen ∧ w'.rangeAt g 0 (ic (fl ++ pe)) ∧ Kp N w w' ∧ g < w'.heap.size := by
  obtain ⟨-, -, -, -, p0, -⟩ := h.cells
  have H := hide h
  have HF := hide (flush_any N fl pe w h (by omega))
  clear h
  generalize fl ++ pe = bs at HF hpos ⊢
  go_enter Tryf.func11, Tryf.ntmps11
  go_wp2_with (go_at_call 28; refine HF.out.mono ?_)
  rintro e w1 ⟨rfl, hS1, hF1⟩
  have hIs : Lib.IsBuffer 45 5 N N (ic bs) w1 := by
    obtain ⟨lr, ⟨e, _⟩ | ⟨_, g, cap, cur, hb, hg, r1, r2, r3, r4, hn⟩⟩ := hS1.buf
    · subst e; simp at hpos
    · exact ⟨Nat.le_refl _, _, _, hb, ⟨by simp, .inr ⟨g, cap, cur, by simp, by omega, hg, by simpa using r2, r3, by omega, by simpa using r4⟩⟩, by simp [Value.ownBlock]; omega⟩
  have HB := hide (Tryf.Buffer_Bytes N N (ic bs) w1 hIs)
  have HK := hide (hF1.kp H.out)
  clear hIs hF1 HF
  go_wp2_with (go_at_call 29; refine HB.out.mono ?_)
  rintro e w2 ⟨v, rfl, hown, q, rfl⟩
  go_wp2
  go_ret
  rcases hown.2 with ⟨_, h0⟩ | ⟨g, cap, cur, rfl, hb, hg, h1, h2, h3, h4⟩
  · simp at h0; subst h0; simp at hpos
  · refine ⟨g, cap, by simp, by simpa using h1, h2, ?_, ⟨HK.out.os, HK.out.output, HK.out.size, HK.out.block⟩, Lib.lt_of_heap hg⟩
    intro j v hj
    have := hown.cells (g := g) rfl j v hj
    rwa [Lib.add_plain] at this
end Go.Proofs.Qxb6616642aFmt
