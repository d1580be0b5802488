/-
  A bufio.Writer OVER A bytes.Buffer (seat b6616642aF): the state, what keeps it; Available, Buffered, AvailableBuffer; what 'copy(b.buf[b.n:], ..)' leaves.
-/
import Derived.Test.Qxb6616642aFmtWrite
import Derived.BigQuiet
import Derived.Deep.QuietTactic
import Derived.Deep.DeepCutAuto
namespace Go.Proofs.Qxb6616642aFmt
open Go.Shelf Go.RowKit

/-- A bufio.Writer OVER A bytes.Buffer, AND THE resp.Writer OVER IT: the buffer at N holds fl; the writer's row (4096 cells) at N + 1 holds pe at its head; the writer at N + 2; resp's at N + 3. -/
structure SW (N : Nat) (fl pe : List Int) (w : World) : Prop where
  buf : Bf N fl w
  row : ∃ cur, w.heap[N + 1]? = some (.cells cur 5 (0, 0)) ∧ cur.size = 4096 ∧ cur.toList.take pe.length = ic pe
  q : w.heap[N + 2]? = some (.cells #[.nilIface, .slice (some ⟨N + 1, 0, none⟩) 4096 4096, .int .i64 pe.length, .iface 25 (.pointer (some ⟨N, 0, none⟩))] 63 (0, 0))
  p : w.heap[N + 3]? = some (.cells #[.pointer (some ⟨N + 2, 0, none⟩)] 51 (0, 0))
  le : pe.length ≤ 4096

theorem SW.heap {N : Nat} {fl pe : List Int} {w w' : World} (h : SW N fl pe w) (e : w'.heap = w.heap) : SW N fl pe w' := by
  obtain ⟨h1, h2, h3, h4, h5⟩ := h
  refine ⟨?_, by rw [e]; exact h2, by rw [e]; exact h3, by rw [e]; exact h4, h5⟩
  unfold Bf at h1 ⊢
  rw [e]
  exact h1

/-- The writer's four cells. -/
theorem SW.cells {N : Nat} {fl pe : List Int} {w : World} (h : SW N fl pe w) : w.cell? ⟨N + 2, 0, none⟩ = some .nilIface ∧ w.cell? ⟨N + 2, 1, none⟩ = some (.slice (some ⟨N + 1, 0, none⟩) 4096 4096) ∧ w.cell? ⟨N + 2, 2, none⟩ = some (.int .i64 pe.length) ∧ w.cell? ⟨N + 2, 3, none⟩ = some (.iface 25 (.pointer (some ⟨N, 0, none⟩))) ∧ w.cell? ⟨N + 3, 0, none⟩ = some (.pointer (some ⟨N + 2, 0, none⟩)) ∧ ∀ j, w.frozen? ⟨N + 2, j, none⟩ = false := by
  refine ⟨?_, ?_, ?_, ?_, ?_, fun j => Lib.frozen_of_heap h.q j⟩
  · rw [Lib.cell_of_heap h.q]; rfl
  · rw [Lib.cell_of_heap h.q]; rfl
  · rw [Lib.cell_of_heap h.q]; rfl
  · rw [Lib.cell_of_heap h.q]; rfl
  · rw [Lib.cell_of_heap h.p]; rfl

/-- What the writer's functions touch. -/
def SB (N k : Nat) : Prop := k = N ∨ k = N + 1 ∨ k = N + 2

set_option maxRecDepth 100000 in
theorem avail_any (N : Nat) (fl pe : List Int) (w : World) (h : SW N fl pe w) :
    Calls Tryf.prog 34 #[.pointer (some ⟨N + 2, 0, none⟩)] w fun e w' => e = .returned (.int .i64 (4096 - pe.length)) ∧ ∃ n, w' = w.drewN n := by
  obtain ⟨-, c1, c2, -, -, -⟩ := h.cells
  have hle := h.le
  have i1 : (0 : Int) ≤ pe.length := by omega
  have i2 : (pe.length : Int) ≤ 4096 := by omega
  clear h
  generalize (pe.length : Int) = k at *
  go_enter Tryf.func34, Tryf.ntmps34
  go_wp2
  go_quiet (fail)
  go_wp2
  go_ret
  exact ⟨rfl, _, rfl⟩

set_option maxRecDepth 100000 in
theorem buffered_any (N : Nat) (fl pe : List Int) (w : World) (h : SW N fl pe w) :
    Calls Tryf.prog 35 #[.pointer (some ⟨N + 2, 0, none⟩)] w fun e w' => e = .returned (.int .i64 pe.length) ∧ w' = w := by
  obtain ⟨-, c1, c2, -, -, -⟩ := h.cells
  clear h
  generalize (pe.length : Int) = k at *
  go_enter Tryf.func35, Tryf.ntmps35
  go_wp2
  go_ret
  exact ⟨rfl, rfl⟩

/-- Where AvailableBuffer's slice lies: at the pending bytes' end; at the row's head where there is no room. -/
def offOf (k : Nat) : Nat := if k = 4096 then 0 else k

set_option maxRecDepth 100000 in
theorem availbuf_any (N : Nat) (fl pe : List Int) (w : World) (h : SW N fl pe w) :
    Calls Tryf.prog 32 #[.pointer (some ⟨N + 2, 0, none⟩)] w fun e w' => e = .returned (.slice (some ⟨N + 1, offOf pe.length, none⟩) 0 (4096 - pe.length)) ∧ ∃ n, w' = w.drewN n := by
  obtain ⟨-, c1, c2, -, -, -⟩ := h.cells
  have hle := h.le
  clear h
  generalize pe.length = k at c2 hle ⊢
  by_cases h4 : k = 4096
  · subst h4
    go_enter Tryf.func32, Tryf.ntmps32
    go_wp2
    go_quiet (fail)
    go_wp2
    go_ret
    exact ⟨rfl, _, rfl⟩
  · have h5 : ¬ 4096 = k := by omega
    have e : offOf k = k := by unfold offOf; rw [if_neg h4]
    rw [e]
    go_enter Tryf.func32, Tryf.ntmps32
    go_wp2
    go_quiet (fail)
    go_wp2
    go_ret
    exact ⟨rfl, _, rfl⟩

theorem drewN_heap (w : World) (n : Nat) : (w.drewN n).heap = w.heap := rfl

/-- Facts of the program's tables: a *bytes.Buffer behind an io.Writer. -/
theorem bytes_apart {N : Nat} {fl pe : List Int} {w : World} (h : SW N fl pe w) (k : Nat) (hk : k = N + 1 ∨ k = N + 2 ∨ k = N + 3) : ¬ RowOf w N k := by
  obtain ⟨lr, ⟨_, hb⟩ | ⟨_, g, cap, cur, hb, _, _, _, _, _, hg⟩⟩ := h.buf
  · rw [rowOf_heap hb]; rintro ⟨l, c, e⟩; cases e
  · rw [rowOf_heap hb]; rintro ⟨l, c, e⟩; injection e with e _ _; injection e with e; injection e with e _ _; omega

/-- The state behind a Write on the buffer. -/
theorem SW.wrote {N : Nat} {fl pe : List Int} {w w' : World} (h : SW N fl pe w) (fl' : List Int) (hb : Bf N fl' w') (hf : Fw (· = N) N w w') (hz : N + 4 ≤ w.heap.size) : SW N fl' pe w' where
  buf := hb
  row := by rw [hf.block (N + 1) (by omega) (by omega) (bytes_apart h _ (by omega))]; exact h.row
  q := by rw [hf.block (N + 2) (by omega) (by omega) (bytes_apart h _ (by omega))]; exact h.q
  p := by rw [hf.block (N + 3) (by omega) (by omega) (bytes_apart h _ (by omega))]; exact h.p
  le := h.le

theorem SW.size {N : Nat} {fl pe : List Int} {w : World} (h : SW N fl pe w) : N + 4 ≤ w.heap.size := by have := Lib.lt_of_heap h.p; omega

/-- The state where the row's first k cells are pending and the rest of the writer's fields say so. -/
theorem SW.setN {N : Nat} {fl pe : List Int} {w : World} (h : SW N fl pe w) (pe' : List Int) (hle : pe'.length ≤ 4096) (hr : ∃ cur, w.heap[N + 1]? = some (.cells cur 5 (0, 0)) ∧ cur.size = 4096 ∧ cur.toList.take pe'.length = ic pe') (z : Int) (hz : z = pe'.length) : SW N fl pe' (w.setCell ⟨N + 2, 2, none⟩ (.int .i64 z)) := by
  subst hz
  obtain ⟨h1, h2, h3, h4, h5⟩ := h
  refine ⟨?_, ?_, ?_, ?_, hle⟩
  · obtain ⟨lr, ⟨e, hb⟩ | ⟨e, g, cap, cur, hb, hg, r1, r2, r3, r4, hn⟩⟩ := h1
    · exact ⟨lr, .inl ⟨e, by rw [Below.heap_setCell _ _ _ _ (by show N ≠ N + 2; omega)]; exact hb⟩⟩
    · by_cases hg2 : g = N + 2
      · omega
      · exact ⟨lr, .inr ⟨e, g, cap, cur, by rw [Below.heap_setCell _ _ _ _ (by show N ≠ N + 2; omega)]; exact hb, by rw [Below.heap_setCell _ _ _ _ (by show g ≠ N + 2; omega)]; exact hg, r1, r2, r3, r4, hn⟩⟩
  · rw [Below.heap_setCell _ _ _ _ (by show N + 1 ≠ N + 2; omega)]; exact hr
  · exact Lib.heap_setCell_same (i := 2) h3 _
  · rw [Below.heap_setCell _ _ _ _ (by show N + 3 ≠ N + 2; omega)]; exact h4

theorem Fw.setQ {N : Nat} {w w' : World} (h : Fw (SB N) N w w') (i : Nat) (v : Value) : Fw (SB N) N w (w'.setCell ⟨N + 2, i, none⟩ v) :=
  h.trans ⟨rfl, rfl, by simp [World.setCell], fun k _ hs _ => Below.heap_setCell _ _ _ _ (by show k ≠ N + 2; intro e; exact hs (.inr (.inr e))), fun g hg => .inl (by
    obtain ⟨l, c, e⟩ := hg
    refine ⟨l, c, ?_⟩
    rwa [World.cell?_of_block (a := ⟨N, 0, none⟩) (Below.heap_setCell _ _ _ _ (by show N ≠ N + 2; omega))] at e)⟩
theorem Fw.drewN {S : Nat → Prop} {N : Nat} {w w' : World} (h : Fw S N w w') (n : Nat) : Fw S N w (w'.drewN n) := ⟨h.os, h.output, h.size, h.block, h.row⟩

theorem info5 : (Tryf.prog.info? 5).map (·.size) = some 1 := by obtain ⟨i0, hi, hz0, hz1, hz2⟩ := infoByte; rw [hi]; simp [hz1]

theorem Fw.rowQ {N : Nat} {w : World} (cs : Array Value) : Fw (SB N) N w (w.setRow (N + 1) cs) :=
  ⟨rfl, rfl, by simp, fun k _ hs _ => setRow_other _ _ _ _ (fun e => hs (.inr (.inl e))), fun g hg => .inl (by
    obtain ⟨l, c, e⟩ := hg
    refine ⟨l, c, ?_⟩
    rwa [World.cell?_of_block (a := ⟨N, 0, none⟩) (setRow_other w (N + 1) N cs (by omega))] at e)⟩

theorem SW.setRow {N : Nat} {fl pe : List Int} {w : World} (h : SW N fl pe w) (cs : Array Value) (hs : cs.size = 4096) (ht : cs.toList.take pe.length = ic pe) : SW N fl pe (w.setRow (N + 1) cs) := by
  obtain ⟨h1, ⟨cur, r1, r2, r3⟩, h3, h4, h5⟩ := h
  refine ⟨?_, ⟨cs, setRow_heap _ _ _ _ _ _ r1, hs, ht⟩, ?_, ?_, h5⟩
  · obtain ⟨lr, ⟨e, hb⟩ | ⟨e, g, cap, cur, hb, hg, r1, r2, r3, r4, hn⟩⟩ := h1
    · exact ⟨lr, .inl ⟨e, by rw [setRow_other _ _ _ _ (by omega)]; exact hb⟩⟩
    · exact ⟨lr, .inr ⟨e, g, cap, cur, by rw [setRow_other _ _ _ _ (by omega)]; exact hb, by rw [setRow_other _ _ _ _ (by omega)]; exact hg, r1, r2, r3, r4, hn⟩⟩
  · rw [setRow_other _ _ _ _ (by omega)]; exact h3
  · rw [setRow_other _ _ _ _ (by omega)]; exact h4

/-- What 'copy(b.buf[b.n:], ..)' leaves: the cells behind the pending ones are those copied. -/
structure Copied (N : Nat) (fl pe cs : List Int) (w W' : World) : Prop where
  sw : SW N fl pe W'
  row : ∃ cur, W'.heap[N + 1]? = some (.cells cur 5 (0, 0)) ∧ cur.size = 4096 ∧ cur.toList.take (pe ++ cs).length = ic (pe ++ cs)
  fw : Fw (SB N) N w W'

theorem copied_mk {N : Nat} {fl pe cs : List Int} {w : World} {cur : Array Value} (h : SW N fl pe w) (hr : w.heap[N + 1]? = some (.cells cur 5 (0, 0))) (hcs : cur.size = 4096) (ht : cur.toList.take pe.length = ic pe) (hle : pe.length + cs.length ≤ 4096) :
    Copied N fl pe cs w (w.setRow (N + 1) (cur.toList.take pe.length ++ ic cs ++ cur.toList.drop (pe.length + cs.length)).toArray) := by
  have hsz : (cur.toList.take pe.length ++ ic cs ++ cur.toList.drop (pe.length + cs.length)).toArray.size = 4096 := by
    simp only [List.size_toArray, List.length_append, ht, ic_length, List.length_drop, Array.length_toList]; omega
  refine ⟨h.setRow _ hsz ?_, ⟨_, setRow_heap _ _ _ _ _ _ hr, hsz, ?_⟩, Fw.rowQ _⟩
  · rw [List.toList_toArray, ht, List.append_assoc, List.take_append_of_le_length (by simp), List.take_of_length_le (by simp)]
  · rw [List.toList_toArray, ht, ic_append, List.length_append, List.take_append_of_le_length (by simp), List.take_of_length_le (by simp)]

/-- 'copy(b.buf[b.n:], p)'. -/
theorem copyTo {N : Nat} {fl pe : List Int} {w : World} (h : SW N fl pe w) (cs : List Int) (ao : Option Addr) (sLen sCap : Nat) (hcs : cs.length = Nat.min sLen (4096 - pe.length))
    (hsrc : 0 < cs.length → ∃ A, ao = some A ∧ ∀ j v, (ic cs)[j]? = some v → w.cell? (A.add j) = some v) :
    ∃ W', (Builtin.copy_ #[22, 22] 3 #[.slice (if 4096 = pe.length then some ⟨N + 1, 0, none⟩ else some ⟨N + 1, pe.length, none⟩) (4096 - pe.length) (4096 - pe.length), .slice ao sLen sCap]).run Tryf.prog w = .ok (goInt cs.length) W' ∧ Copied N fl pe cs w W' := by
  have hle := h.le
  obtain ⟨cur, r1, r2, r3⟩ := h.row
  have hm : pe.length + cs.length ≤ 4096 := by rw [hcs]; have := Nat.min_le_right sLen (4096 - pe.length); have : Nat.min sLen (4096 - pe.length) ≤ 4096 - pe.length := Nat.min_le_right _ _; omega
  by_cases h0 : cs.length = 0
  · obtain rfl : cs = [] := List.eq_nil_of_length_eq_zero h0
    refine ⟨w, run_copy_none (P := Tryf.prog) w 22 22 3 5 _ _ _ _ _ _ und22 info5 (by rw [← hcs]; rfl), h, ⟨cur, r1, r2, by rw [List.append_nil]; exact r3⟩, Fw.refl _ _ _⟩
  · obtain ⟨A, rfl, hsr⟩ := hsrc (by omega)
    have hne : ¬ 4096 = pe.length := by omega
    rw [if_neg hne]
    have := run_copy_row (P := Tryf.prog) w 22 22 3 5 (N + 1) pe.length (4096 - pe.length) (4096 - pe.length) A sLen sCap cur 5 (ic cs) und22 info5 r1 (by rw [ic_length]; exact hcs) hsr (by rw [ic_length]; omega) (ic_one _)
    rw [ic_length] at this
    exact ⟨_, this, copied_mk h r1 r2 r3 hm⟩

/-- 'copy(b.buf[b.n:], s)', s a string. -/
theorem copyToS {N : Nat} {fl pe : List Int} {w : World} (h : SW N fl pe w) (s : ByteArray) (cs : List Int) (hcs : ic cs = (byteCells s).take (Nat.min s.size (4096 - pe.length))) :
    ∃ W', (Builtin.copy_ #[22, 9] 3 #[.slice (if 4096 = pe.length then some ⟨N + 1, 0, none⟩ else some ⟨N + 1, pe.length, none⟩) (4096 - pe.length) (4096 - pe.length), .string s]).run Tryf.prog w = .ok (goInt cs.length) W' ∧ Copied N fl pe cs w W' := by
  have hle := h.le
  obtain ⟨cur, r1, r2, r3⟩ := h.row
  have hcl : cs.length = Nat.min s.size (4096 - pe.length) := by
    have := congrArg List.length hcs
    rw [ic_length, List.length_take, byteCells_length] at this
    rw [this]
    have : Nat.min s.size (4096 - pe.length) ≤ s.size := Nat.min_le_left _ _
    omega
  have hm : pe.length + cs.length ≤ 4096 := by rw [hcl]; have : Nat.min s.size (4096 - pe.length) ≤ 4096 - pe.length := Nat.min_le_right _ _; omega
  obtain ⟨i0, hi, hz0, hz1, hz2⟩ := infoByte
  have htk : List.take (Nat.min s.size (4096 - pe.length)) (List.map (fun b : UInt8 => Value.int IntKind.u8 (b.toNat : Int)) s.data.toList) = ic cs := hcs.symm
  by_cases h0 : cs.length = 0
  · obtain rfl : cs = [] := List.eq_nil_of_length_eq_zero h0
    refine ⟨w, ?_, h, ⟨cur, r1, r2, by rw [List.append_nil]; exact r3⟩, Fw.refl _ _ _⟩
    by_cases hne : 4096 = pe.length
    · rw [if_pos hne]
      simp [Builtin.copy_, run_underlying und22, Builtin.lenOf, Builtin.firstCells, sizeOf, typeInfo, hi, ← hcl, storeCells]
    · rw [if_neg hne]
      simp [Builtin.copy_, run_underlying und22, Builtin.lenOf, Builtin.firstCells, sizeOf, typeInfo, hi, ← hcl, storeCells]
  · have hne : ¬ 4096 = pe.length := by omega
    rw [if_neg hne]
    refine ⟨_, ?_, copied_mk h r1 r2 r3 hm⟩
    have hst := run_storeCells_at Tryf.prog (N + 1) pe.length 5 (ic cs) 0 cur w r1 (by rw [ic_length]; omega) (ic_one _)
    simp only [Nat.add_zero, ic_length] at hst
    simp [Builtin.copy_, run_underlying und22, Builtin.lenOf, Builtin.firstCells, sizeOf, typeInfo, hi, htk, hst]
    rw [← hcl]
end Go.Proofs.Qxb6616642aFmt
