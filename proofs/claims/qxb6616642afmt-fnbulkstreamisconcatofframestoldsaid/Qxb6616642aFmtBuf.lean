/-
  A bytes.Buffer THAT IS WRITTEN (seat b6616642aF): grow and Write by contracts that tell WHICH block is the buffer's row behind the call (the old one, or the newest): so a caller knows that a row of its own was not touched. growSlice, tryGrowByReslice, Len: the shelf's.
-/
import Derived.Test.Qxb6616642aFmtAppend
import Derived.Laws.IdiomCopy
import Derived.Deep.Draws
import Derived.Deep.RegionWith
import Derived.Lib.BufferWrite
import Derived.Lib.BufferGrow
import Derived.Lib.BufferOwn
namespace Go.Proofs.Qxb6616642aFmt
open Go.Shelf Go.RowKit

/-- The buffer's block, as literal. -/
def bufObj (v : Value) (lr : Int) : Obj := .cells #[v, .int .i64 0, .int .i8 lr] 45 (0, 0)

/-- What grow leaves: the buffer's row is the block g = w.heap.size. -/
structure Grew (N l n : Nat) (olds : List Value) (lr : Int) (w w' : World) : Prop where
  ex : ∃ cap cur, w'.heap[N]? = some (.cells #[.slice (some ⟨w.heap.size, 0, none⟩) (l + n) cap, .int .i64 0, .int .i8 lr] 45 (0, 0)) ∧ w'.heap[w.heap.size]? = some (.cells cur 5 (0, 0)) ∧ cur.size = cap ∧ l + n ≤ cap ∧ cap ≤ maxLen ∧ cur.toList.take l = olds
  gr : w.grownBy w' (some N)

set_option maxHeartbeats 6400000 in
set_option maxRecDepth 100000 in
theorem grow_nil_small (N n : Nat) (lr : Int) (w : World) (hbk : w.heap[N]? = some (.cells #[.slice none 0 0, .int .i64 0, .int .i8 lr] 45 (0, 0))) (hn : 1 ≤ n) (h64 : n ≤ 64) :
    Calls Tryf.prog 79 #[.pointer (some ⟨N, 0, none⟩), .int .i64 n] w fun e w' => e = .returned (.int .i64 0) ∧ Grew N 0 n [] lr w w' := by
  obtain ⟨i0, hi, hz0, hz1, hz2⟩ := infoByte
  obtain ⟨M, hM⟩ : ∃ M, M = madeCells (Value.int .u8 0).cells ((64 : Int).toNat * i0.size) := ⟨_, rfl⟩
  have hMs : M.size = 64 := by rw [hM, size_madeCells, hz1]; rfl
  have hmk : ∀ W : World, (Instr.makeSlice 22 (.int .i64 (n : Int)) (.int .i64 64)).run Tryf.prog W = .ok (.slice (some ⟨W.heap.size, 0, none⟩) n 64) (W.alloc (.cells M 5)) := fun W => by
    have h := run_makeSlice (P := Tryf.prog) W 22 5 i0 (.int .u8 0) und22 hi hz0 .i64 .i64 (n : Int) 64 (by omega) (by omega) (by rw [hz1]; decide) (by rw [hz2]; decide) (by decide)
    rw [← hM] at h
    simpa using h
  clear hM
  have hIs : Lib.IsBuffer 45 5 N N [] w := ⟨Nat.le_refl _, _, _, hbk, World.ownsRow_nil _ _ _ _, by simp [Value.ownBlock]⟩
  have hnil : ∀ W, (binOp .eql 22 (.slice none 0 0) (.slice none 0 0)).run Tryf.prog W = .ok (.bool true) W := fun W => Lib.run_eql_slice_nil_nil W _ _ und22
  go_enter Tryf.func79, Tryf.ntmps79
  go_wp2_with (go_at_call 80; refine (Tryf.Buffer_Len N N [] _ hIs).mono ?_)
  rintro e W0 ⟨rfl, k, hW0⟩
  have hbk0 : W0.heap[N]? = some (.cells #[.slice none 0 0, .int .i64 0, .int .i8 lr] 45 (0, 0)) := by rw [hW0]; exact hbk
  have c0 : W0.cell? ⟨N, 0, none⟩ = some (.slice none 0 0) := by rw [Lib.cell_of_heap hbk0]; rfl
  have c1 : W0.cell? ⟨N, 1, none⟩ = some (.int .i64 0) := by rw [Lib.cell_of_heap hbk0]; rfl
  have f0 : W0.frozen? ⟨N, 0, none⟩ = false := Lib.frozen_of_heap hbk0 0
  have hbW0 := Lib.lt_of_heap hbk0
  have c0a : ∀ o, (W0.alloc o).cell? ⟨N, 0, none⟩ = some (.slice none 0 0) := fun o => (World.cell?_of_block (a := ⟨N, 0, none⟩) (Below.heap_alloc W0 o N hbW0)).trans c0
  have f0a : ∀ o, (W0.alloc o).frozen? ⟨N, 0, none⟩ = false := fun o => (World.frozen?_of_block (a := ⟨N, 0, none⟩) (Below.heap_alloc W0 o N hbW0)).trans f0
  have HW0 := Lib.hid hW0
  clear hW0 hIs
  go_wp2_with (go_at_call 78; refine (Tryf.Buffer_tryGrow_none N _ 0 0 n _ c0 (Nat.le_refl _) (Nat.zero_le _) (by omega)).mono ?_; rintro e w' ⟨rfl, rfl⟩)
  go_ret
  have hh : w'.heap = w.heap := by rw [HW0.out]; rfl
  have hNw : N < w.heap.size := by rw [← hh]; exact hbW0
  have hg0 : w.grownBy w' (some N) := by rw [HW0.out]; exact ⟨rfl, rfl, rfl, Nat.le_refl _, fun _ _ _ => rfl⟩
  refine ⟨rfl, ⟨64, M, ?_, ?_, hMs, by omega, by decide, by simp⟩, Lib.grownBy_allocR (Lib.grownBy_setB hg0 0 _) _⟩
  · rw [Below.heap_alloc _ _ _ (by simpa [World.setCell] using hbW0), Nat.zero_add, ← hh]
    exact Lib.heap_setCell_same (i := 0) hbk0 _
  · rw [← hh]
    have := heap_alloc_new (w'.setCell ⟨N, 0, none⟩ (.slice (some ⟨w'.heap.size, 0, none⟩) n 64)) (.cells M 5)
    simpa [World.setCell] using this

/-- The end of a grow that came by growSlice. -/
theorem grew_end {N l n cap2 : Nat} {lr : Int} {w w2 : World} {v0 v1 : Value} {cells : Array Value} {olds : List Value} (hNw : N < w.heap.size)
    (hbk2 : w2.heap[N]? = some (.cells #[v0, .int .i64 0, .int .i8 lr] 45 (0, 0))) (hN : w2.heap[w.heap.size]? = some (.cells cells 5 (0, 0)))
    (hcsz : cells.size = cap2) (htk : cells.toList.take l = olds) (hcap2 : l + n ≤ cap2) (hcm2 : cap2 ≤ maxLen) (hg : w.grownBy w2 (some N)) :
    Grew N l n olds lr w (((w2.setCell ⟨N, 0, none⟩ v1).setCell ⟨N, 1, none⟩ (.int .i64 0)).setCell ⟨N, 0, none⟩ (.slice (some ⟨w.heap.size, 0, none⟩) (l + n) cap2)) := by
  refine ⟨⟨cap2, cells, ?_, ?_, hcsz, hcap2, hcm2, htk⟩, Lib.grownBy_setB (Lib.grownBy_setB (Lib.grownBy_setB hg 0 _) 1 _) 0 _⟩
  · exact Lib.heap_setCell_same (i := 0) (Lib.heap_setCell_same (i := 1) (Lib.heap_setCell_same (i := 0) hbk2 v1) (.int .i64 0)) _
  · rw [Below.heap_setCell _ _ _ _ (by show w.heap.size ≠ N; omega), Below.heap_setCell _ _ _ _ (by show w.heap.size ≠ N; omega), Below.heap_setCell _ _ _ _ (by show w.heap.size ≠ N; omega)]
    exact hN

set_option maxHeartbeats 12800000 in
set_option maxRecDepth 100000 in
theorem grow_nil_big (N n : Nat) (lr : Int) (w : World) (hbk : w.heap[N]? = some (.cells #[.slice none 0 0, .int .i64 0, .int .i8 lr] 45 (0, 0))) (h64 : 64 < n) (hlim : n ≤ 140737488355328) :
    Calls Tryf.prog 79 #[.pointer (some ⟨N, 0, none⟩), .int .i64 n] w fun e w' => e = .returned (.int .i64 0) ∧ Grew N 0 n [] lr w w' := by
  have hn : 1 ≤ n := by omega
  have hIs : Lib.IsBuffer 45 5 N N [] w := ⟨Nat.le_refl _, _, _, hbk, World.ownsRow_nil _ _ _ _, by simp [Value.ownBlock]⟩
  have hnil : ∀ W, (binOp .eql 22 (.slice none 0 0) (.slice none 0 0)).run Tryf.prog W = .ok (.bool true) W := fun W => Lib.run_eql_slice_nil_nil W _ _ und22
  go_enter Tryf.func79, Tryf.ntmps79
  go_wp2_with (go_at_call 80; refine (Tryf.Buffer_Len N N [] _ hIs).mono ?_)
  rintro e W0 ⟨rfl, k, hW0⟩
  have hbk0 : W0.heap[N]? = some (.cells #[.slice none 0 0, .int .i64 0, .int .i8 lr] 45 (0, 0)) := by rw [hW0]; exact hbk
  have c0 : W0.cell? ⟨N, 0, none⟩ = some (.slice none 0 0) := by rw [Lib.cell_of_heap hbk0]; rfl
  have c1 : W0.cell? ⟨N, 1, none⟩ = some (.int .i64 0) := by rw [Lib.cell_of_heap hbk0]; rfl
  have f0 : W0.frozen? ⟨N, 0, none⟩ = false := Lib.frozen_of_heap hbk0 0
  have f1 : W0.frozen? ⟨N, 1, none⟩ = false := Lib.frozen_of_heap hbk0 1
  have HW0 := Lib.hid hW0
  clear hW0 hIs
  go_wp2_with (go_at_call 78; refine (Tryf.Buffer_tryGrow_none N _ 0 0 n _ c0 (Nat.le_refl _) (Nat.zero_le _) (by omega)).mono ?_; rintro e w' ⟨rfl, rfl⟩)
  have hbW := Lib.lt_of_heap hbk0
  have hwn : IntKind.i64.wrap (n : Int) = n := by rw [IntKind.wrap_i64]; omega
  have mixed : Tryf.prog.follows Departure.mixedOrders = true := by kernel_rfl
  go_region_with_o (
      go_at_call 81
      refine (Tryf.bytes_growSlice_nil n _ hn hlim).mono ?_
      rintro e w2 ⟨cap2, cells, rfl, hN, hcsz, hcap2, hcm2, hbel⟩
      have hbk2 : w2.heap[N]? = some (.cells #[.slice none 0 0, .int .i64 0, .int .i8 lr] 45 (0, 0)) := (hbel.block N hbW).trans hbk0
      have d0 : w2.cell? ⟨N, 0, none⟩ = some (.slice none 0 0) := by rw [Lib.cell_of_heap hbk2]; rfl
      have d1 : w2.cell? ⟨N, 1, none⟩ = some (.int .i64 0) := by rw [Lib.cell_of_heap hbk2]; rfl
      have e0 : w2.frozen? ⟨N, 0, none⟩ = false := Lib.frozen_of_heap hbk2 0
      have e1 : w2.frozen? ⟨N, 1, none⟩ = false := Lib.frozen_of_heap hbk2 1)
  all_goals (
    go_wp2
    go_ret
    have hh : w'.heap = w.heap := by rw [HW0.out]; rfl
    have hg2 : w.grownBy w2 (some N) := Lib.grownBy_below (w := w'.drew) (by rw [HW0.out]; exact ⟨rfl, rfl, rfl, Nat.le_refl _, fun _ _ _ => rfl⟩) hbel
    have hN' : w2.heap[w.heap.size]? = some (.cells cells 5 (0, 0)) := by rw [← hh]; exact hN
    have := grew_end (l := 0) (n := n) (olds := []) (v1 := .slice (some ⟨w'.heap.size, 0, none⟩) 0 cap2) (by rw [← hh]; exact hbW) hbk2 hN' hcsz (by simp) (by omega) hcm2 hg2
    rw [← hh] at this
    refine ⟨rfl, ?_⟩
    first | exact this | (rw [Nat.zero_add] at this; exact this))

set_option maxHeartbeats 12800000 in
set_option maxRecDepth 100000 in
theorem grow_row (N g l cap n : Nat) (lr : Int) (cur : Array Value) (w : World)
    (hbk : w.heap[N]? = some (.cells #[.slice (some ⟨g, 0, none⟩) l cap, .int .i64 0, .int .i8 lr] 45 (0, 0)))
    (hNg : N ≤ g) (hg : w.heap[g]? = some (.cells cur 5 (0, 0))) (hlc : l ≤ cap) (hcm : cap ≤ maxLen) (hcs : cur.size = cap) (hgb : g ≠ N)
    (h1 : ∀ v ∈ cur.toList.take l, v.oneCell' = true) (hl0 : 0 < l) (hn : 1 ≤ n) (hroom : cap - l < n) (hlim : l + n ≤ 140737488355328) :
    Calls Tryf.prog 79 #[.pointer (some ⟨N, 0, none⟩), .int .i64 n] w fun e w' => e = .returned (.int .i64 l) ∧ Grew N l n (cur.toList.take l) lr w w' := by
  have hl : (cur.toList.take l).length = l := by rw [List.length_take, Array.length_toList]; omega
  have hIs : Lib.IsBuffer 45 5 N N (cur.toList.take l) w := ⟨Nat.le_refl _, _, _, hbk, ⟨by rw [hl, Nat.mul_one], .inr ⟨g, cap, cur, by rw [hl], hNg, hg, by omega, hcm, by omega, by rw [hl, Nat.mul_one]⟩⟩, by simp [Value.ownBlock]; exact hgb⟩
  have hnil : ∀ W, (binOp .eql 22 (.slice (some ⟨g, 0, none⟩) l cap) (.slice none 0 0)).run Tryf.prog W = .ok (.bool false) W := fun W => Lib.run_eql_slice_some_nil W _ _ _ und22
  go_enter Tryf.func79, Tryf.ntmps79
  go_wp2_with (go_at_call 80; refine (Tryf.Buffer_Len N N _ _ hIs).mono ?_)
  rintro e W0 ⟨rfl, k, hW0⟩
  rw [hl]
  have hbk0 : W0.heap[N]? = some (.cells #[.slice (some ⟨g, 0, none⟩) l cap, .int .i64 0, .int .i8 lr] 45 (0, 0)) := by rw [hW0]; exact hbk
  have hg0 : W0.heap[g]? = some (.cells cur 5 (0, 0)) := by rw [hW0]; exact hg
  have c0 : W0.cell? ⟨N, 0, none⟩ = some (.slice (some ⟨g, 0, none⟩) l cap) := by rw [Lib.cell_of_heap hbk0]; rfl
  have c1 : W0.cell? ⟨N, 1, none⟩ = some (.int .i64 0) := by rw [Lib.cell_of_heap hbk0]; rfl
  have f0 : W0.frozen? ⟨N, 0, none⟩ = false := Lib.frozen_of_heap hbk0 0
  have f1 : W0.frozen? ⟨N, 1, none⟩ = false := Lib.frozen_of_heap hbk0 1
  have HW0 := Lib.hid hW0
  clear hW0 hIs
  have hcm' := hcm
  unfold maxLen at hcm'
  go_wp2_with (go_at_call 78; refine (Tryf.Buffer_tryGrow_none N _ l cap n _ c0 hlc hcm hroom).mono ?_; rintro e w' ⟨rfl, rfl⟩)
  have hc2 : cap ≤ 140737488355328 := by omega
  have hbW := Lib.lt_of_heap hbk0
  have hwn : IntKind.i64.wrap (n : Int) = n := by rw [IntKind.wrap_i64]; omega
  have mixed : Tryf.prog.follows Departure.mixedOrders = true := by kernel_rfl
  go_region_with_o (
      go_at_call 81
      refine (Tryf.bytes_growSlice_row g l cap n cur _ ?_ hcs hlc hn hlim hc2 h1).mono ?_
      exact hg0
      rintro e w2 ⟨cap2, cells, rfl, hN, hcsz, htk, hcap2, hcm2, hbel⟩
      have hbk2 : w2.heap[N]? = some (.cells #[.slice (some ⟨g, 0, none⟩) l cap, .int .i64 0, .int .i8 lr] 45 (0, 0)) := (hbel.block N hbW).trans hbk0
      have d0 : w2.cell? ⟨N, 0, none⟩ = some (.slice (some ⟨g, 0, none⟩) l cap) := by rw [Lib.cell_of_heap hbk2]; rfl
      have d1 : w2.cell? ⟨N, 1, none⟩ = some (.int .i64 0) := by rw [Lib.cell_of_heap hbk2]; rfl
      have e0 : w2.frozen? ⟨N, 0, none⟩ = false := Lib.frozen_of_heap hbk2 0
      have e1 : w2.frozen? ⟨N, 1, none⟩ = false := Lib.frozen_of_heap hbk2 1)
  all_goals (
    go_wp2
    go_ret
    have hh : w'.heap = w.heap := by rw [HW0.out]; rfl
    have hg2 : w.grownBy w2 (some N) := Lib.grownBy_below (w := w'.drew) (by rw [HW0.out]; exact ⟨rfl, rfl, rfl, Nat.le_refl _, fun _ _ _ => rfl⟩) hbel
    have hN' : w2.heap[w.heap.size]? = some (.cells cells 5 (0, 0)) := by rw [← hh]; exact hN
    have := grew_end (l := l) (n := n) (olds := cur.toList.take l) (v1 := .slice (some ⟨w'.heap.size, 0, none⟩) l cap2) (by rw [← hh]; exact hbW) hbk2 hN' hcsz htk (by omega) hcm2 hg2
    rw [← hh] at this
    refine ⟨rfl, ?_⟩
    exact this)

end Go.Proofs.Qxb6616642aFmt
