/-
  (*bytes.Buffer).Write (seat b6616642aF): the buffer's bytes grow by what is written; of the old blocks only the buffer's own and its row are touched; the row behind the call is the old one or a new block.
-/
import Derived.Test.Qxb6616642aFmtBuf
namespace Go.Proofs.Qxb6616642aFmt
open Go.Shelf Go.RowKit

theorem hide {p : Prop} (h : p) : Hid p := h

/-- The row of the buffer at block N is block g. -/
def RowOf (w : World) (N g : Nat) : Prop := ∃ l c, w.cell? ⟨N, 0, none⟩ = some (.slice (some ⟨g, 0, none⟩) l c)

/-- Old blocks outside S, the buffer's row apart, are as they were; the buffer's row is the old one or a new block. -/
structure Fw (S : Nat → Prop) (N : Nat) (w w' : World) : Prop where
  os : w'.os = w.os
  output : w'.output = w.output
  size : w.heap.size ≤ w'.heap.size
  block : ∀ k, k < w.heap.size → ¬ S k → ¬ RowOf w N k → w'.heap[k]? = w.heap[k]?
  row : ∀ g, RowOf w' N g → RowOf w N g ∨ w.heap.size ≤ g

theorem Fw.refl (S : Nat → Prop) (N : Nat) (w : World) : Fw S N w w := ⟨rfl, rfl, Nat.le_refl _, fun _ _ _ _ => rfl, fun _ h => .inl h⟩
theorem Fw.trans {S : Nat → Prop} {N : Nat} {a b c : World} (h : Fw S N a b) (k : Fw S N b c) : Fw S N a c where
  os := k.os.trans h.os
  output := k.output.trans h.output
  size := Nat.le_trans h.size k.size
  block i hi hs hr := by
    rw [k.block i (Nat.lt_of_lt_of_le hi h.size) hs (fun e => ?_), h.block i hi hs hr]
    rcases h.row i e with e | e
    · exact hr e
    · omega
  row g hg := by
    rcases k.row g hg with e | e
    · exact h.row g e
    · exact .inr (Nat.le_trans h.size e)
theorem Fw.mono {S T : Nat → Prop} {N : Nat} {a b : World} (h : Fw S N a b) (hs : ∀ k, S k → T k) : Fw T N a b := ⟨h.os, h.output, h.size, fun k h1 h2 h3 => h.block k h1 (fun e => h2 (hs k e)) h3, h.row⟩

theorem rowOf_heap {w : World} {N g : Nat} {v x y : Value} {t : TypeId} (h : w.heap[N]? = some (.cells #[v, x, y] t (0, 0))) : RowOf w N g ↔ ∃ l c, v = .slice (some ⟨g, 0, none⟩) l c := by
  have : w.cell? ⟨N, 0, none⟩ = some v := by rw [Lib.cell_of_heap h]; rfl
  unfold RowOf
  rw [this]
  simp

/-- A bytes.Buffer at block N that holds bs. -/
def Bf (N : Nat) (bs : List Int) (w : World) : Prop := ∃ lr, (bs = [] ∧ w.heap[N]? = some (.cells #[.slice none 0 0, .int .i64 0, .int .i8 lr] 45 (0, 0))) ∨
  (0 < bs.length ∧ ∃ g cap cur, w.heap[N]? = some (.cells #[.slice (some ⟨g, 0, none⟩) bs.length cap, .int .i64 0, .int .i8 lr] 45 (0, 0)) ∧ w.heap[g]? = some (.cells cur 5 (0, 0)) ∧ cur.size = cap ∧ bs.length ≤ cap ∧ cap ≤ maxLen ∧ cur.toList.take bs.length = ic bs ∧ N + 4 ≤ g)

/-- The end of a Write. -/
theorem bw_end {N g l n cap : Nat} {lr : Int} {cur : Array Value} {bs cs : List Int} {w W1 : World} (hl : bs.length = l) (hn : cs.length = n) (hn1 : 1 ≤ n)
    (hbk : W1.heap[N]? = some (.cells #[.slice (some ⟨g, 0, none⟩) (l + n) cap, .int .i64 0, .int .i8 lr] 45 (0, 0))) (hg : W1.heap[g]? = some (.cells cur 5 (0, 0)))
    (hcs : cur.size = cap) (hle : l + n ≤ cap) (hcm : cap ≤ maxLen) (htk : cur.toList.take l = ic bs) (hNg : N + 4 ≤ g) (hgr : w.grownBy W1 (some N)) (hrow : RowOf w N g ∨ w.heap.size ≤ g) :
    Bf N (bs ++ cs) (W1.setRow g (cur.toList.take l ++ ic cs ++ cur.toList.drop (l + n)).toArray) ∧ Fw (· = N) N w (W1.setRow g (cur.toList.take l ++ ic cs ++ cur.toList.drop (l + n)).toArray) := by
  have hb : (W1.setRow g (cur.toList.take l ++ ic cs ++ cur.toList.drop (l + n)).toArray).heap[N]? = some (.cells #[.slice (some ⟨g, 0, none⟩) (l + n) cap, .int .i64 0, .int .i8 lr] 45 (0, 0)) := by
    rw [setRow_other _ _ _ _ (by omega)]; exact hbk
  have hlen : (bs ++ cs).length = l + n := by rw [List.length_append, hl, hn]
  have hbl : (ic bs).length = l := by rw [ic_length, hl]
  refine ⟨⟨lr, .inr ⟨by omega, g, cap, _, by rw [hlen]; exact hb, setRow_heap W1 g cur _ 5 (0, 0) hg, ?_, by omega, hcm, ?_, hNg⟩⟩, hgr.os, hgr.output, by simpa using hgr.size, fun k hk hs hr => ?_, fun g' hg' => ?_⟩
  · simp only [List.size_toArray, List.length_append, htk, ic_length, List.length_drop, Array.length_toList]; omega
  · rw [hlen, List.toList_toArray, htk, ic_append, List.take_append_of_le_length (by simp; omega), List.take_of_length_le (by simp; omega)]
  · have hkg : k ≠ g := by
      rintro rfl
      rcases hrow with h | h
      · exact hr h
      · omega
    rw [setRow_other _ _ _ _ hkg]
    exact hgr.block k hk (by simpa using hs)
  · rw [rowOf_heap hb] at hg'
    obtain ⟨l', c', e⟩ := hg'
    simp at e
    rw [← e.1]
    exact hrow

set_option maxHeartbeats 6400000 in
set_option maxRecDepth 100000 in
theorem bw_any (N : Nat) (bs cs : List Int) (a : Addr) (n c : Nat) (w : World) (h : Bf N bs w) (hn : cs.length = n) (hn1 : 1 ≤ n) (hab : a.block ≠ N) (hsrc : ∀ j v, (ic cs)[j]? = some v → w.cell? (a.add j) = some v)
    (hlim : bs.length + n ≤ 1000000000000) (hN4 : N + 4 ≤ w.heap.size) :
    Calls Tryf.prog 76 #[.pointer (some ⟨N, 0, none⟩), .slice (some a) n c] w fun e w' => e = .returned (.tuple #[.int .i64 n, .nilIface]) ∧ Bf N (bs ++ cs) w' ∧ Fw (· = N) N w w' := by
  have hinfo : (Tryf.prog.info? 5).map (·.size) = some 1 := by obtain ⟨i0, hi, hz0, hz1, hz2⟩ := infoByte; rw [hi]; simp [hz1]
  have hcl : (ic cs).length = n := by rw [ic_length, hn]
  have i1 : (1 : Int) ≤ (n : Int) := by omega
  obtain ⟨lr, ⟨rfl, hbk⟩ | ⟨hpos, g, cap, cur, hbk, hg, hcs, hle, hcm, htk, hNg⟩⟩ := h
  · -- A BUFFER THAT WAS NEVER WRITTEN
    have c2 : w.cell? ⟨N, 2, none⟩ = some (.int .i8 lr) := by rw [Lib.cell_of_heap hbk]; rfl
    have f2 : w.frozen? ⟨N, 2, none⟩ = false := Lib.frozen_of_heap hbk 2
    have hbk' := Lib.heap_setCell_same (i := 2) hbk (.int .i8 0)
    have hg0 : w.grownBy (w.setCell ⟨N, 2, none⟩ (.int .i8 0)) (some N) := Lib.grownBy_setCell w N 2 _
    have hz0 : (w.setCell ⟨N, 2, none⟩ (.int .i8 0)).heap.size = w.heap.size := by simp [World.setCell]
    have c0 : (w.setCell ⟨N, 2, none⟩ (.int .i8 0)).cell? ⟨N, 0, none⟩ = some (.slice none 0 0) := by rw [Lib.cell_of_heap hbk']; rfl
    have HG : Hid (Calls Tryf.prog 79 #[.pointer (some ⟨N, 0, none⟩), .int .i64 n] (w.setCell ⟨N, 2, none⟩ (.int .i8 0)) fun e w' => e = .returned (.int .i64 0) ∧ Grew N 0 n [] 0 (w.setCell ⟨N, 2, none⟩ (.int .i8 0)) w') := by
      by_cases h64 : n ≤ 64
      · exact grow_nil_small N n 0 _ hbk' hn1 h64
      · exact grow_nil_big N n 0 _ hbk' (by omega) (by simp at hlim; omega)
    clear hbk hbk'
    go_enter Tryf.func76, Tryf.ntmps76
    go_wp2_with (first | (go_at_call 78; refine (Tryf.Buffer_tryGrow_none N _ 0 0 n _ c0 (Nat.le_refl _) (Nat.zero_le _) (by omega)).mono ?_; rintro e w' ⟨rfl, rfl⟩) | (go_at_call 79; refine HG.out.mono ?_))
    rintro e W1 ⟨rfl, ⟨cap, cur, hbk, hg, hcs, hle, hcm, htk⟩, hgr⟩
    have hgW := Lib.grownBy_trans hg0 hgr
    rw [hz0] at hbk hg
    have hsrc1 : ∀ j v, (ic cs)[j]? = some v → W1.cell? (a.add j) = some v := fun j v hj => hgW.cell (hsrc j v hj) (by rw [Lib.block_add]; exact fun e => hab (Option.some.inj e))
    have hcp := run_copy_row (P := Tryf.prog) W1 22 22 3 5 w.heap.size 0 (0 + n) cap a n c cur 5 (ic cs) und22 hinfo hg (by rw [hcl]; simp) hsrc1 (by rw [hcl]; omega) (ic_one _)
    rw [hcl] at hcp
    have HE := hide (bw_end (bs := []) (cs := cs) (l := 0) (w := w) rfl hn hn1 hbk hg hcs hle hcm htk (by omega) hgW (.inr (Nat.le_refl _)))
    have d0 : W1.cell? ⟨N, 0, none⟩ = some (.slice (some ⟨w.heap.size, 0, none⟩) (0 + n) cap) := by rw [Lib.cell_of_heap hbk]; rfl
    rw [Nat.zero_add] at d0 hcp
    have hcm' := hcm
    unfold maxLen at hcm'
    have hne : ¬ cap = 0 := by omega
    clear hbk hg HG c0 c2 f2 hgW hgr hsrc1
    go_wp2
    go_ret2
    refine ⟨rfl, ?_⟩
    simpa using HE.out
  · -- IT HAS A ROW: l bytes in it
    obtain ⟨l, hl⟩ : ∃ l, bs.length = l := ⟨_, rfl⟩
    rw [hl] at hpos hbk hle htk hlim
    have c2 : w.cell? ⟨N, 2, none⟩ = some (.int .i8 lr) := by rw [Lib.cell_of_heap hbk]; rfl
    have f2 : w.frozen? ⟨N, 2, none⟩ = false := Lib.frozen_of_heap hbk 2
    have hrow : RowOf w N g := (rowOf_heap hbk).2 ⟨_, _, rfl⟩
    have hbk' := Lib.heap_setCell_same (i := 2) hbk (.int .i8 0)
    have hg0 : w.grownBy (w.setCell ⟨N, 2, none⟩ (.int .i8 0)) (some N) := Lib.grownBy_setCell w N 2 _
    have hz0 : (w.setCell ⟨N, 2, none⟩ (.int .i8 0)).heap.size = w.heap.size := by simp [World.setCell]
    have c0 : (w.setCell ⟨N, 2, none⟩ (.int .i8 0)).cell? ⟨N, 0, none⟩ = some (.slice (some ⟨g, 0, none⟩) l cap) := by rw [Lib.cell_of_heap hbk']; rfl
    have f0 : (w.setCell ⟨N, 2, none⟩ (.int .i8 0)).frozen? ⟨N, 0, none⟩ = false := Lib.frozen_of_heap hbk' 0
    have hg' : (w.setCell ⟨N, 2, none⟩ (.int .i8 0)).heap[g]? = some (.cells cur 5 (0, 0)) := by rw [Below.heap_setCell _ _ _ _ (by show g ≠ N; omega)]; exact hg
    have hcm' := hcm
    unfold maxLen at hcm'
    by_cases hroom : n ≤ cap - l
    · -- THERE IS ROOM
      have hbk2 := Lib.heap_setCell_same (i := 0) hbk' (.slice (some ⟨g, 0, none⟩) (l + n) cap)
      have hg2 : ((w.setCell ⟨N, 2, none⟩ (.int .i8 0)).setCell ⟨N, 0, none⟩ (.slice (some ⟨g, 0, none⟩) (l + n) cap)).heap[g]? = some (.cells cur 5 (0, 0)) := by rw [Below.heap_setCell _ _ _ _ (by show g ≠ N; omega)]; exact hg'
      have hgW := Lib.grownBy_setB hg0 0 (.slice (some ⟨g, 0, none⟩) (l + n) cap)
      obtain ⟨W1, hW1⟩ : ∃ W1, W1 = (w.setCell ⟨N, 2, none⟩ (.int .i8 0)).setCell ⟨N, 0, none⟩ (.slice (some ⟨g, 0, none⟩) (l + n) cap) := ⟨_, rfl⟩
      rw [← hW1] at hbk2 hg2 hgW
      have HT := hide (Tryf.Buffer_tryGrow_room N _ l cap n _ c0 f0 hle hcm hroom)
      rw [← hW1] at HT
      have hsrc1 : ∀ j v, (ic cs)[j]? = some v → W1.cell? (a.add j) = some v := fun j v hj => hgW.cell (hsrc j v hj) (by rw [Lib.block_add]; exact fun e => hab (Option.some.inj e))
      have hcp := run_copy_row (P := Tryf.prog) W1 22 22 3 5 g l n (cap - l) a n c cur 5 (ic cs) und22 hinfo hg2 (by rw [hcl]; simp) hsrc1 (by rw [hcl]; omega) (ic_one _)
      rw [hcl] at hcp
      have HE := hide (bw_end (w := w) hl hn hn1 hbk2 hg2 hcs (by omega) hcm htk hNg hgW (.inl hrow))
      rw [htk, List.append_assoc] at HE
      have d0 : W1.cell? ⟨N, 0, none⟩ = some (.slice (some ⟨g, 0, none⟩) (l + n) cap) := by rw [Lib.cell_of_heap hbk2]; rfl
      have hne : ¬ cap = l := by omega
      clear hbk hbk' hg hg' hg2 hbk2 c0 f0 hW1 hgW hsrc1
      go_enter Tryf.func76, Tryf.ntmps76
      go_wp2_with (first | (go_at_call 78; refine HT.out.mono ?_; rintro e w' ⟨rfl, rfl⟩))
      go_ret2
      exact ⟨rfl, HE.out⟩
    · -- THERE IS NONE
      have HG := hide (grow_row N g l cap n 0 cur _ hbk' (by omega) hg' hle hcm hcs (by omega) (by rw [htk]; exact ic_one _) hpos hn1 (by omega) (by omega))
      have hroom' : cap - l < n := by omega
      clear hbk hbk' hg hg' f0
      go_enter Tryf.func76, Tryf.ntmps76
      go_wp2_with (first | (go_at_call 78; refine (Tryf.Buffer_tryGrow_none N _ l cap n _ c0 hle hcm hroom').mono ?_; rintro e w' ⟨rfl, rfl⟩) | (go_at_call 79; refine HG.out.mono ?_))
      rintro e W1 ⟨rfl, ⟨cap2, cur2, hbk, hg, hcs2, hle2, hcm2, htk2⟩, hgr⟩
      have hgW := Lib.grownBy_trans hg0 hgr
      rw [hz0] at hbk hg
      have hsrc1 : ∀ j v, (ic cs)[j]? = some v → W1.cell? (a.add j) = some v := fun j v hj => hgW.cell (hsrc j v hj) (by rw [Lib.block_add]; exact fun e => hab (Option.some.inj e))
      have hcp := run_copy_row (P := Tryf.prog) W1 22 22 3 5 w.heap.size l n (cap2 - l) a n c cur2 5 (ic cs) und22 hinfo hg (by rw [hcl]; simp) hsrc1 (by rw [hcl]; omega) (ic_one _)
      rw [hcl] at hcp
      have HE := hide (bw_end (w := w) hl hn hn1 hbk hg hcs2 hle2 hcm2 (htk2.trans htk) (by omega) hgW (.inr (Nat.le_refl _)))
      rw [htk2, htk, List.append_assoc] at HE
      have d0 : W1.cell? ⟨N, 0, none⟩ = some (.slice (some ⟨w.heap.size, 0, none⟩) (l + n) cap2) := by rw [Lib.cell_of_heap hbk]; rfl
      have hcm2' := hcm2
      unfold maxLen at hcm2'
      have hne : ¬ cap2 = l := by omega
      clear hbk hg HG c0 c2 f2 hgW hgr hsrc1
      go_wp2
      go_ret2
      exact ⟨rfl, HE.out⟩

end Go.Proofs.Qxb6616642aFmt
