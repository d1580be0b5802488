/-
  HELPERS SHARED BY THE TWO FETCH LAWS (seat b6616194a): copies of found and hops, positions in later worlds, a long array read in a region that draws its order.
-/
import Derived.Test.Qxb6616194aOpen
import Derived.WalkSpells
import Derived.Laws.CopyOwn
import Derived.Deep.DeepCutAuto
import Derived.Deep.CutBlock
import Derived.Deep.LoopGhost
import Derived.BigQuiet
import Derived.Deep.QuietTactic
namespace Go.Proofs.Qxb6616194a
open Go.ChangeShapes Go.WideShapes Go.ChangeAt Go.RowKit
set_option linter.unusedVariables false

theorem Try.info4 : (Try.prog.info? 4).map (fun i => (i.zero, i.size, i.bytes)) = some (some (.bool false), 1, 1) := by kernel_rfl
theorem Try.info3 : (Try.prog.info? 3).map (fun i => (i.zero, i.size, i.bytes)) = some (some (.int .i64 0), 1, 8) := by kernel_rfl
theorem rowOf_below {α : Type} {w wx : World} {a : Option Addr} {len : Nat} {mk : α → Value} {X : Nat → α} (h : RowOf w a len mk X) (hb : Below w.heap.size w wx) : RowOf wx a len mk X := fun i hi => by
  obtain ⟨b, off, e, hc⟩ := h i hi
  exact ⟨b, off, e, (hb.cell (World.block_lt_of_cell? w _ hc)).trans hc⟩

/-- What the 'make' of a row of one-cell elements leaves. -/
theorem made_row {w w' : World} {e n : Nat} {xs : List Value} (h : w'.ownsRow w.heap.size e 1 (.slice (some ⟨w.heap.size, 0, none⟩) n n) n xs) : ∃ cur : List Value, w'.heap[w.heap.size]? = some (.cells cur.toArray e (0, 0)) ∧ cur.length = n := by
  rcases h.2 with ⟨h1, _⟩ | ⟨g, cap, cur, h1, _, hg, _, _, hs, _⟩
  · simp at h1
  · simp at h1
    obtain ⟨rfl, rfl⟩ := h1
    exact ⟨cur.toList, by simpa using hg, by simpa using hs⟩
theorem splice_all {α : Type} (L cs : List α) (h : cs.length = L.length) : splice L 0 cs = cs := by simp [splice, h]
theorem row_copied {α : Type} {w : World} {g e n : Nat} {cur : List Value} {mk : α → Value} {X : Nat → α} (hc : cur.length = n) (h : w.heap[g]? = some (.cells (splice cur 0 ((List.range n).map fun i => mk (X i))).toArray e (0, 0))) : RowOf w (some ⟨g, 0, none⟩) n mk X := by
  rw [splice_all _ _ (by simp [hc])] at h
  intro i hi
  refine ⟨g, 0, rfl, ?_⟩
  simp [World.cell?, h, hi]

theorem pos_below {w wx : World} {a0 : Option Addr} {n : Nat} {P : Nat → List Value} (h : n = 0 ∨ ∃ b off, a0 = some ⟨b, off, none⟩ ∧ ∀ i, i < n → (P i).length = 32 ∧ (∀ v ∈ P i, v.oneCell' = true) ∧ w.rangeAt b (off + i * 32) (P i)) (hb : Below w.heap.size w wx) :
    n = 0 ∨ ∃ b off, a0 = some ⟨b, off, none⟩ ∧ ∀ i, i < n → (P i).length = 32 ∧ (∀ v ∈ P i, v.oneCell' = true) ∧ wx.rangeAt b (off + i * 32) (P i) := by
  rcases h with h | ⟨b, off, e, h⟩
  · exact .inl h
  · exact .inr ⟨b, off, e, fun i hi => ⟨(h i hi).1, (h i hi).2.1, fun j v hj => (hb.cell (World.block_lt_of_cell? w _ ((h i hi).2.2 j v hj))).trans ((h i hi).2.2 j v hj)⟩⟩

/-- The positions that fetchIDs has laid, as a list. -/
theorem pos_list {w : World} {a : Option Addr} {n : Nat} {P : Nat → List Value} (h : n = 0 ∨ ∃ g, a = some ⟨g, 0, none⟩ ∧ g < w.heap.size ∧ ∀ i, i < n → w.rangeAt g (i * 32) (P i)) (hP : ∀ i, i < n → (P i).length = 32 ∧ ∀ v ∈ P i, v.oneCell' = true) :
    PosAt w.heap.size w a ((List.range n).map P) := by
  rcases h with rfl | ⟨g, e, hg, h⟩
  · exact .inl rfl
  · refine .inr ⟨g, 0, e, hg, fun i p hp => ?_⟩
    rw [List.getElem?_map, Option.map_eq_some_iff] at hp
    obtain ⟨j, hj, rfl⟩ := hp
    obtain ⟨hlt, rfl⟩ := List.getElem?_eq_some_iff.1 hj
    simp only [List.length_range, List.getElem_range] at hlt ⊢
    refine ⟨(hP i hlt).1, (hP i hlt).2, ?_⟩
    rw [show 0 + 32 * i = i * 32 from by omega]; exact h i hlt

/-- Where the asked positions lie. -/
theorem asked_at {w : World} {B m n k : Nat} {oa : Option Addr} {cp : Nat} {A : List Value} {P : Nat → List Value} (h : w.ownsRow B 36 32 (.slice oa m cp) m A) (em : m = k + 1) (eA : A = (((List.range n).map P).take (k + 1)).flatten) (hk : k < n) (hP : ∀ i, i < n → (P i).length = 32) :
    ∃ g, oa = some ⟨g, 0, none⟩ ∧ ∀ i, i < k + 1 → w.rangeAt g (i * 32) (P i) := by
  rcases h.2 with ⟨h1, h0⟩ | ⟨g, cap, cur, h1, _⟩
  · omega
  · simp only [Value.slice.injEq] at h1
    refine ⟨g, h1.1, fun i hi j v hj => ?_⟩
    have hc := h.cells (g := g) (by rw [h1.1]; rfl) (i * 32 + j) v (by
      rw [eA]
      refine flat_at _ (fun p hp => ?_) i (P i) ?_ j v hj
      · obtain ⟨a, ha, rfl⟩ := List.mem_map.1 (List.mem_of_mem_take hp)
        exact hP a (List.mem_range.1 ha)
      · rw [List.getElem?_take_of_lt hi, List.getElem?_map, List.getElem?_range (by omega)]; rfl)
    rw [Addr.add_mid, Nat.zero_add] at hc
    exact hc
theorem pos_at {w : World} {a0 : Option Addr} {n : Nat} {P : Nat → List Value} (h : n = 0 ∨ ∃ b off, a0 = some ⟨b, off, none⟩ ∧ ∀ i, i < n → (P i).length = 32 ∧ (∀ v ∈ P i, v.oneCell' = true) ∧ w.rangeAt b (off + i * 32) (P i)) (hn : 0 < n) :
    ∃ b off, a0 = some ⟨b, off, none⟩ ∧ ∀ i, i < n → w.rangeAt b (off + i * 32) (P i) := by
  rcases h with h | ⟨b, off, e, h⟩
  · omega
  · exact ⟨b, off, e, fun i hi => (h i hi).2.2⟩

/-- A long array read in a region that draws its order and only reads. -/
theorem wpQuiet_load_mid {Pr : Program} {ops : Array Oper} {C : World → Prop} {Q : Act → Prop} {rest : List Oper} {op : Oper} {a : Act} (hw : Region.wanted op (yielded ops a.tmps) = true) (ty : TypeId) (x : Operand) (ho : op.op = .load ty x)
    (b o : Nat) (hx : a.eval x = .pointer (some ⟨b, o, none⟩)) (cs : List Value) (d : TypeDesc) (hC : ∀ w, C w → w.rangeAt b o cs) (hu : Pr.underlying ty = some d) (hd : d.isRow = true) (hi : (Pr.info? ty).map (·.size) = some cs.length)
    (h : wpQuiet Pr ops C Q rest (a.put op.dst (.agg cs.toArray))) : wpQuiet Pr ops C Q (op :: rest) a := by
  refine BigFrame.wpQuiet_want hw fun K hK => ⟨.agg cs.toArray, fun w hw => ?_, hK _ h⟩
  unfold Oper.quietAt execOp
  simp only [ho, hx, Instr.loadAt, Instr.sureAddr, Sem.run_bind, Sem.run_pure, Result.andThen_ok, run_loadVar_mid w b o ty cs d (hC w hw) hu hd hi]
  exact ⟨rfl, rfl⟩

theorem copy_src {α : Type} {w wx : World} {x : Addr} {len : Nat} {mk : α → Value} {X : Nat → α} (h : RowOf w (some x) len mk X) (hb : Below w.heap.size w wx) :
    ∀ j v, ((List.range len).map fun i => mk (X i))[j]? = some v → wx.cell? (x.add j) = some v := by
  intro j v hj
  rw [List.getElem?_map, Option.map_eq_some_iff] at hj
  obtain ⟨i, hi, rfl⟩ := hj
  obtain ⟨hlt, rfl⟩ := List.getElem?_eq_some_iff.1 hi
  simp only [List.length_range, List.getElem_range] at hlt ⊢
  obtain ⟨b, off, e, hc⟩ := h j hlt
  simp only [Option.some.injEq] at e
  subst e
  rw [Addr.add_mid]
  exact (hb.cell (World.block_lt_of_cell? w _ hc)).trans hc

end Go.Proofs.Qxb6616194a
