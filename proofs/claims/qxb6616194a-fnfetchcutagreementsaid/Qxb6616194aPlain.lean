/-
  THE PLAIN LAWS OF THE FETCH LAWS (seat b6616194a): what 'fin' comes to; the cells of positions laid one behind the other; a position equals itself.
-/
import Derived.Test.Qxb6616194aSmall
import Derived.DeepKeys
namespace Go.Proofs.Qxb6616194a
open Go.RowKit
set_option linter.unusedVariables false

/-- Up to and with the first that is found, else the last. -/
theorem fin_at (F : Nat → Bool) (H : Nat → Int) : ∀ (ps : List (List Value)) (c : Nat) (A : List Value) (k : Nat), k < ps.length → (∀ i, i < k → F (c + i) = false) → (F (c + k) = true ∨ k + 1 = ps.length) →
    fin F H ps c A = (c + k + 1, A ++ (ps.take (k + 1)).flatten, true, F (c + k), H (c + k))
  | [], c, A, k, h, _, _ => by simp at h
  | [p], c, A, k, h, _, _ => by
    have : k = 0 := by simpa using h
    subst this
    simp [fin]
  | p :: q :: r, c, A, k, h, h1, h2 => by
    rw [fin]
    cases k with
    | zero =>
      rcases h2 with h2 | h2
      · simp only [Nat.add_zero] at h2; simp [h2]
      · simp at h2
    | succ k =>
      have h0 := h1 0 (by omega)
      simp only [Nat.add_zero] at h0
      rw [h0, if_neg (by simp)]
      rw [fin_at F H (q :: r) (c + 1) (A ++ p) k (by simpa using h) (fun i hi => by have := h1 (i + 1) (by omega); rw [show c + 1 + i = c + (i + 1) from by omega]; exact this) (by
        rcases h2 with h2 | h2
        · left; rw [show c + 1 + k = c + (k + 1) from by omega]; exact h2
        · right; simpa using h2)]
      simp [show c + 1 + k = c + (k + 1) from by omega]

/-- A position's 32 cells are bytes. -/
def Byt (p : List Value) : Prop := p.length = 32 ∧ ∀ v ∈ p, ∃ z, v = .int .u8 z ∧ (Lit.int .u8 z).wf = true
theorem Byt.one {p : List Value} (h : Byt p) : ∀ v ∈ p, v.oneCell' = true := fun v hv => by obtain ⟨z, rfl, _⟩ := h.2 v hv; rfl

theorem flat_len : ∀ (ps : List (List Value)), (∀ p ∈ ps, p.length = 32) → ps.flatten.length = 32 * ps.length
  | [], _ => rfl
  | p :: r, h => by
    simp only [List.flatten_cons, List.length_append, flat_len r (fun q hq => h q (List.mem_cons_of_mem _ hq)), h p (List.mem_cons_self ..), List.length_cons]; omega
/-- The i-th position's cells among all of them. -/
theorem flat_at : ∀ (ps : List (List Value)), (∀ p ∈ ps, p.length = 32) → ∀ (i : Nat) (p : List Value), ps[i]? = some p → ∀ (j : Nat) (v : Value), p[j]? = some v → ps.flatten[i * 32 + j]? = some v
  | [], _, i, p, h, j, v, hj => by simp at h
  | q :: r, hl, i, p, h, j, v, hj => by
    have hq := hl q (List.mem_cons_self ..)
    cases i with
    | zero =>
      simp only [List.getElem?_cons_zero, Option.some.injEq] at h
      subst h
      have := (List.getElem?_eq_some_iff.1 hj).1
      rw [List.flatten_cons, List.getElem?_append_left (by omega)]; simpa using hj
    | succ i =>
      rw [List.flatten_cons, List.getElem?_append_right (by omega), show (i + 1) * 32 + j - q.length = i * 32 + j from by omega]
      exact flat_at r (fun q hq => hl q (List.mem_cons_of_mem _ hq)) i p (by simpa using h) j v hj

theorem mapM_some {α β : Type} (f : α → Option β) : ∀ l : List α, (∀ x ∈ l, ∃ y, f x = some y) → ∃ ys, l.mapM f = some ys
  | [], _ => ⟨[], rfl⟩
  | x :: l, h => by
    obtain ⟨y, hy⟩ := h x (List.mem_cons_self ..)
    obtain ⟨ys, hys⟩ := mapM_some f l (fun z hz => h z (List.mem_cons_of_mem _ hz))
    exact ⟨y :: ys, by simp [List.mapM_cons, hy, hys]⟩

theorem Try.cells5 : Try.prog.cellsOf 5 = 1 := by kernel_rfl
theorem Try.cells35 : Try.prog.cellsOf 35 = 32 := by kernel_rfl
theorem Try.cells36 : Try.prog.cellsOf 36 = 32 := by kernel_rfl
theorem Try.key35 : Try.prog.keyTypeAt 10 35 = true := by kernel_rfl
theorem Try.key36 : Try.prog.keyTypeAt 10 36 = true := by kernel_rfl

theorem byt_lits {t : TypeId} (hu : Try.prog.underlying t = some (.array 32 5)) (hc : Try.prog.cellsOf t = 32) {p : List Value} (h : Byt p) : ∃ ls, Try.prog.keyLits 2 t p = some ls := by
  obtain ⟨ls, hls⟩ := mapM_some (fun i => Try.prog.keyLits 1 5 ((p.drop (i * Try.prog.cellsOf 5)).take (Try.prog.cellsOf 5))) (List.range 32) (fun i hi => by
    have hi' : i < p.length := by rw [h.1]; exact List.mem_range.1 hi
    obtain ⟨z, hz, hw⟩ := h.2 p[i] (List.getElem_mem _)
    refine ⟨[.int .u8 z], ?_⟩
    rw [Try.cells5, Nat.mul_one, List.drop_eq_getElem_cons hi', List.take_succ_cons, List.take_zero, hz]
    simp [Program.keyLits, Try.underlying5, hw])
  refine ⟨ls.flatten, ?_⟩
  rw [show (2 : Nat) = 1 + 1 from rfl, Program.keyLits.eq_def]
  simp only [hu, hc, h.1, if_true, hls, Option.map_some]

theorem byt_self {t : TypeId} (hu : Try.prog.underlying t = some (.array 32 5)) (hc : Try.prog.cellsOf t = 32) (hk : Try.prog.keyTypeAt 10 t = true) {p : List Value} (h : Byt p) (w : World) :
    (Op.equalIn 10000 t (.agg p.toArray) (.agg p.toArray)).run Try.prog w = .ok true w := by
  obtain ⟨ls, hls⟩ := byt_lits hu hc h
  have hf : (Value.agg p.toArray).formed Try.prog t = true := by simp [Value.formed, hu, hc, h.1]
  obtain ⟨r, hr, hiff⟩ := run_equalIn_deep (P := Try.prog) 9990 10 t hk w 2 2 (.agg p.toArray) (.agg p.toArray) ls ls hf hf (by simpa [Value.cells] using hls) (by simpa [Value.cells] using hls)
  rw [hiff.2 rfl] at hr
  exact hr

/-- 'x != x' of two equal positions, whichever of the two types. -/
theorem run_neq_byt {t : TypeId} (hu : Try.prog.underlying t = some (.array 32 5)) (hc : Try.prog.cellsOf t = 32) (hk : Try.prog.keyTypeAt 10 t = true) {p : List Value} (h : Byt p) (w : World) :
    (binOp .neq t (.agg p.toArray) (.agg p.toArray)).run Try.prog w = .ok (.bool false) w := by
  rw [run_neq_struct, byt_self hu hc hk h w]; rfl
end Go.Proofs.Qxb6616194a
