/-
  node.ZZFetchB1 BY ITS CONTRACT (seat b6616194a): the shim that hands Fetch a lookup over plain data.
-/
import Derived.Test.Qxb6616194aFetch
import Derived.Deep.RegionHeld3
namespace Go.Proofs.Qxb6616194a
open Go.ChangeShapes Go.WideShapes Go.ChangeAt Go.RowKit
set_option linter.unusedVariables false

theorem alloc_last (w : World) (o : Obj) (n : Nat) (h : w.heap.size = n) : (w.alloc o).heap[n]? = some o := by subst h; exact heap_alloc_new w o
theorem alloc6 (w : World) (A B C D E G : Obj) :
    ((((((w.alloc A).alloc B).alloc C).alloc D).alloc E).alloc G).heap[w.heap.size]? = some A ∧ ((((((w.alloc A).alloc B).alloc C).alloc D).alloc E).alloc G).heap[w.heap.size + 1]? = some B ∧
    ((((((w.alloc A).alloc B).alloc C).alloc D).alloc E).alloc G).heap[w.heap.size + 2]? = some C ∧ ((((((w.alloc A).alloc B).alloc C).alloc D).alloc E).alloc G).heap[w.heap.size + 3]? = some D ∧
    ((((((w.alloc A).alloc B).alloc C).alloc D).alloc E).alloc G).heap[w.heap.size + 4]? = some E ∧ ((((((w.alloc A).alloc B).alloc C).alloc D).alloc E).alloc G).heap[w.heap.size + 5]? = some G ∧
    ((((((w.alloc A).alloc B).alloc C).alloc D).alloc E).alloc G).heap.size = w.heap.size + 6 := by
  refine ⟨?_, ?_, ?_, ?_, ?_, ?_, by simp⟩
  · rw [Below.heap_alloc _ _ _ (by first | (simp; done) | (simp; omega)), Below.heap_alloc _ _ _ (by first | (simp; done) | (simp; omega)), Below.heap_alloc _ _ _ (by first | (simp; done) | (simp; omega)), Below.heap_alloc _ _ _ (by first | (simp; done) | (simp; omega)), Below.heap_alloc _ _ _ (by simp)]; exact alloc_last _ _ _ rfl
  · rw [Below.heap_alloc _ _ _ (by first | (simp; done) | (simp; omega)), Below.heap_alloc _ _ _ (by first | (simp; done) | (simp; omega)), Below.heap_alloc _ _ _ (by first | (simp; done) | (simp; omega)), Below.heap_alloc _ _ _ (by simp)]; exact alloc_last _ _ _ (by simp)
  · rw [Below.heap_alloc _ _ _ (by first | (simp; done) | (simp; omega)), Below.heap_alloc _ _ _ (by first | (simp; done) | (simp; omega)), Below.heap_alloc _ _ _ (by simp)]; exact alloc_last _ _ _ (by simp)
  · rw [Below.heap_alloc _ _ _ (by first | (simp; done) | (simp; omega)), Below.heap_alloc _ _ _ (by simp)]; exact alloc_last _ _ _ (by simp)
  · rw [Below.heap_alloc _ _ _ (by simp)]; exact alloc_last _ _ _ (by simp)
  · exact alloc_last _ _ _ (by simp)

/-- What is known of found, of hops, as they are handed in. -/
def RowOf {α : Type} (w : World) (a : Option Addr) (len : Nat) (mk : α → Value) (X : Nat → α) : Prop := ∀ i, i < len → ∃ b off, a = some ⟨b, off, none⟩ ∧ w.cell? ⟨b, off + i, none⟩ = some (mk (X i))

theorem st_start (w : World) (af ah : Option Addr) (lf cf lh ch : Nat) (F : Nat → Bool) (H : Nat → Int) (hf : RowOf w af lf Value.bool F) (hh : RowOf w ah lh (Value.int .i64) H) :
    St w.heap.size af lf cf ah lh ch F H ((((((w.alloc (.cells #[.slice af lf cf] 23)).alloc (.cells #[.slice ah lh ch] 24)).alloc (.cells #[.slice none 0 0] 26)).alloc (.cells #[.int .i64 0] 3)).alloc (.cells #[.bool false, .bool false, .slice none 0 0, .int .i64 0, .slice none 0 0] 31)).alloc (.cells #[.int .i64 0] 3)) 0 [] 0 := by
  obtain ⟨h0, h1, h2, h3, h4, h5, hs⟩ := alloc6 w (.cells #[.slice af lf cf] 23) (.cells #[.slice ah lh ch] 24) (.cells #[.slice none 0 0] 26) (.cells #[.int .i64 0] 3) (.cells #[.bool false, .bool false, .slice none 0 0, .int .i64 0, .slice none 0 0] 31) (.cells #[.int .i64 0] 3)
  refine ⟨by omega, h0, h1, ⟨_, h2, World.ownsRow_nil _ _ _ _⟩, h3, ⟨_, _, _, _, _, h4⟩, h5, ?_, ?_⟩
  · intro i hi
    obtain ⟨b, off, e, hc⟩ := hf i hi
    have hb := World.block_lt_of_cell? w _ hc
    refine ⟨b, off, e, hb, ?_⟩
    rw [World.cell?_alloc_lt _ _ _ (by simp at hb ⊢; omega), World.cell?_alloc_lt _ _ _ (by simp at hb ⊢; omega), World.cell?_alloc_lt _ _ _ (by simp at hb ⊢; omega), World.cell?_alloc_lt _ _ _ (by simp at hb ⊢; omega), World.cell?_alloc_lt _ _ _ (by simp at hb ⊢; omega), World.cell?_alloc_lt _ _ _ hb]
    exact hc
  · intro i hi
    obtain ⟨b, off, e, hc⟩ := hh i hi
    have hb := World.block_lt_of_cell? w _ hc
    refine ⟨b, off, e, hb, ?_⟩
    rw [World.cell?_alloc_lt _ _ _ (by simp at hb ⊢; omega), World.cell?_alloc_lt _ _ _ (by simp at hb ⊢; omega), World.cell?_alloc_lt _ _ _ (by simp at hb ⊢; omega), World.cell?_alloc_lt _ _ _ (by simp at hb ⊢; omega), World.cell?_alloc_lt _ _ _ (by simp at hb ⊢; omega), World.cell?_alloc_lt _ _ _ hb]
    exact hc

theorem kq_start (w : World) (A B C D E G : Obj) : Kq (SF w.heap.size) w.heap.size w ((((((w.alloc A).alloc B).alloc C).alloc D).alloc E).alloc G) :=
  ((((((Kq.refl _ _ _).alloc _).alloc _).alloc _).alloc _).alloc _).alloc _

set_option maxHeartbeats 1000000 in
theorem zz_any (ps : List (List Value)) (w : World) (a af ah : Option Addr) (cap lf cf lh ch : Nat) (F : Nat → Bool) (H : Nat → Int) (hf : RowOf w af lf Value.bool F) (hh : RowOf w ah lh (Value.int .i64) H)
    (hF : ∀ i, lf ≤ i → F i = false) (hH : ∀ i, lh ≤ i → H i = 0) (hlf : lf ≤ 1000000) (hlh : lh ≤ 1000000) (hpos : PosAt w.heap.size w a ps) (hcap : ps.length ≤ cap) (hcap' : cap ≤ 9223372036854775807) (hn : ps.length ≤ 100000) :
    Calls Try.prog 7 #[.slice a ps.length cap, .slice af lf cf, .slice ah lh ch] w fun e w' => ∃ oa cp,
      e = .returned (.tuple #[.slice oa (fin F H ps 0 []).1 cp, .int .i64 1, .agg #[.bool (fin F H ps 0 []).2.2.1, .bool (fin F H ps 0 []).2.2.2.1, .slice none 0 0, .int .i64 (fin F H ps 0 []).2.2.2.2, .slice none 0 0]]) ∧
      w'.ownsRow (w.heap.size + 6) 36 32 (.slice oa (fin F H ps 0 []).1 cp) (fin F H ps 0 []).1 (fin F H ps 0 []).2.1 ∧ Below w.heap.size w w' := by
  have S0 := st_start w af ah lf cf lh ch F H hf hh
  have K0 := kq_start w (.cells #[.slice af lf cf] 23) (.cells #[.slice ah lh ch] 24) (.cells #[.slice none 0 0] 26) (.cells #[.int .i64 0] 3) (.cells #[.bool false, .bool false, .slice none 0 0, .int .i64 0, .slice none 0 0] 31) (.cells #[.int .i64 0] 3)
  have I := fetch_any hF hH hlf hlh ps _ 0 [] 0 a cap S0 (hpos.keep K0 sF_N) hcap hcap' (by omega) (by omega)
  have HK := hide K0
  have HI := hide I
  clear S0 I hf hh hF hH hpos K0
  obtain ⟨n, hnn⟩ : ∃ n, ps.length = n := ⟨_, rfl⟩
  rw [hnn] at HI hcap hn ⊢
  generalize fin F H ps 0 [] = r at HI ⊢
  obtain ⟨m, A, x, f, h⟩ := r
  clear hnn
  go_enter Try.func7, Try.ntmps7
  go_wp2_with fail
  refine HI.out.mono ?_
  rintro e w' ⟨rfl, hD⟩
  have hX : w.heap.size + 6 ≤ w'.heap.size := by have := hD.kq.size; simp at this; omega
  obtain ⟨va, k2, ho⟩ := hD.k2
  obtain ⟨oa, cp, rfl⟩ : ∃ oa cp, va = .slice oa m cp := by
    rcases ho.2 with ⟨rfl, h0⟩ | ⟨g, cp, cur, rfl, _⟩
    · simp only at h0; subst h0; exact ⟨_, _, rfl⟩
    · exact ⟨_, _, rfl⟩
  have q2 : w'.cell? ⟨w.heap.size + 1 + 1, 0, none⟩ = _ := cell_of_one k2
  have f2 : w'.frozen? ⟨w.heap.size + 1 + 1, 0, none⟩ = _ := free_of_one k2
  have q3 : w'.cell? ⟨w.heap.size + 1 + 1 + 1, 0, none⟩ = _ := cell_of_one hD.k3
  have f3 : w'.frozen? ⟨w.heap.size + 1 + 1 + 1, 0, none⟩ = _ := free_of_one hD.k3
  obtain ⟨g0', g1', g2', g3', g4', gf⟩ := five_cell hD.k4
  have g0 : w'.cell? ⟨w.heap.size + 1 + 1 + 1 + 1, 0, none⟩ = _ := g0'
  have g1 : w'.cell? ⟨w.heap.size + 1 + 1 + 1 + 1, 1, none⟩ = _ := g1'
  have g2 : w'.cell? ⟨w.heap.size + 1 + 1 + 1 + 1, 2, none⟩ = _ := g2'
  have g3 : w'.cell? ⟨w.heap.size + 1 + 1 + 1 + 1, 3, none⟩ = _ := g3'
  have g4 : w'.cell? ⟨w.heap.size + 1 + 1 + 1 + 1, 4, none⟩ = _ := g4'
  have gf0 : w'.frozen? ⟨w.heap.size + 1 + 1 + 1 + 1, 0, none⟩ = _ := gf 0
  have gf1 : w'.frozen? ⟨w.heap.size + 1 + 1 + 1 + 1, 1, none⟩ = _ := gf 1
  have gf2 : w'.frozen? ⟨w.heap.size + 1 + 1 + 1 + 1, 2, none⟩ = _ := gf 2
  have gf3 : w'.frozen? ⟨w.heap.size + 1 + 1 + 1 + 1, 3, none⟩ = _ := gf 3
  have gf4 : w'.frozen? ⟨w.heap.size + 1 + 1 + 1 + 1, 4, none⟩ = _ := gf 4
  clear g0' g1' g2' g3' g4'
  have HD := hide hD
  have HO := hide ho
  clear hD ho k2 gf
  simp only at q2 q3 g0 g1 g2 g3 g4
  go_wp2_with fail
  go_region
  go_wp2_with fail
  refine bodyPost_ret (v := .tuple #[.slice oa m cp, .int .i64 1, .agg #[.bool x, .bool f, .slice none 0 0, .int .i64 h, .slice none 0 0]]) (by simp [results, Try.results7, go_sem, q2, q3, g0, g1, g2, g3, g4]) rfl ⟨oa, cp, rfl, ?_, ?_⟩
  · refine World.ownsRow.drew ?_
    iterate 7 (refine ownsRow_setCell_below ?_ (by simp) _)
    exact HO.out
  · refine Below.drew ?_
    iterate 7 (refine Below.setCell ?_ (by simp; omega) _)
    exact (HK.out.trans HD.out.kq).below sF_N (Nat.le_refl _)
end Go.Proofs.Qxb6616194a
