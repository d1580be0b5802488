/-
  WHAT THE THREE CARDS SHARE (seat b6616642aF): an argument's bytes; the table off 'laid'; the start that is shown; the arguments behind the call. fmt's text is TOLD (nothing of it is met on these roads); 'laid' is TIED by the given text.
-/
import Derived.Test.Qxb6616642aFmtCards
import Derived.Test.Qxb6616642aFmtTie
import Derived.Test.Qxb6616642aFmtNew
import Derived.Deep.DeepWitnessRowRef
import Derived.Deep.DeepWitnessRef
import Derived.Lib.LaidIn
import Derived.Lib.LaidTab
import Derived.Lib.LaidU8
import Derived.Stop.JoinedTold
import Derived.Stop.LaidErr
import Derived.SevenTiedAt
import Derived.ChangeSlices
import Derived.Carry
import Derived.ProofKit
import Derived.OpenShut
namespace Go.Proofs.Qxb6616642aFmt
open Go.ChangeShapes Go.WideShapes Go.ChangeAt Go.RowKit Go.Extern.Stop Go.Stop Go.Extern
set_option linter.unusedVariables false

theorem own : ownKnob Tryf.prog.godebug = none := by kernel_rfl
theorem laidOut : laidOutB Tryf.pinned.checked.prog = true := by kernel_rfl
theorem stops : Tryf.pinned.checked.prog.stops = ["fmt.errorf"] := by kernel_rfl
theorem stopKnobs : Tryf.pinned.checked.prog.stopKnobs = [] := by kernel_rfl
theorem quiet (os : Os) : Stop.quiet Tryf.pinned.checked.prog os := by
  intro k hk
  rw [stopKnobs] at hk
  cases hk

/-- An argument's bytes. -/
theorem open_bytes {H : Type} {enc : TypeId × Value → H} {w : World} {a : Option Addr} {len cap : Nat} {d : DataW H} {ps : List MemPlace}
    (h : DataW.Trod enc Tryf.prog w 0 (fun _ => true) true 22 (.slice a len cap) d ps) :
    ∃ (cs : List Int) (sb so : Nat), cs.length = len ∧ len ≤ cap ∧ cap ≤ maxLen ∧ (0 < len → a = some ⟨sb, so, none⟩ ∧ sb < w.heap.size ∧ w.rangeAt sb so (ic cs)) := by
  obtain ⟨fuel, hf⟩ := h
  have hf' : DataW.trod enc Tryf.prog w 0 (fun _ => true) true fuel 22 [.slice a len cap] = some (d, ps) := hf
  rcases open_ints Tryf.underlying22 Tryf.underlying5 (by kernel_rfl) hf' with ⟨hcs, _⟩ | ⟨y, l, c, zs, hcs, _, hl, hm, hz, _, hcell, _⟩
  · simp only [List.cons.injEq, Value.slice.injEq, and_true] at hcs
    obtain ⟨rfl, rfl, rfl⟩ := hcs
    exact ⟨[], 0, 0, rfl, Nat.le_refl _, Nat.zero_le _, fun h => by omega⟩
  · simp only [List.cons.injEq, Value.slice.injEq, and_true] at hcs
    obtain ⟨rfl, rfl, rfl⟩ := hcs
    simp only [if_true] at hz
    obtain ⟨b, off, sp⟩ := y
    refine ⟨zs.take len, b, off, by rw [List.length_take]; omega, hl, hm, fun hpos => ?_⟩
    have h0 := hcell 0 (by omega)
    have : sp = none := by simpa [Addr.add] using World.cell?_spot h0
    subst this
    refine ⟨rfl, World.block_lt_of_cell? _ _ h0, fun j v hj => ?_⟩
    have hjl : j < len := by have := (List.getElem?_eq_some_iff.1 hj).1; simp at this; omega
    rw [← Addr.add_mid, hcell j (by omega), ← hj]
    simp [ic, hjl, show j < zs.length by omega]

/-- The table of powers, off 'laid'. -/
theorem tabK_of_laid {W : World} (hL : laidMet Tryf.prog Rows.fnNullFramesReadBackRow.laid W) : TabK W.heap.size W := by
  have h : Lib.TabIs Tryf.prog W powName .u64 Lib.pow10Tab := Lib.tabIs_of_head (g := 1) (by kernel_rfl) (by kernel_rfl) Tryf.underlying88 Tryf.underlying76 (by kernel_rfl) (by kernel_rfl) hL.tail.tail
  intro w' hb
  unfold Lib.TabIs World.var? at *
  cases hg : Tryf.prog.globalNamed powName with
  | none => simp [hg] at h
  | some g =>
    simp only [hg, Option.bind_some] at h ⊢
    have hlt : g < W.heap.size := by
      rcases Nat.lt_or_ge g W.heap.size with h' | h'
      · exact h'
      · rw [Array.getElem?_eq_none h'] at h; simp at h
    rw [hb g hlt]
    exact h

/-- An argument behind the call. -/
theorem trod_kp {H : Type} {enc : TypeId × Value → H} {W W' : World} {v : Value} {d : DataW H} {ps : List MemPlace} (h : DataW.Trod enc Tryf.prog W 0 (fun _ => true) true 22 v d ps) (hk : Kp W.heap.size W W') (hlt : ∀ x ∈ ps, x.block < W.heap.size) :
    DataW.Trod enc Tryf.prog W' 0 (fun b => decide (b < W.heap.size)) true 22 v d ps :=
  WideElems.Trod_stays laidOut (by kernel_rfl) (of_decide_eq_true (by kernel_rfl)) h (fun x hx => by
    have hb := hlt x hx
    cases x with
    | cell b o => exact World.cell?_of_block (w := W) (hk.block b hb)
    | map b => exact hk.block b hb) (fun x hx => by simpa using hlt x hx)

theorem Kp.frame {W W' : World} (h : Kp W.heap.size W W') (may : MemPlace → Prop) : W.keptBut W' may := by
  have : Below W.heap.size W { W' with tape := W.tape } := ⟨h.os, rfl, h.output, h.size, h.block⟩
  exact this.frame may

/-- THE START THAT IS SHOWN: the settled world, the four variables laid. -/
def laidWorldOf (P : Program) (os : Os) : World :=
  let N := (World.settled P os).heap.size
  let w0 := World.holding P os ⟨#[.cells #[.string ⟨#[115, 104, 111, 114, 116, 32, 119, 114, 105, 116, 101]⟩] 80], #[], []⟩
  let put (h : Array Obj) (g : Nat) (cs : Array Value) : Array Obj := h.modify g fun
    | .cells _ t frozen => .cells cs t frozen
    | o => o
  let h0 := put w0.heap 0 #[.iface 78 (.pointer (some ⟨N, 0, none⟩))]
  let h1 := put h0 1 (Lib.pow10Tab.map fun z => Value.int .u64 z).toArray
  let h2 := put h1 3 #[.int .u8 0, .int .u8 1, .int .u8 28, .int .u8 2, .int .u8 29, .int .u8 14, .int .u8 24, .int .u8 3, .int .u8 30, .int .u8 22, .int .u8 20, .int .u8 15, .int .u8 25, .int .u8 17, .int .u8 4, .int .u8 8, .int .u8 31, .int .u8 27, .int .u8 13, .int .u8 23, .int .u8 21, .int .u8 19, .int .u8 16, .int .u8 7, .int .u8 26, .int .u8 12, .int .u8 18, .int .u8 6, .int .u8 11, .int .u8 5, .int .u8 10, .int .u8 9]
  let h3 := put h2 4 #[.int .u8 0, .int .u8 1, .int .u8 56, .int .u8 2, .int .u8 57, .int .u8 49, .int .u8 28, .int .u8 3, .int .u8 61, .int .u8 58, .int .u8 42, .int .u8 50, .int .u8 38, .int .u8 29, .int .u8 17, .int .u8 4, .int .u8 62, .int .u8 47, .int .u8 59, .int .u8 36, .int .u8 45, .int .u8 43, .int .u8 51, .int .u8 22, .int .u8 53, .int .u8 39, .int .u8 33, .int .u8 30, .int .u8 24, .int .u8 18, .int .u8 12, .int .u8 5, .int .u8 63, .int .u8 55, .int .u8 48, .int .u8 27, .int .u8 60, .int .u8 41, .int .u8 37, .int .u8 16, .int .u8 46, .int .u8 35, .int .u8 44, .int .u8 21, .int .u8 52, .int .u8 32, .int .u8 23, .int .u8 11, .int .u8 54, .int .u8 26, .int .u8 40, .int .u8 15, .int .u8 34, .int .u8 20, .int .u8 31, .int .u8 10, .int .u8 25, .int .u8 14, .int .u8 19, .int .u8 9, .int .u8 13, .int .u8 8, .int .u8 7, .int .u8 6]
  { w0 with heap := h3 }

set_option maxRecDepth 1000000 in
theorem laid_met (os : Os) (args : Array Value) : laidMet Tryf.prog Rows.fnNullFramesReadBackRow.laid ((laidWorldOf Tryf.prog os).forCall (fun _ _ => 0) ⟨#[], args, []⟩).memory :=
  (LaidIn.of_run [3, 4, 1, 0, (World.settled Tryf.prog default).heap.size] 10 (by kernel_rfl) (by kernel_rfl) (by kernel_rfl) (by kernel_rfl)).met

end Go.Proofs.Qxb6616642aFmt
