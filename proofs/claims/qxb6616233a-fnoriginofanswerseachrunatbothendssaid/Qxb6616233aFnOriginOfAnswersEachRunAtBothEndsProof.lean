/-
  THE SHELL OF A PROOF OF 'Rows.FnOriginOfAnswersEachRunAtBothEndsSaid' ('example.com/fairweir/fairweir/zzlaws_internal_sim_b1.FnOriginOfAnswersEachRunAtBothEnds'), WRITTEN BY PROGRAM (proof-skeleton.mjs, third state) off the guide's own print for that function. Not trusted: Lean checks it.
  THE HOLE IS FILLED. ALL ELSE IS THE GUIDE's OWN WAY (howto/template/XProofs.lean; Derived/Test/ChunkProofs.lean for 'Below') at this function's number and types: leave it.
-/
import Derived.Test.Qxb6616233aRows
import Derived.Test.Qxb6616233aOriginLaw
import Derived.WalkKit
import Derived.ProofKit
import Derived.OpenShut
import Derived.ShutString
import Derived.ChangeOld
import Derived.Below
namespace Go.Proofs.Qxb6616233a.fnOriginOfAnswersEachRunAtBothEnds
open Go.ChangeShapes Go.WideShapes Go.ChangeAt Go.RowKit
open Go.ChangeMaps (open_string shut_string)
set_option linter.unusedVariables false

theorem own : ownKnob Try.prog.godebug = none := by kernel_rfl
theorem laidOut : laidOutB Try.prog = true := by kernel_rfl

/-- WHAT THE WALK IS TOLD OF A SLICE OF INTEGERS THAT CAME IN: it is nil; or it leads to a row of 'cap' cells, the numbers 'zs' (the first 'len' are its elements, the rest its spare room), each fitting its kind. -/
def IsRow (k : IntKind) (w : World) (a : Option Addr) (len cap : Nat) (zs : List Int) : Prop :=
  (a = none ∧ len = 0 ∧ cap = 0 ∧ zs = []) ∨
  ∃ x, a = some x ∧ len ≤ cap ∧ cap ≤ maxLen ∧ zs.length = cap ∧ (∀ i, i < zs.length → w.cell? (x.add i) = some (.int k (zs.getD i 0))) ∧ ∀ n ∈ zs, (Lit.int k n).wf = true

theorem wf_u32 (n : Int) (h : (Lit.int .u32 n).wf = true) : 0 ≤ n ∧ n < 4294967296 := by
  have hmin : IntKind.u32.min = 0 := rfl
  have hmax : IntKind.u32.max = 4294967295 := rfl
  simp only [Lit.wf, Bool.and_eq_true, decide_eq_true_eq] at h; omega

/-! ### STEP 1: THE WALK: the Go text returns true, AND WRITES NOTHING THAT WAS THERE: 'Below w.heap.size w w'' (Derived/Below.lean: '.refl', '.alloc', '.drew', '.setCell' at a new block, '.trans'). Open each 'IsRow' by 'rcases' AHEAD of 'go_enter'; part every test ahead of the walk. -/
theorem walk (a0 : Int) (a1 : Option Addr) (len1 cap1 : Nat) (z1 : List Int) (w : World) (w0 : (Lit.int .u32 a0).wf = true) (w1 : IsRow .u32 w a1 len1 cap1 z1) :
    Calls Try.prog 5 #[.int .u32 a0, .slice a1 len1 cap1] w fun e w' => e = .returned (.bool true) ∧ Below w.heap.size w w' := by
  have g0 := wf_u32 a0 w0
  rcases w1 with ⟨rfl, rfl, rfl, rfl⟩ | ⟨x, rfl, hl, hm, hz, hc, hwz⟩
  · go_enter Try.func5, Try.ntmps5
    go_wp2_with (go_at_call 8; go_in)
    go_ret
    exact ⟨rfl, Below.refl _ _⟩
  · unfold maxLen at hm
    by_cases e0 : len1 = 0
    · subst e0
      clear hc hwz
      go_enter Try.func5, Try.ntmps5
      go_wp2_with (go_at_call 8; go_in)
      go_ret
      exact ⟨rfl, Below.refl _ _⟩
    · by_cases e1 : len1 ≤ 65536
      · obtain ⟨b, off, rfl, hc'⟩ := ints_at hc (by omega)
        have hf : ∀ i, i < len1 → 0 ≤ z1.getD i 0 ∧ z1.getD i 0 < 4294967296 := fun i hi => by
          refine wf_u32 _ (hwz _ ?_)
          have hi' : i < z1.length := by omega
          rw [List.getD_eq_getElem?_getD, List.getElem?_eq_getElem hi']; exact List.getElem_mem _
        have hcc : ∀ i, i < len1 → w.cell? ⟨b, off + i, none⟩ = some (.int .u32 (z1.getD i 0)) := fun i hi => hc' i (by omega)
        clear hc hc' hwz hz
        obtain ⟨f, hff⟩ : ∃ f : Nat → Int, f = fun i => z1.getD i 0 := ⟨_, rfl⟩
        have hcf : ∀ i, i < len1 → w.cell? ⟨b, off + i, none⟩ = some (.int .u32 (f i)) := fun i hi => by rw [hff]; exact hcc i hi
        have hff' : ∀ i, i < len1 → 0 ≤ f i ∧ f i < 4294967296 := fun i hi => by rw [hff]; exact hf i hi
        clear hf hcc hff
        by_cases e2 : f 0 = 0
        · by_cases e3 : f (len1 - 1) < a0
          · exact law5_core w a0 b off len1 cap1 f g0.2 (by omega) e1 hl hm hcf hff' e2 e3
          · have c0 := hcf 0 (by omega)
            have cl := hcf (len1 - 1) (by omega)
            rw [e2] at c0
            simp only [Nat.add_zero] at c0
            have d2 : ((len1 : Int) == 0) = false := by simp; omega
            have d3 : a0 ≤ f (len1 - 1) := by omega
            have d4 : 0 < len1 := by omega
            clear hcf hff' e2 e3 e0 w0
            go_enter Try.func5, Try.ntmps5
            go_wp2_with (go_at_call 8; go_in)
            go_ret
            exact ⟨rfl, Below.refl _ _⟩
        · have c0 := hcf 0 (by omega)
          simp only [Nat.add_zero] at c0
          have d2 : ((len1 : Int) == 0) = false := by simp; omega
          have d3 : (f 0 != 0) = true := by simp [e2]
          have d4 : 0 < len1 := by omega
          clear hcf hff' e2 e0 w0
          go_enter Try.func5, Try.ntmps5
          go_wp2_with (go_at_call 8; go_in)
          go_ret
          exact ⟨rfl, Below.refl _ _⟩
      · clear hc hwz e0 w0
        go_enter Try.func5, Try.ntmps5
        go_wp2_with (go_at_call 8; go_in)
        all_goals
          go_ret
          exact ⟨rfl, Below.refl _ _⟩

/-! ### THE ROW's STEP: WRITTEN OUT: LEAVE IT -/
set_option maxRecDepth 100000 in
theorem lifted (os : Os) (started : os.Started) (H : Type) (enc : TypeId × Value → H) :
    ReturnsInHanded {} Try.checked os 5 .any (Rows.fnOriginOfAnswersEachRunAtBothEndsSpec.pre6 enc Try.prog Try.f5 Rows.fnOriginOfAnswersEachRunAtBothEndsRow.domain false) (Rows.fnOriginOfAnswersEachRunAtBothEndsSpec.post enc Try.prog Try.f5 false true false false) := by
  refine returnsInHanded_of_change (C := Try.checked) own started (by kernel_rfl) Try.func5
    (ChangeSpec.witness6 (enc := enc) (C := Try.checked) false ⟨#[], #[.int .u32 0, .slice none 0 0], []⟩ 8 (by kernel_rfl) (by kernel_rfl) (by kernel_rfl) (by kernel_rfl)) ?_
  intro W base args ds gs before hval0 hW hcnd _
  have hval : ∀ (j : Nat) t v, Try.f5.params[j]? = some t → args[j]? = some v → Value.okWide Try.prog W .any base t v := hval0
  have hW' := hW
  obtain ⟨p, q, hA0, hV, rfl, hfz, hnd⟩ := hW
  have hA : DataW.TrodAll enc Try.prog W 0 (fun _ => true) true Try.f5.params.toList args.toList ds p := hA0
  rw [Try.params5] at hA hval
  obtain ⟨v0, vs0, d0, ds0, p0, q0, hargs, rfl, rfl, h0, r0⟩ := trodAll_cons hA
  obtain ⟨v1, vs1, d1, ds1, p1, q1, rfl, rfl, rfl, h1, r1⟩ := trodAll_cons r0
  obtain ⟨rfl, rfl, rfl⟩ := trodAll_nil r1
  obtain rfl : args = #[v0, v1] := by cases args; simp_all
  obtain ⟨rfl, rfl⟩ := trodVars_none hV
  obtain ⟨a0, rfl, rfl, rfl, w0⟩ := open_int Try.underlying27 (hval 0 27 v0 rfl rfl) h0
  obtain ⟨a1, len1, cap1, rfl⟩ := okWide_slice Try.underlying28 (hval 1 28 v1 rfl rfl)
  have k1 := h1
  have lt1 : ∀ x ∈ p1, x.block < W.heap.size := by obtain ⟨m, hm⟩ := k1; exact DataW.trod_lt m _ _ _ hm
  obtain ⟨z1, w1⟩ : ∃ zs, IsRow .u32 W a1 len1 cap1 zs := by
    obtain ⟨fuel, hf⟩ := h1
    rcases open_ints Try.underlying28 Try.underlying27 (by kernel_rfl) hf with ⟨hcs, _⟩ | ⟨x, l, c, zs, hcs, _, hl, hm, hz, _, hcell, hwz⟩
    · simp [Value.cells] at hcs
      obtain ⟨rfl, rfl, rfl⟩ := hcs
      exact ⟨[], .inl ⟨rfl, rfl, rfl, rfl⟩⟩
    · simp [Value.cells] at hcs
      obtain ⟨rfl, rfl, rfl⟩ := hcs
      exact ⟨zs, .inr ⟨_, rfl, hl, hm, by simpa using hz, hcell, hwz⟩⟩
  clear hA0 hval0
  refine (walk a0 a1 len1 cap1 z1 W w0 w1).mono fun e W' ⟨he, bel⟩ => ?_
  subst he
  exact ⟨_, rfl, _, _, _, [], _, [], hW', trodAll_mk1 (shut_bool Try.underlying4 _), (trodAll_cons_mk (shut_int Try.underlying27 w0) (trodAll_cons_mk (Below.trod laidOut (by kernel_rfl) (of_decide_eq_true (by kernel_rfl)) k1 bel lt1) trodAll_mk0)), rfl, bel.frame _, fun h => by cases h⟩

theorem over : Rows.fnOriginOfAnswersEachRunAtBothEndsRow.holds Try.pinned (OpenSpec.ofChange Rows.fnOriginOfAnswersEachRunAtBothEndsSpec) :=
  OpenClaim.holds_of_wide 5 Try.f5 rfl rfl rfl rfl rfl rfl rfl ⟨rfl, rfl, rfl, rfl, rfl⟩ rfl rfl rfl rfl rfl (by kernel_rfl) Try.func5 (by kernel_rfl)
    (of_decide_eq_true (by kernel_rfl)) (by unfold Func.isWrapper; first | (rw [if_pos (by decide +kernel)]; kernel_rfl) | (rw [if_neg (by decide +kernel)]; exact ⟨rfl, rfl⟩))
    (fun os started H enc _ => lifted os started H enc)

/-- ████ THE STATEMENT ████ -/
theorem proved : Rows.FnOriginOfAnswersEachRunAtBothEndsSaid := over
#print axioms proved
end Go.Proofs.Qxb6616233a.fnOriginOfAnswersEachRunAtBothEnds
