/-
  THE SHELL OF A PROOF OF 'Rows.FnQueuedShiftsWithEachCountSaid' ('example.com/fairweir/fairweir/zzlaws_internal_sim_b1.FnQueuedShiftsWithEachCount'), WRITTEN BY PROGRAM (proof-skeleton.mjs) off the guide's own print for that function. Not trusted: Lean checks it.
  THE HOLES ARE FILLED . ALL ELSE IS THE GUIDE's TEMPLATE (howto/template/XProofs.lean) at this function's number and types: leave it.
-/
import Derived.Test.Qxb6616233aRows
import Derived.WalkKit
import Derived.ProofKit
import Derived.OpenShut
import Derived.ShutString
namespace Go.Proofs.Qxb6616233a.fnQueuedShiftsWithEachCount
open Go.ChangeShapes Go.WideShapes Go.ChangeAt Go.RowKit
open Go.ChangeMaps (open_string shut_string)
set_option linter.unusedVariables false      -- a walk need not use every 'w<i>' (that an integer argument fits its kind)

theorem own : ownKnob Try.prog.godebug = none := by kernel_rfl

/-! ### THE PLAIN LAW: no Go in sight -/
def qd (a b c : Int) : Int := IntKind.u64.wrap (IntKind.u64.wrap (a - b) - c)
theorem wf_bd (n : Int) (h : (Lit.int .u64 n).wf = true) : 0 ≤ n ∧ n < 18446744073709551616 := by
  have hmin : IntKind.u64.min = 0 := rfl
  have hmax : IntKind.u64.max = 18446744073709551615 := rfl
  simp only [Lit.wf, Bool.and_eq_true, decide_eq_true_eq] at h; omega
theorem law1 (a b c k : Int) : (qd (IntKind.u64.wrap (a + k)) b c == IntKind.u64.wrap (qd a b c + k)) = true := by
  rw [beq_iff_eq]; unfold qd; simp only [IntKind.wrap_u64]; omega
theorem law2 (a b c k : Int) : (IntKind.u64.wrap (qd a (IntKind.u64.wrap (b + k)) c + k) == qd a b c) = true := by
  rw [beq_iff_eq]; unfold qd; simp only [IntKind.wrap_u64]; omega
theorem law3 (a b c k : Int) : (IntKind.u64.wrap (qd a b (IntKind.u64.wrap (c + k)) + k) == qd a b c) = true := by
  rw [beq_iff_eq]; unfold qd; simp only [IntKind.wrap_u64]; omega
theorem law4 (a b c : Int) : (qd a c b == qd a b c) = true := by
  rw [beq_iff_eq]; unfold qd; simp only [IntKind.wrap_u64]; omega
theorem law5 (b c k : Int) (h : 0 ≤ k ∧ k < 18446744073709551616) : (qd (IntKind.u64.wrap (IntKind.u64.wrap (b + c) + k)) b c == k) = true := by
  rw [beq_iff_eq]; unfold qd; simp only [IntKind.wrap_u64]; omega

/-! ### THE CALLEE BY ITS CONTRACT -/
theorem queued_any (a b c : Int) (w : World) :
    Calls Try.prog 6 #[.int .u64 a, .int .u64 b, .int .u64 c] w fun e w' => e = .returned (.int .u64 (qd a b c)) ∧ ∃ o, w' = w.alloc (.cells o 37) := by
  go_enter Try.func6, Try.ntmps6
  go_wp2
  go_ret
  exact ⟨rfl, _, rfl⟩

/-! ### STEP 1: THE WALK: the Go text returns true. 'Grown w w'': the world has at most new blocks (Derived/RowKit3.lean). Part the cases AHEAD of 'go_enter' where a test parts the walk; take each callee by a contract of your own. -/
theorem walk (a0 : Int) (a1 : Int) (a2 : Int) (a3 : Int) (w0 : (Lit.int .u64 a0).wf = true) (w1 : (Lit.int .u64 a1).wf = true) (w2 : (Lit.int .u64 a2).wf = true) (w3 : (Lit.int .u64 a3).wf = true) (w : World) :
    Calls Try.prog 3 #[.int .u64 a0, .int .u64 a1, .int .u64 a2, .int .u64 a3] w fun e w' => e = .returned (.bool true) ∧ Grown w w' := by
  have hb := fun (w : Int) (h : (Lit.int .u64 w).wf = true) => wf_bd w h
  have g0 := hb a0 w0; have g1 := hb a1 w1; have g2 := hb a2 w2; have g3 := hb a3 w3
  clear hb
  have e1 : (qd (IntKind.u64.wrap (a0 + a3)) a1 a2 == IntKind.u64.wrap (qd a0 a1 a2 + a3)) = true := law1 a0 a1 a2 a3
  have e2 : (IntKind.u64.wrap (qd a0 (IntKind.u64.wrap (a1 + a3)) a2 + a3) == qd a0 a1 a2) = true := law2 a0 a1 a2 a3
  have e3 : (IntKind.u64.wrap (qd a0 a1 (IntKind.u64.wrap (a2 + a3)) + a3) == qd a0 a1 a2) = true := law3 a0 a1 a2 a3
  have e4 : (qd a0 a2 a1 == qd a0 a1 a2) = true := law4 a0 a1 a2
  have e5 : (qd (IntKind.u64.wrap (IntKind.u64.wrap (a1 + a2) + a3)) a1 a2 == a3) = true := law5 a1 a2 a3 g3
  clear w0 w1 w2 w3 g0 g1 g2 g3
  go_enter Try.func3, Try.ntmps3
  go_wp2_with (go_at_call 6; refine (queued_any _ _ _ _).mono ?_; rintro e w' ⟨rfl, o, rfl⟩)
  go_ret
  exact ⟨rfl, by repeat (first | exact Grown.refl _ | apply Grown.drew | apply Grown.alloc)⟩

/-! ### THE ROW's STEP: WRITTEN OUT: LEAVE IT -/
set_option maxRecDepth 100000 in
theorem lifted (os : Os) (started : os.Started) (H : Type) (enc : TypeId × Value → H) :
    ReturnsInHanded {} Try.checked os 3 .any (Rows.fnQueuedShiftsWithEachCountSpec.pre6 enc Try.prog Try.f3 Rows.fnQueuedShiftsWithEachCountRow.domain false) (Rows.fnQueuedShiftsWithEachCountSpec.post enc Try.prog Try.f3 false true false false) := by
  refine returnsInHanded_of_change (C := Try.checked) own started (by kernel_rfl) Try.func3
    (ChangeSpec.witness6 (enc := enc) (C := Try.checked) false ⟨#[], #[.int .u64 0, .int .u64 0, .int .u64 0, .int .u64 0], []⟩ 8 (by kernel_rfl) (by kernel_rfl) (by kernel_rfl) (by kernel_rfl)) ?_
  intro W base args ds gs before hval0 hW hcnd _
  have hval : ∀ (j : Nat) t v, Try.f3.params[j]? = some t → args[j]? = some v → Value.okWide Try.prog W .any base t v := hval0
  have hW' := hW
  obtain ⟨p, q, hA0, hV, rfl, hfz, hnd⟩ := hW
  have hA : DataW.TrodAll enc Try.prog W 0 (fun _ => true) true Try.f3.params.toList args.toList ds p := hA0
  rw [Try.params3] at hA hval
  obtain ⟨v0, vs0, d0, ds0, p0, q0, hargs, rfl, rfl, h0, r0⟩ := trodAll_cons hA
  obtain ⟨v1, vs1, d1, ds1, p1, q1, rfl, rfl, rfl, h1, r1⟩ := trodAll_cons r0
  obtain ⟨v2, vs2, d2, ds2, p2, q2, rfl, rfl, rfl, h2, r2⟩ := trodAll_cons r1
  obtain ⟨v3, vs3, d3, ds3, p3, q3, rfl, rfl, rfl, h3, r3⟩ := trodAll_cons r2
  obtain ⟨rfl, rfl, rfl⟩ := trodAll_nil r3
  obtain rfl : args = #[v0, v1, v2, v3] := by cases args; simp_all
  obtain ⟨rfl, rfl⟩ := trodVars_none hV
  obtain ⟨a0, rfl, rfl, rfl, w0⟩ := open_int Try.underlying22 (hval 0 22 v0 rfl rfl) h0
  obtain ⟨a1, rfl, rfl, rfl, w1⟩ := open_int Try.underlying22 (hval 1 22 v1 rfl rfl) h1
  obtain ⟨a2, rfl, rfl, rfl, w2⟩ := open_int Try.underlying22 (hval 2 22 v2 rfl rfl) h2
  obtain ⟨a3, rfl, rfl, rfl, w3⟩ := open_int Try.underlying22 (hval 3 22 v3 rfl rfl) h3
  clear hA0 hval0
  simp only [List.append_nil] at hW'
  refine (walk a0 a1 a2 a3 w0 w1 w2 w3 W).mono fun e W' ⟨he, hg⟩ => ?_
  subst he
  exact ⟨_, rfl, post_of_same (pa := []) (pv := []) hW' (fun _ _ _ => (trodAll_cons_mk (shut_bool Try.underlying4 _) trodAll_mk0)) (fun sp _ => (trodAll_cons_mk (shut_int Try.underlying22 w0) (trodAll_cons_mk (shut_int Try.underlying22 w1) (trodAll_cons_mk (shut_int Try.underlying22 w2) (trodAll_cons_mk (shut_int Try.underlying22 w3) trodAll_mk0))))) (fun _ _ => rfl) rfl
    (hg.frame _) hg.2.1 (ok_one (by kernel_rfl) rfl (okWide_bool_mk Try.underlying4 _))⟩

theorem over : Rows.fnQueuedShiftsWithEachCountRow.holds Try.pinned (OpenSpec.ofChange Rows.fnQueuedShiftsWithEachCountSpec) :=
  OpenClaim.holds_of_wide 3 Try.f3 rfl rfl rfl rfl rfl rfl rfl ⟨rfl, rfl, rfl, rfl, rfl⟩ rfl rfl rfl rfl rfl (by kernel_rfl) Try.func3 (by kernel_rfl)
    (of_decide_eq_true (by kernel_rfl)) (by unfold Func.isWrapper; first | (rw [if_pos (by decide +kernel)]; kernel_rfl) | (rw [if_neg (by decide +kernel)]; exact ⟨rfl, rfl⟩))
    (fun os started H enc _ => lifted os started H enc)

/-- ████ THE STATEMENT ████ -/
theorem proved : Rows.FnQueuedShiftsWithEachCountSaid :=
  over
#print axioms proved
end Go.Proofs.Qxb6616233a.fnQueuedShiftsWithEachCount
