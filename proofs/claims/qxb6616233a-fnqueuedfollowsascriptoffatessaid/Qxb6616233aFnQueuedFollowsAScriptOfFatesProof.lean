/-
  THE SHELL OF A PROOF OF 'Rows.FnQueuedFollowsAScriptOfFatesSaid' ('example.com/fairweir/fairweir/zzlaws_internal_sim_b1.FnQueuedFollowsAScriptOfFates'), WRITTEN BY PROGRAM (proof-skeleton.mjs, third state) off the guide's own print for that function. Not trusted: Lean checks it.
  THE HOLE IS FILLED. ALL ELSE IS THE GUIDE's OWN WAY (howto/template/XProofs.lean; Derived/Test/ChunkProofs.lean for 'Below') at this function's number and types: leave it.
-/
import Derived.Test.Qxb6616233aRows
import Derived.WalkKit
import Derived.ProofKit
import Derived.OpenShut
import Derived.ShutString
import Derived.ChangeOld
import Derived.Below
namespace Go.Proofs.Qxb6616233a.fnQueuedFollowsAScriptOfFates
open Go.ChangeShapes Go.WideShapes Go.ChangeAt Go.RowKit
open Go.ChangeMaps (open_string shut_string)
set_option linter.unusedVariables false

theorem own : ownKnob Try.prog.godebug = none := by kernel_rfl
theorem laidOut : laidOutB Try.prog = true := by kernel_rfl

/-- WHAT THE WALK IS TOLD OF A SLICE OF INTEGERS THAT CAME IN: it is nil; or it leads to a row of 'cap' cells, the numbers 'zs' (the first 'len' are its elements, the rest its spare room), each fitting its kind. -/
def IsRow (k : IntKind) (w : World) (a : Option Addr) (len cap : Nat) (zs : List Int) : Prop :=
  (a = none ∧ len = 0 ∧ cap = 0 ∧ zs = []) ∨
  ∃ x, a = some x ∧ len ≤ cap ∧ cap ≤ maxLen ∧ zs.length = cap ∧ (∀ i, i < zs.length → w.cell? (x.add i) = some (.int k (zs.getD i 0))) ∧ ∀ n ∈ zs, (Lit.int k n).wf = true

/-! ### THE PLAIN LAW: no Go in sight -/
def qd (a b c : Int) : Int := IntKind.u64.wrap (IntKind.u64.wrap (a - b) - c)
theorem wf_bd (n : Int) (h : (Lit.int .u64 n).wf = true) : 0 ≤ n ∧ n < 18446744073709551616 := by
  have hmin : IntKind.u64.min = 0 := rfl
  have hmax : IntKind.u64.max = 18446744073709551615 := rfl
  simp only [Lit.wf, Bool.and_eq_true, decide_eq_true_eq] at h; omega
theorem u8_nonneg {n : Int} (h : (Lit.int .u8 n).wf = true) : 0 ≤ n := by
  have hmin : IntKind.u8.min = 0 := rfl
  simp only [Lit.wf, Bool.and_eq_true, decide_eq_true_eq] at h; omega
theorem up_s (s d r q c : Int) (h : qd s d r = IntKind.u64.wrap (q + c)) : qd (IntKind.u64.wrap (s + 1)) d r = IntKind.u64.wrap (q + IntKind.u64.wrap (c + 1)) := by
  unfold qd at *; simp only [IntKind.wrap_u64] at *; omega
theorem up_d (s d r q c : Int) (h : qd s d r = IntKind.u64.wrap (q + c)) : qd s (IntKind.u64.wrap (d + 1)) r = IntKind.u64.wrap (q + IntKind.u64.wrap (c - 1)) := by
  unfold qd at *; simp only [IntKind.wrap_u64] at *; omega
theorem up_r (s d r q c : Int) (h : qd s d r = IntKind.u64.wrap (q + c)) : qd s d (IntKind.u64.wrap (r + 1)) = IntKind.u64.wrap (q + IntKind.u64.wrap (c - 1)) := by
  unfold qd at *; simp only [IntKind.wrap_u64] at *; omega
theorem at_0 (s d r : Int) : qd s d r = IntKind.u64.wrap (qd s d r + 0) := by
  unfold qd; simp only [IntKind.wrap_u64]; omega
theorem hide {p : Prop} (h : p) : Hid p := h
theorem bne_no {a b : Int} (h : a = b) : (a != b) = false := by simp [h]

/-! ### THE CALLEE BY ITS CONTRACT -/
theorem queued_any (a b c : Int) (w : World) :
    Calls Try.prog 6 #[.int .u64 a, .int .u64 b, .int .u64 c] w fun e w' => e = .returned (.int .u64 (qd a b c)) ∧ ∃ o, w' = w.alloc (.cells o 37) := by
  go_enter Try.func6, Try.ntmps6
  go_wp2
  go_ret
  exact ⟨rfl, _, rfl⟩

/-! ### STEP 1: THE WALK: the Go text returns true, AND WRITES NOTHING THAT WAS THERE: 'Below w.heap.size w w'' (Derived/Below.lean: '.refl', '.alloc', '.drew', '.setCell' at a new block, '.trans'). Open each 'IsRow' by 'rcases' AHEAD of 'go_enter'; part every test ahead of the walk. -/
theorem walk (a0 : Int) (a1 : Int) (a2 : Int) (a3 : Option Addr) (len3 cap3 : Nat) (z3 : List Int) (w : World) (w0 : (Lit.int .u64 a0).wf = true) (w1 : (Lit.int .u64 a1).wf = true) (w2 : (Lit.int .u64 a2).wf = true) (w3 : IsRow .u8 w a3 len3 cap3 z3) :
    Calls Try.prog 4 #[.int .u64 a0, .int .u64 a1, .int .u64 a2, .slice a3 len3 cap3] w fun e w' => e = .returned (.bool true) ∧ Below w.heap.size w w' := by
  clear w0 w1 w2
  have hlm : len3 ≤ 9223372036854775807 := by
    rcases w3 with ⟨_, rfl, _, _⟩ | ⟨x, _, hl, hm, _⟩
    · omega
    · unfold maxLen at hm; omega
  by_cases hbig : len3 ≤ 65536
  · have hcell : ∀ k, k < len3 → ∃ b off, a3 = some ⟨b, off, none⟩ ∧ ∃ z : Int, w.cell? ⟨b, off + k, none⟩ = some (.int .u8 z) ∧ 0 ≤ z := by
      intro k hk
      rcases w3 with ⟨_, rfl, _, _⟩ | ⟨x, rfl, hl, hm, hz, hc, hwz⟩
      · omega
      · obtain ⟨b, off, rfl, hc'⟩ := ints_at hc (by omega)
        refine ⟨b, off, rfl, z3.getD k 0, hc' k (by omega), ?_⟩
        have hk' : k < z3.length := by omega
        exact u8_nonneg (hwz _ (by rw [List.getD_eq_getElem?_getD, List.getElem?_eq_getElem hk']; exact List.getElem_mem _))
    have HC := hide hcell
    have hd : decide ((65536 : Int) < (len3 : Int)) = false := by simp; omega
    clear w3 hlm hcell
    go_enter Try.func4, Try.ntmps4
    go_wp2_with (first | (go_at_call 7; go_in) | (go_at_call 6; refine (queued_any _ _ _ _).mono ?_; rintro e w' ⟨rfl, o, rfl⟩))
    go_loopw [10, 11, 12, 13, 14] (fun s d r c i wr => ∃ (s' d' r' c' : Int) (k : Nat), k ≤ len3 ∧ i = .int .i64 k ∧ s = .int .u64 s' ∧ d = .int .u64 d' ∧ r = .int .u64 r' ∧ c = .int .u64 c' ∧ Hid (qd s' d' r' = IntKind.u64.wrap (qd a0 a1 a2 + c')) ∧ Below w.heap.size w wr) (fun _ _ _ _ i _ => len3 - (intOf i).toNat)
    case atStart => exact ⟨a0, a1, a2, 0, 0, by omega, rfl, rfl, rfl, rfl, rfl, at_0 _ _ _, (Below.refl _ _).alloc (Nat.le_refl _) _⟩
    case round =>
      obtain ⟨s, d, r, c, k, hk, rfl, rfl, rfl, rfl, rfl, hq, hb⟩ := hrel
      by_cases hlt : k < len3
      · obtain ⟨b, off, rfl, z, hz, hz0⟩ := HC.out k hlt
        have hcz : wr.cell? ⟨b, off + k, none⟩ = some (.int .u8 z) := (hb.cell (World.block_lt_of_cell? w _ hz)).trans hz
        clear hz
        rcases (show z % 3 = 0 ∨ z % 3 = 1 ∨ z % 3 = 2 from by omega) with hm | hm | hm
        · have t0 : (z % 3 == 0) = true := by simp [hm]
          have HQ : Hid _ := up_s s d r _ c hq.out
          have t1 := bne_no HQ.out
          clear hm
          go_wp2_with (go_at_call 6; refine (queued_any _ _ _ _).mono ?_; rintro e w' ⟨rfl, o', rfl⟩)
          go_roundw
          case rel => exact ⟨_, _, _, _, k + 1, by omega, by go_num, rfl, rfl, rfl, rfl, HQ, hb.alloc hb.size _⟩
          case measure => simp [intOf]; omega
        · have t0 : (z % 3 == 0) = false := by simp [hm]
          have t0' : (z % 3 == 1) = true := by simp [hm]
          have HQ : Hid _ := up_d s d r _ c hq.out
          have t1 := bne_no HQ.out
          clear hm
          go_wp2_with (go_at_call 6; refine (queued_any _ _ _ _).mono ?_; rintro e w' ⟨rfl, o', rfl⟩)
          go_roundw
          case rel => exact ⟨_, _, _, _, k + 1, by omega, by go_num, rfl, rfl, rfl, rfl, HQ, hb.alloc hb.size _⟩
          case measure => simp [intOf]; omega
        · have t0 : (z % 3 == 0) = false := by simp [hm]
          have t0' : (z % 3 == 1) = false := by simp [hm]
          have HQ : Hid _ := up_r s d r _ c hq.out
          have t1 := bne_no HQ.out
          clear hm
          go_wp2_with (go_at_call 6; refine (queued_any _ _ _ _).mono ?_; rintro e w' ⟨rfl, o', rfl⟩)
          go_roundw
          case rel => exact ⟨_, _, _, _, k + 1, by omega, by go_num, rfl, rfl, rfl, rfl, HQ, hb.alloc hb.size _⟩
          case measure => simp [intOf]; omega
      · go_wp2_with fail
        go_ret
        exact ⟨rfl, hb⟩
  · go_enter Try.func4, Try.ntmps4
    go_wp2_with (first | (go_at_call 7; go_in) | (go_at_call 6; refine (queued_any _ _ _ _).mono ?_; rintro e w' ⟨rfl, o, rfl⟩))
    all_goals
      go_ret
      exact ⟨rfl, Below.refl _ _⟩

/-! ### THE ROW's STEP: WRITTEN OUT: LEAVE IT -/
set_option maxRecDepth 100000 in
theorem lifted (os : Os) (started : os.Started) (H : Type) (enc : TypeId × Value → H) :
    ReturnsInHanded {} Try.checked os 4 .any (Rows.fnQueuedFollowsAScriptOfFatesSpec.pre6 enc Try.prog Try.f4 Rows.fnQueuedFollowsAScriptOfFatesRow.domain false) (Rows.fnQueuedFollowsAScriptOfFatesSpec.post enc Try.prog Try.f4 false true false false) := by
  refine returnsInHanded_of_change (C := Try.checked) own started (by kernel_rfl) Try.func4
    (ChangeSpec.witness6 (enc := enc) (C := Try.checked) false ⟨#[], #[.int .u64 0, .int .u64 0, .int .u64 0, .slice none 0 0], []⟩ 8 (by kernel_rfl) (by kernel_rfl) (by kernel_rfl) (by kernel_rfl)) ?_
  intro W base args ds gs before hval0 hW hcnd _
  have hval : ∀ (j : Nat) t v, Try.f4.params[j]? = some t → args[j]? = some v → Value.okWide Try.prog W .any base t v := hval0
  have hW' := hW
  obtain ⟨p, q, hA0, hV, rfl, hfz, hnd⟩ := hW
  have hA : DataW.TrodAll enc Try.prog W 0 (fun _ => true) true Try.f4.params.toList args.toList ds p := hA0
  rw [Try.params4] at hA hval
  obtain ⟨v0, vs0, d0, ds0, p0, q0, hargs, rfl, rfl, h0, r0⟩ := trodAll_cons hA
  obtain ⟨v1, vs1, d1, ds1, p1, q1, rfl, rfl, rfl, h1, r1⟩ := trodAll_cons r0
  obtain ⟨v2, vs2, d2, ds2, p2, q2, rfl, rfl, rfl, h2, r2⟩ := trodAll_cons r1
  obtain ⟨v3, vs3, d3, ds3, p3, q3, rfl, rfl, rfl, h3, r3⟩ := trodAll_cons r2
  obtain ⟨rfl, rfl, rfl⟩ := trodAll_nil r3
  obtain rfl : args = #[v0, v1, v2, v3] := by cases args; simp_all
  obtain ⟨rfl, rfl⟩ := trodVars_none hV
  obtain ⟨a0, rfl, rfl, rfl, w0⟩ := open_int Try.underlying22 (hval 0 22 v0 rfl rfl) h0
  obtain ⟨a1, rfl, rfl, rfl, w1⟩ := open_int Try.underlying22 (hval 1 22 v1 rfl rfl) h1
  obtain ⟨a2, rfl, rfl, rfl, w2⟩ := open_int Try.underlying22 (hval 2 22 v2 rfl rfl) h2
  obtain ⟨a3, len3, cap3, rfl⟩ := okWide_slice Try.underlying25 (hval 3 25 v3 rfl rfl)
  have k3 := h3
  have lt3 : ∀ x ∈ p3, x.block < W.heap.size := by obtain ⟨m, hm⟩ := k3; exact DataW.trod_lt m _ _ _ hm
  obtain ⟨z3, w3⟩ : ∃ zs, IsRow .u8 W a3 len3 cap3 zs := by
    obtain ⟨fuel, hf⟩ := h3
    rcases open_ints Try.underlying25 Try.underlying5 (by kernel_rfl) hf with ⟨hcs, _⟩ | ⟨x, l, c, zs, hcs, _, hl, hm, hz, _, hcell, hwz⟩
    · simp [Value.cells] at hcs
      obtain ⟨rfl, rfl, rfl⟩ := hcs
      exact ⟨[], .inl ⟨rfl, rfl, rfl, rfl⟩⟩
    · simp [Value.cells] at hcs
      obtain ⟨rfl, rfl, rfl⟩ := hcs
      exact ⟨zs, .inr ⟨_, rfl, hl, hm, by simpa using hz, hcell, hwz⟩⟩
  clear hA0 hval0
  refine (walk a0 a1 a2 a3 len3 cap3 z3 W w0 w1 w2 w3).mono fun e W' ⟨he, bel⟩ => ?_
  subst he
  exact ⟨_, rfl, _, _, _, [], _, [], hW', trodAll_mk1 (shut_bool Try.underlying4 _), (trodAll_cons_mk (shut_int Try.underlying22 w0) (trodAll_cons_mk (shut_int Try.underlying22 w1) (trodAll_cons_mk (shut_int Try.underlying22 w2) (trodAll_cons_mk (Below.trod laidOut (by kernel_rfl) (of_decide_eq_true (by kernel_rfl)) k3 bel lt3) trodAll_mk0)))), rfl, bel.frame _, fun h => by cases h⟩

theorem over : Rows.fnQueuedFollowsAScriptOfFatesRow.holds Try.pinned (OpenSpec.ofChange Rows.fnQueuedFollowsAScriptOfFatesSpec) :=
  OpenClaim.holds_of_wide 4 Try.f4 rfl rfl rfl rfl rfl rfl rfl ⟨rfl, rfl, rfl, rfl, rfl⟩ rfl rfl rfl rfl rfl (by kernel_rfl) Try.func4 (by kernel_rfl)
    (of_decide_eq_true (by kernel_rfl)) (by unfold Func.isWrapper; first | (rw [if_pos (by decide +kernel)]; kernel_rfl) | (rw [if_neg (by decide +kernel)]; exact ⟨rfl, rfl⟩))
    (fun os started H enc _ => lifted os started H enc)

/-- ████ THE STATEMENT ████ -/
theorem proved : Rows.FnQueuedFollowsAScriptOfFatesSaid := over
#print axioms proved
end Go.Proofs.Qxb6616233a.fnQueuedFollowsAScriptOfFates
