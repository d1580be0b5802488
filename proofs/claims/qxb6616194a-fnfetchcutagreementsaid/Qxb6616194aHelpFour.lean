/-
  HELPERS OF THE LAW FnFetchCutAgreement (seat b6616194a): ZZFetchB1 over positions that are not none; zzBytes; fetchSameResult at two equal results; the heads and tails of the positions.
-/
import Derived.Test.Qxb6616194aHelp
namespace Go.Proofs.Qxb6616194a
open Go.ChangeShapes Go.WideShapes Go.ChangeAt Go.RowKit
set_option linter.unusedVariables false

/-- THE CONTRACT OF ZZFetchB1 over n positions, n not 0, k the first that is found, else the last. -/
theorem zz_at (P : Nat → List Value) (n k : Nat) (w : World) (a af ah : Option Addr) (cap lf cf lh ch : Nat) (F : Nat → Bool) (H : Nat → Int) (hf : RowOf w af lf Value.bool F) (hh : RowOf w ah lh (Value.int .i64) H)
    (hF : ∀ i, lf ≤ i → F i = false) (hH : ∀ i, lh ≤ i → H i = 0) (hlf : lf ≤ 1000000) (hlh : lh ≤ 1000000) (hpos : PosAt w.heap.size w a ((List.range n).map P)) (hB : ∀ i, i < n → (P i).length = 32) (hcap : n ≤ cap) (hcap' : cap ≤ 9223372036854775807) (hn : n ≤ 100000)
    (hk : k < n) (h1 : ∀ i, i < k → F i = false) (h2 : F k = true ∨ k + 1 = n) :
    Calls Try.prog 7 #[.slice a n cap, .slice af lf cf, .slice ah lh ch] w fun e w' => ∃ g cp,
      e = .returned (.tuple #[.slice (some ⟨g, 0, none⟩) (k + 1) cp, .int .i64 1, .agg #[.bool true, .bool (F k), .slice none 0 0, .int .i64 (H k), .slice none 0 0]]) ∧
      (∀ i, i < k + 1 → w'.rangeAt g (i * 32) (P i)) ∧ Below w.heap.size w w' := by
  have Z := zz_any ((List.range n).map P) w a af ah cap lf cf lh ch F H hf hh hF hH hlf hlh hpos (by simpa using hcap) hcap' (by simpa using hn)
  have e := fin_at F H ((List.range n).map P) 0 [] k (by simpa using hk) (fun i hi => by simpa using h1 i hi) (by simpa using h2)
  simp only [Nat.zero_add, List.nil_append] at e
  rw [e] at Z
  simp only [List.length_map, List.length_range] at Z
  refine Z.mono ?_
  rintro e w' ⟨oa, cp, rfl, ho, hb⟩
  obtain ⟨g, rfl, hr⟩ := asked_at ho rfl rfl hk hB
  exact ⟨g, cp, rfl, hr, hb⟩

/-- There is a first that is found, or a last. -/
theorem first_or_last (F : Nat → Bool) : ∀ n, 0 < n → ∃ k, k < n ∧ (∀ i, i < k → F i = false) ∧ (F k = true ∨ k + 1 = n)
  | 0, h => by omega
  | 1, _ => ⟨0, by omega, fun i hi => by omega, .inr rfl⟩
  | n + 2, _ => by
    obtain ⟨k, hk, h1, h2⟩ := first_or_last F (n + 1) (by omega)
    rcases h2 with h2 | h2
    · exact ⟨k, by omega, h1, .inl h2⟩
    · cases hf : F k
      · exact ⟨n + 1, by omega, fun i hi => by
          by_cases e : i < k
          · exact h1 i e
          · rw [show i = k from by omega]; exact hf, .inr rfl⟩
      · exact ⟨k, by omega, h1, .inl hf⟩

set_option maxHeartbeats 1000000 in
theorem bytes10_any (w : World) (a0 a1 a2 : Option Addr) (n0 c0 n1 c1 n2 c2 : Nat) (cut : Int) (h0 : n0 ≤ 9223372036854775807) (h1 : n1 ≤ 9223372036854775807) (h2 : n2 ≤ 9223372036854775807) :
    Calls Try.prog 10 #[.slice a0 n0 c0, .slice a1 n1 c1, .slice a2 n2 c2, .int .i64 cut] w fun e w' => RetBool e ∧ w' = w := by
  by_cases hb : n0 ≤ 1048576
  · have d0 : decide ((1048576 : Int) < (n0 : Int)) = false := by simp; omega
    go_enter Try.func10, Try.ntmps10
    go_wp2
    go_loop [9, 10] (fun z i => ∃ (k : Nat) (y : Int), k ≤ n0 ∧ i = .int .i64 k ∧ z = .int .i64 y ∧ 0 ≤ y ∧ y ≤ 1048576) (fun _ i => n0 - (intOf i).toNat)
    case atStart => exact ⟨0, n0, by omega, rfl, rfl, by omega, by omega⟩
    case round =>
      obtain ⟨k, y, hk, rfl, rfl, hy0, hy1⟩ := hrel
      by_cases hlt : k < n0
      · by_cases hy : y + 32 ≤ 1048576
        · go_wp2
          go_round
          case rel => exact ⟨k + 1, y + 32, by omega, by go_num, rfl, by omega, by omega⟩
          case measure => simp [intOf]; omega
        · go_wp2
          go_ret
          exact ⟨RetBool.mk _, rfl⟩
      · by_cases hb1 : n1 ≤ 1048576
        · by_cases hb2 : y + n1 ≤ 1048576
          · by_cases hb3 : n2 ≤ 1048576
            · by_cases hb4 : y + n1 + n2 ≤ 1048576
              · go_wp2
                go_ret
                exact ⟨RetBool.mk _, rfl⟩
              · go_wp2
                go_ret
                exact ⟨RetBool.mk _, rfl⟩
            · go_wp2
              go_ret
              exact ⟨RetBool.mk _, rfl⟩
          · go_wp2
            go_ret
            exact ⟨RetBool.mk _, rfl⟩
        · go_wp2
          go_ret
          exact ⟨RetBool.mk _, rfl⟩
  · go_enter Try.func10, Try.ntmps10
    go_wp2
    go_ret
    exact ⟨RetBool.mk _, rfl⟩

set_option maxRecDepth 100000 in
set_option maxHeartbeats 1000000 in
/-- fetchSameResult at two equal results without values and peers. -/
theorem same_any (w : World) (f : Bool) (h : Int) :
    Calls Try.prog 11 #[.agg #[.bool true, .bool f, .slice none 0 0, .int .i64 h, .slice none 0 0], .agg #[.bool true, .bool f, .slice none 0 0, .int .i64 h, .slice none 0 0]] w fun e w' => e = .returned (.bool true) ∧ Below w.heap.size w w' := by
  have q28 : ∀ (w : World) (a : Option Addr) (n c n' c' : Nat), (binOp .eql 28 (.slice a n c) (.slice none n' c')).run Try.prog w = .ok (.bool a.isNone) w := fun w a n c n' c' => Lib.run_eql_slice_nil w _ _ a n c n' c' Try.underlying28
  have q29 : ∀ (w : World) (a : Option Addr) (n c n' c' : Nat), (binOp .eql 29 (.slice a n c) (.slice none n' c')).run Try.prog w = .ok (.bool a.isNone) w := fun w a n c n' c' => Lib.run_eql_slice_nil w _ _ a n c n' c' Try.underlying29
  have e1 : (f != f) = false := by simp
  have e2 : (h != h) = false := by simp
  go_enter Try.func11, Try.ntmps11
  go_wp2_with fail
  refine wp_loop_rounds 1 ?_
  rw [rounds_succ]
  go_wp2_with fail
  refine wp_loop_rounds 1 ?_
  rw [rounds_succ]
  go_wp2_with fail
  go_ret
  exact ⟨rfl, ((Below.refl _ _).alloc (Nat.le_refl _) _).alloc (by simp) _⟩
end Go.Proofs.Qxb6616194a
