/-
  THE LAW's SMALL HELPERS BY THEIR CONTRACTS (seat b6616194a): fetchFoundAt, fetchHopsAt, the two zzBytes, fetchIDs.
-/
import Derived.Test.Qxb6616194aShim
import Derived.WalkSpells
namespace Go.Proofs.Qxb6616194a
open Go.ChangeShapes Go.WideShapes Go.ChangeAt Go.RowKit
set_option linter.unusedVariables false

theorem foundAt_any (w : World) (af : Option Addr) (lf cf : Nat) (F : Nat → Bool) (hf : RowOf w af lf Value.bool F) (hF : ∀ i, lf ≤ i → F i = false) (hlf : lf ≤ 1000000) (i : Nat) (hi : i ≤ 1000000) :
    Calls Try.prog 8 #[.slice af lf cf, .int .i64 i] w fun e w' => e = .returned (.bool (F i)) ∧ w' = w := by
  have h0 : (0 : Int) ≤ (i : Int) := by omega
  by_cases h : i < lf
  · obtain ⟨b, off, rfl, hc⟩ := hf i h
    clear hf hF
    go_enter Try.func8, Try.ntmps8
    go_wp2
    go_ret
    exact ⟨rfl, rfl⟩
  · have e := hF i (by omega)
    rw [e]
    clear hf hF e
    go_enter Try.func8, Try.ntmps8
    go_wp2
    go_ret
    exact ⟨rfl, rfl⟩

theorem hopsAt_any (w : World) (ah : Option Addr) (lh ch : Nat) (H : Nat → Int) (hf : RowOf w ah lh (Value.int .i64) H) (hF : ∀ i, lh ≤ i → H i = 0) (hlf : lh ≤ 1000000) (i : Nat) (hi : i ≤ 1000000) :
    Calls Try.prog 9 #[.slice ah lh ch, .int .i64 i] w fun e w' => e = .returned (.int .i64 (H i)) ∧ w' = w := by
  have h0 : (0 : Int) ≤ (i : Int) := by omega
  by_cases h : i < lh
  · obtain ⟨b, off, rfl, hc⟩ := hf i h
    clear hf hF
    go_enter Try.func9, Try.ntmps9
    go_wp2
    go_ret
    exact ⟨rfl, rfl⟩
  · have e := hF i (by omega)
    rw [e]
    clear hf hF e
    go_enter Try.func9, Try.ntmps9
    go_wp2
    go_ret
    exact ⟨rfl, rfl⟩

def RetBool (e : Ending) : Prop := ∃ b, e = .returned (.bool b)
theorem RetBool.mk (b : Bool) : RetBool (.returned (.bool b)) := ⟨b, rfl⟩

set_option maxHeartbeats 1000000 in
theorem bytes5_any (w : World) (a0 a1 a2 : Option Addr) (n0 c0 n1 c1 n2 c2 : Nat) (h0 : n0 ≤ 9223372036854775807) (h1 : n1 ≤ 9223372036854775807) (h2 : n2 ≤ 9223372036854775807) :
    Calls Try.prog 5 #[.slice a0 n0 c0, .slice a1 n1 c1, .slice a2 n2 c2] w fun e w' => RetBool e ∧ w' = w := by
  by_cases hb : n0 ≤ 1048576
  · have d0 : decide ((1048576 : Int) < (n0 : Int)) = false := by simp; omega
    go_enter Try.func5, Try.ntmps5
    go_wp2
    go_loop [7, 8] (fun z i => ∃ (k : Nat) (y : Int), k ≤ n0 ∧ i = .int .i64 k ∧ z = .int .i64 y ∧ 0 ≤ y ∧ y ≤ 1048576) (fun _ i => n0 - (intOf i).toNat)
    case atStart => exact ⟨0, n0, by omega, rfl, rfl, by omega, by omega⟩
    case round =>
      obtain ⟨k, y, hk, rfl, rfl, hy0, hy1⟩ := hrel
      by_cases hlt : k < n0
      · by_cases hy : y + 32 ≤ 1048576
        · go_wp2
          go_round
          case rel => exact ⟨k + 1, y + 32, by omega, by go_num, rfl, by omega, by omega⟩
          case measure => simp [intOf]; omega
        · go_wp2
          go_ret
          exact ⟨RetBool.mk _, rfl⟩
      · by_cases hb1 : n1 ≤ 1048576
        · by_cases hb2 : y + n1 ≤ 1048576
          · by_cases hb3 : n2 ≤ 1048576
            · by_cases hb4 : y + n1 + n2 ≤ 1048576
              · go_wp2
                go_ret
                exact ⟨RetBool.mk _, rfl⟩
              · go_wp2
                go_ret
                exact ⟨RetBool.mk _, rfl⟩
            · go_wp2
              go_ret
              exact ⟨RetBool.mk _, rfl⟩
          · go_wp2
            go_ret
            exact ⟨RetBool.mk _, rfl⟩
        · go_wp2
          go_ret
          exact ⟨RetBool.mk _, rfl⟩
  · go_enter Try.func5, Try.ntmps5
    go_wp2
    go_ret
    exact ⟨RetBool.mk _, rfl⟩

theorem size_cells (b : Nat) : ∀ (vs : List Value) (o : Nat) (w : World), (w.setCells b o vs).heap.size = w.heap.size
  | [], _, _ => rfl
  | v :: r, o, w => by rw [World.setCells, size_cells b r]; simp [World.setCell]
theorem below_cells {B b : Nat} {a : World} (hb : B ≤ b) : ∀ (vs : List Value) (o : Nat) (w : World), Below B a w → Below B a (w.setCells b o vs)
  | [], _, _, h => h
  | v :: r, o, w, h => by rw [World.setCells]; exact below_cells hb r _ _ (h.setCell hb v)

/-- What the 'make' leaves: room for n positions in a new block, and nothing old has turned. -/
theorem made_there {w w' : World} {n : Nat} {xs : List Value} (h : w'.ownsRow w.heap.size 36 32 (.slice (some ⟨w.heap.size, 0, none⟩) n n) n xs) : w'.there w.heap.size 0 (32 * n) ∧ w.heap.size < w'.heap.size := by
  rcases h.2 with ⟨h1, _⟩ | ⟨g, cap, cur, h1, _, hg, _, _, hs, _⟩
  · simp at h1
  · simp at h1
    obtain ⟨rfl, rfl⟩ := h1
    refine ⟨fun j hj => ⟨?_, ?_⟩, lt_of_heap hg⟩
    · simp [World.cell?, hg]; omega
    · simp [World.frozen?, hg]

set_option maxHeartbeats 1000000 in
theorem ids_any (w : World) (b off n cap : Nat) (P : Nat → List Value) (hn : n ≤ 100000) (hcap : n ≤ cap) (hP : ∀ i, i < n → (P i).length = 32 ∧ (∀ v ∈ P i, v.oneCell' = true) ∧ w.rangeAt b (off + i * 32) (P i)) :
    Calls Try.prog 6 #[.slice (some ⟨b, off, none⟩) n cap] w fun e w' => e = .returned (.slice (some ⟨w.heap.size, 0, none⟩) n n) ∧ (∀ i, i < n → w'.rangeAt w.heap.size (i * 32) (P i)) ∧ w.heap.size < w'.heap.size ∧ Below w.heap.size w w' := by
  have q22 : ∀ (w : World) (a : Option Addr) (n c n' c' : Nat), (binOp .eql 22 (.slice a n c) (.slice none n' c')).run Try.prog w = .ok (.bool a.isNone) w := fun w a n c n' c' => Lib.run_eql_slice_nil w _ _ a n c n' c' Try.underlying22
  obtain ⟨i0, hi, hz0, hz1, hz2⟩ := info_parts Try.info36
  have HI : Hid (Try.prog.info? 36 = some i0 ∧ i0.zero = some (.agg (Array.replicate 32 (.int .u8 0))) ∧ i0.size = 32 ∧ i0.bytes = 32) := ⟨hi, hz0, hz1, hz2⟩
  have HP := hide hP
  clear hi hz0 hz1 hz2 hP
  go_enter Try.func6, Try.ntmps6
  go_wp2_with (at_make; refine wpList_make_full _ (by rfl) (.tmp 8) (.tmp 8) 26 (by rfl) w.heap.size 36 i0 (.agg (Array.replicate 32 (.int .u8 0))) 32 Try.underlying26 HI.out.1 HI.out.2.1 HI.out.2.2.1 .i64 .i64 n n n (by simp [Act.eval]) (by simp [Act.eval]) rfl rfl (by rw [HI.out.2.2.2]; omega) (by unfold maxLen; omega) (Nat.le_refl _) ?_; intro w1 hown hgrow)
  obtain ⟨hth, hsz⟩ := made_there hown
  have HB : Below w.heap.size w w1 := (Below.refl _ _).grown hgrow (Nat.le_refl _) (by intro k hk; cases hk)
  go_loopw [4] (fun i wr => ∃ k : Nat, k ≤ n ∧ i = .int .i64 k ∧ Hid (∀ j, j < k → wr.rangeAt w.heap.size (j * 32) (P j)) ∧ Hid (wr.there w.heap.size 0 (32 * n)) ∧ w.heap.size < wr.heap.size ∧ Below w.heap.size w wr) (fun i _ => n - (intOf i).toNat)
  case atStart => exact ⟨0, by omega, rfl, (fun j hj => by omega), hth, hsz, HB⟩
  case round =>
    obtain ⟨k, hk, rfl, hr, ht, hs, hb⟩ := hrel
    clear hown hgrow hth hsz HB
    by_cases hlt : k < n
    · obtain ⟨hpl, hp1, hpr⟩ := HP.out k hlt
      obtain ⟨p, hp⟩ : ∃ p, p = P k := ⟨_, rfl⟩
      rw [← hp] at hpl hp1 hpr
      have Hp := hide hp
      have hpr' : wr.rangeAt b (off + k * 32) p := fun j v hj => (hb.cell (World.block_lt_of_cell? w _ (hpr j v hj))).trans (hpr j v hj)
      have HR := hide hpr'
      have H35 : Hid ((Try.prog.info? 35).map (·.size) = some p.length) := by rw [hpl]; exact (by kernel_rfl : (Try.prog.info? 35).map (·.size) = some 32)
      have H36 : Hid ((Try.prog.info? 36).map (·.size) = some p.toArray.size) := by rw [List.size_toArray, hpl]; exact (by kernel_rfl : (Try.prog.info? 36).map (·.size) = some 32)
      have HT : Hid (wr.there w.heap.size (k * 32) p.toArray.size) := fun j hj => by
        have := ht.out (k * 32 + j) (by simp at hj; omega)
        simpa using this
      have HO : Hid (p.toArray.all (·.oneCell') = true) := all_oneCell_toArray hp1
      have HL := hide hpl
      clear hp hpl hp1 hpr hpr'
      go_wp2_with (first
        | (with_reducible refine wpList_load_mid ?_ 35 (.tmp 20) ?_ b (off + k * 32) ?_ p _ HR.out Try.underlying35 ?_ H35.out ?_; rfl; rfl; (simp [Act.eval]); rfl)
        | (with_reducible refine wpList_store_mid ?_ 36 (.tmp 22) (.tmp 21) ?_ w.heap.size (k * 32) p.toArray ?_ ?_ HT.out H36.out HO.out ?_; rfl; rfl; (simp [Act.eval]); (simp [Act.eval])))
      go_roundw
      case rel =>
        have hpl := HL.out
        refine ⟨k + 1, by omega, by go_num, fun j hj => ?_, World.there_setCells ht.out _ _ _, by rw [size_cells]; exact hs, ?_⟩
        · by_cases e : j = k
          · subst e
            rw [← Hp.out]
            exact World.rangeAt_setCells_same _ _ _ _ (by simpa using HT.out)
          · have hj' : j < k := by omega
            refine World.rangeAt_setCells_apart (hr.out j hj') _ _ _ (.inr (.inl ?_))
            rw [(HP.out j (by omega)).1]; omega
        · exact below_cells (Nat.le_refl _) _ _ _ hb
      case measure => simp [intOf]; omega
    · go_wp2_with fail
      go_ret
      exact ⟨rfl, fun i hi => hr.out i (by omega), hs, hb⟩

theorem ids_nil (w : World) : Calls Try.prog 6 #[.slice none 0 0] w fun e w' => e = .returned (.slice none 0 0) ∧ w' = w := by
  have q22 : ∀ (w : World) (a : Option Addr) (n c n' c' : Nat), (binOp .eql 22 (.slice a n c) (.slice none n' c')).run Try.prog w = .ok (.bool a.isNone) w := fun w a n c n' c' => Lib.run_eql_slice_nil w _ _ a n c n' c' Try.underlying22
  go_enter Try.func6, Try.ntmps6
  go_wp2
  go_ret
  exact ⟨rfl, rfl⟩

theorem ids_empty (w : World) (x : Addr) (cap : Nat) : Calls Try.prog 6 #[.slice (some x) 0 cap] w fun e w' => e = .returned (.slice (some ⟨w.heap.size, 0, none⟩) 0 0) ∧ Below w.heap.size w w' := by
  have q22 : ∀ (w : World) (a : Option Addr) (n c n' c' : Nat), (binOp .eql 22 (.slice a n c) (.slice none n' c')).run Try.prog w = .ok (.bool a.isNone) w := fun w a n c n' c' => Lib.run_eql_slice_nil w _ _ a n c n' c' Try.underlying22
  obtain ⟨i0, hi, hz0, hz1, hz2⟩ := info_parts Try.info36
  have HI : Hid (Try.prog.info? 36 = some i0 ∧ i0.zero = some (.agg (Array.replicate 32 (.int .u8 0))) ∧ i0.size = 32 ∧ i0.bytes = 32) := ⟨hi, hz0, hz1, hz2⟩
  clear hi hz0 hz1 hz2
  go_enter Try.func6, Try.ntmps6
  go_wp2_with (at_make; refine wpList_make_full _ (by rfl) (.tmp 8) (.tmp 8) 26 (by rfl) w.heap.size 36 i0 (.agg (Array.replicate 32 (.int .u8 0))) 32 Try.underlying26 HI.out.1 HI.out.2.1 HI.out.2.2.1 .i64 .i64 0 0 0 (by simp [Act.eval]) (by simp [Act.eval]) rfl rfl (by omega) (by unfold maxLen; omega) (Nat.le_refl _) ?_; intro w1 hown hgrow)
  have HB : Below w.heap.size w w1 := (Below.refl _ _).grown hgrow (Nat.le_refl _) (by intro k hk; cases hk)
  refine wp_loop_rounds 1 ?_
  rw [rounds_succ]
  clear hown hgrow
  go_wp2_with fail
  go_ret
  exact ⟨rfl, HB⟩

/-- THE CONTRACT OF fetchIDs: the same positions in memory of its own. -/
theorem ids_all (w : World) (a : Option Addr) (n cap : Nat) (P : Nat → List Value) (hn : n ≤ 100000) (hcap : n ≤ cap) (hnil : a = none → n = 0 ∧ cap = 0)
    (hP : n = 0 ∨ ∃ b off, a = some ⟨b, off, none⟩ ∧ ∀ i, i < n → (P i).length = 32 ∧ (∀ v ∈ P i, v.oneCell' = true) ∧ w.rangeAt b (off + i * 32) (P i)) :
    Calls Try.prog 6 #[.slice a n cap] w fun e w' => ∃ a', e = .returned (.slice a' n n) ∧ (n = 0 ∨ ∃ g, a' = some ⟨g, 0, none⟩ ∧ g < w'.heap.size ∧ ∀ i, i < n → w'.rangeAt g (i * 32) (P i)) ∧ Below w.heap.size w w' := by
  rcases hP with rfl | ⟨b, off, rfl, hP⟩
  · cases a with
    | none =>
      obtain ⟨_, rfl⟩ := hnil rfl
      refine (ids_nil w).mono ?_
      rintro e w' ⟨rfl, rfl⟩
      exact ⟨none, rfl, .inl rfl, Below.refl _ _⟩
    | some x =>
      refine (ids_empty w x cap).mono ?_
      rintro e w' ⟨rfl, hb⟩
      exact ⟨_, rfl, .inl rfl, hb⟩
  · refine (ids_any w b off n cap P hn hcap hP).mono ?_
    rintro e w' ⟨rfl, hr, hs, hb⟩
    exact ⟨_, rfl, .inr ⟨_, rfl, hs, hr⟩, hb⟩
end Go.Proofs.Qxb6616194a
