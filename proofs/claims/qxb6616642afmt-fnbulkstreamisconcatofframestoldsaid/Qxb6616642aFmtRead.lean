/-
  zzEq, zzReadFrame by contracts (seat b6616642aF).
-/
import Derived.Test.Qxb6616642aFmtNew
import Derived.BigQuiet
import Derived.Deep.QuietTactic
namespace Go.Proofs.Qxb6616642aFmt
open Go.Shelf Go.RowKit

/-- The bytes at an address, one by one. -/
def At (w : World) (g o : Nat) (xs : List Int) : Prop := ∀ i, i < xs.length → w.cell? ⟨g, o + i, none⟩ = some (.int .u8 (xs.getD i 0))
theorem at_of_range {w : World} {g o : Nat} {xs : List Int} (h : w.rangeAt g o (ic xs)) : At w g o xs := fun i hi => h i _ (by simp [ic, hi])
theorem range_of_at {w : World} {g o : Nat} {xs : List Int} (h : At w g o xs) : w.rangeAt g o (ic xs) := fun j v hj => by
  have hl : j < xs.length := by have := (List.getElem?_eq_some_iff.1 hj).1; simpa using this
  rw [h j hl]
  simpa [ic, hl] using hj

set_option maxHeartbeats 1000000 in
set_option maxRecDepth 100000 in
/-- zzEq at two slices that hold the same bytes. -/
theorem eq_any (xs : List Int) (a1 a2 : Option Addr) (n c1 c2 : Nat) (w : World) (hn : xs.length = n) (hlim : n ≤ 100000000) (h1 : 0 < n → ∃ g o, a1 = some ⟨g, o, none⟩ ∧ At w g o xs) (h2 : 0 < n → ∃ g o, a2 = some ⟨g, o, none⟩ ∧ At w g o xs) :
    Calls Tryf.prog 13 #[.slice a1 n c1, .slice a2 n c2] w fun e w' => e = .returned (.bool true) ∧ ∃ q, w' = w.drewN q := by
  have H1 := hide h1
  have H2 := hide h2
  clear h1 h2
  go_enter Tryf.func13, Tryf.ntmps13
  go_wp2_with fail
  go_loopw [5] (fun i wx => ∃ (k q : Nat), k ≤ n ∧ i = .int .i64 k ∧ wx = w.drewN q) (fun i _ => n - (intOf i).toNat)
  case atStart => exact ⟨0, 0, by omega, rfl, rfl⟩
  case round =>
    obtain ⟨k, q, hk, rfl, rfl⟩ := hrel
    by_cases hlt : k < n
    · obtain ⟨g1, o1, rfl, r1⟩ := H1.out (by omega)
      obtain ⟨g2, o2, rfl, r2⟩ := H2.out (by omega)
      have e1 := r1 k (by omega)
      have e2 := r2 k (by omega)
      have j1 : (0 : Int) ≤ (k : Int) := by omega
      have j2 : (k : Int) < (n : Int) := by omega
      clear H1 H2 r1 r2
      go_wp2_with fail
      go_quiet (fail)
      go_wp2_with fail
      go_roundw
      case rel => exact ⟨k + 1, _, by omega, by go_num, rfl⟩
      case measure => simp [intOf]; omega
    · obtain rfl : k = n := by omega
      go_wp2_with fail
      go_ret
      exact ⟨rfl, q, rfl⟩
theorem results_tmp4 {fn : Func} {t u v x : Tmp} (h : fn.results = #[.tmp t, .tmp u, .tmp v, .tmp x]) (tmps : Array Value) (P : Program) (w : World) :
    (results fn tmps).run P w = .ok (.tuple #[tmps.getD t undef, tmps.getD u undef, tmps.getD v undef, tmps.getD x undef]) w := by
  simp [results, h]

/-- What a reader of frames finds at p: '$', nd digits whose values come to u, CR LF, u bytes, CR LF. 'f': the stream's bytes; 'V t': the value of the first t digits. -/
structure Bulky (f : Nat → Int) (V : Nat → Nat) (p nd u L : Nat) : Prop where
  h0 : f p = 36
  nd1 : 1 ≤ nd
  dg : ∀ t, t < nd → 48 ≤ f (p + 1 + t) ∧ f (p + 1 + t) ≤ 57
  v0 : V 0 = 0
  vs : ∀ t, t < nd → (V (t + 1) : Int) = V t * 10 + (f (p + 1 + t) - 48)
  vn : V nd = u
  vle : ∀ t, t ≤ nd → V t ≤ u
  cr : f (p + 1 + nd) = 13
  lf : f (p + 2 + nd) = 10
  cr2 : f (p + 3 + nd + u) = 13
  lf2 : f (p + 4 + nd + u) = 10
  fit : p + 5 + nd + u ≤ L

set_option maxHeartbeats 4000000 in
set_option maxRecDepth 100000 in
theorem rf_bulk (f : Nat → Int) (V : Nat → Nat) (p nd u L g c : Nat) (w : World) (h : Bulky f V p nd u L) (hL : L ≤ 100000000) (hc : L ≤ c) (hcm : c ≤ maxLen) (hcell : ∀ i, i < L → w.cell? ⟨g, i, none⟩ = some (.int .u8 (f i))) :
    Calls Tryf.prog 12 #[.slice (some ⟨g, 0, none⟩) L c, .int .i64 p] w fun e w' => (∃ c', e = .returned (.tuple #[.bool false, .slice (some ⟨g, p + 3 + nd, none⟩) u c', .int .i64 (p + 5 + nd + u : Nat), .bool true])) ∧ ∃ q, w' = w.drewN q := by
  obtain ⟨h0, nd1, dg, v0, vs, vn, vle, cr, lf, cr2, lf2, fit⟩ := h
  have HC := hide hcell
  have DG := hide dg
  have VS := hide vs
  have VL := hide vle
  have c0 := hcell p (by omega)
  have c1 := hcell (p + 1) (by omega)
  rw [h0] at c0
  have d0 := dg 0 (by omega)
  rw [Nat.add_zero] at d0
  have n45 : ¬ f (p + 1) = 45 := by omega
  have i0 : (0 : Int) ≤ (p : Int) := by omega
  have i1 : (p : Int) < (L : Int) := by omega
  have i2 : (p : Int) + 1 < (L : Int) := by omega
  have hcm' := hcm
  unfold maxLen at hcm'
  clear hcell dg vs vle
  go_enter Tryf.func12, Tryf.ntmps12
  go_wp2_with fail
  go_loopw [8, 11] (fun i n wx => ∃ t : Nat, t ≤ nd ∧ i = .int .i64 (p + 1 + t : Nat) ∧ n = .int .i64 (V t) ∧ wx = w) (fun i _ _ => L - (intOf i).toNat)
  case atStart => exact ⟨0, by omega, by go_num, by rw [v0]; rfl, rfl⟩
  case round =>
    obtain ⟨t, ht, rfl, rfl, rfl⟩ := hrel
    obtain ⟨i, hi⟩ : ∃ i, p + 1 + t = i := ⟨_, rfl⟩
    have hvl := VL.out t ht
    rw [hi]
    by_cases hlt : t < nd
    · have ci := HC.out i (by omega)
      have di := DG.out t hlt
      have vi := VS.out t hlt
      rw [hi] at di vi
      obtain ⟨z, hz⟩ : ∃ z, f i = z := ⟨_, rfl⟩
      obtain ⟨y, hy⟩ : ∃ y, V t = y := ⟨_, rfl⟩
      rw [hz] at ci di vi
      rw [hy] at vi hvl ⊢
      obtain ⟨d1, d2⟩ := di
      have k0 : (0 : Int) ≤ (i : Int) := by omega
      have k1 : (i : Int) < (L : Int) := by omega
      have k2 : ¬ (L : Int) < (y : Int) := by omega
      have k3 : (y : Int) ≤ 100000000 := by omega
      have HV := hide vi
      clear vi hz
      go_wp2_with fail
      go_roundw
      case rel => exact ⟨t + 1, by omega, by rw [show ((i : Int) + 1) = ((p + 1 + (t + 1) : Nat) : Int) by omega], by rw [HV.out], trivial⟩
      case measure => simp [intOf]; omega
    · obtain rfl : t = nd := by omega
      have ci := HC.out i (by omega)
      have ci1 := HC.out (i + 1) (by omega)
      have ci2 := HC.out (i + 2 + u) (by omega)
      have ci3 := HC.out (i + 2 + u + 1) (by omega)
      rw [← hi, cr, hi] at ci
      rw [show i + 1 = p + 2 + t by omega, lf, show p + 2 + t = i + 1 by omega] at ci1
      rw [show i + 2 + u = p + 3 + t + u by omega, cr2, show p + 3 + t + u = i + 2 + u by omega] at ci2
      rw [show i + 2 + u + 1 = p + 4 + t + u by omega, lf2, show p + 4 + t + u = i + 2 + u + 1 by omega] at ci3
      rw [vn]
      have k0 : (0 : Int) ≤ (i : Int) := by omega
      have k1 : (i : Int) + 2 + u + 1 < (L : Int) := by omega
      have k2 : ((i : Int) == (p : Int) + 1) = false := beq_eq_false_iff_ne.2 (by omega)
      have k3 : ¬ c = i + 2 := by omega
      have HI := hide hi
      clear hi cr lf cr2 lf2 vn hvl v0 DG VS VL HC n45 h0 c0 c1 d0
      go_wp2_with fail
      go_quiet (fail)
      go_wp2_with fail
      refine bodyPost_ret (results_tmp4 rfl _ _ _) rfl ?_
      refine ⟨⟨c - (i + 2), ?_⟩, _, rfl⟩
      have hi := HI.out
      show Ending.returned (Value.tuple #[.bool false, .slice (some ⟨g, i + 2, none⟩) (i + 2 + u - (i + 2)) (c - (i + 2)), .int .i64 ((i : Int) + 2 + u + 2), .bool true]) = _
      rw [show i + 2 + u - (i + 2) = u by omega, show ((i : Int) + 2 + u + 2) = ((p + 5 + t + u : Nat) : Int) by omega, show i + 2 = p + 3 + t by omega]

set_option maxHeartbeats 4000000 in
set_option maxRecDepth 100000 in
theorem rf_null (f : Nat → Int) (p L g c : Nat) (w : World) (h0 : f p = 36) (h1 : f (p + 1) = 45) (h2 : f (p + 2) = 49) (h3 : f (p + 3) = 13) (h4 : f (p + 4) = 10) (fit : p + 5 ≤ L) (hL : L ≤ 100000000) (hcell : ∀ i, i < L → w.cell? ⟨g, i, none⟩ = some (.int .u8 (f i))) :
    Calls Tryf.prog 12 #[.slice (some ⟨g, 0, none⟩) L c, .int .i64 p] w fun e w' => e = .returned (.tuple #[.bool true, .slice none 0 0, .int .i64 (p + 5 : Nat), .bool true]) ∧ w' = w := by
  have c0 := hcell p (by omega)
  have c1 := hcell (p + 1) (by omega)
  have c2 := hcell (p + 2) (by omega)
  have c3 := hcell (p + 3) (by omega)
  have c4 := hcell (p + 4) (by omega)
  rw [h0] at c0
  rw [h1] at c1
  rw [h2] at c2
  rw [h3] at c3
  rw [h4] at c4
  have i0 : (0 : Int) ≤ (p : Int) := by omega
  have i1 : (p : Int) + 5 ≤ (L : Int) := by omega
  have i2 : (L : Int) ≤ 100000000 := by omega
  have C2 := hide c2
  have C3 := hide c3
  have C4 := hide c4
  clear hcell h0 h1 h2 h3 h4 c2 c3 c4
  go_enter Tryf.func12, Tryf.ntmps12
  go_wp2_with fail
  go_loopw [8, 11] (fun i n wx => ∃ t : Nat, t ≤ 1 ∧ i = .int .i64 (p + 2 + t : Nat) ∧ n = .int .i64 t ∧ wx = w) (fun i _ _ => L - (intOf i).toNat)
  case atStart => exact ⟨0, by omega, by go_num, rfl, rfl⟩
  case round =>
    obtain ⟨t, ht, rfl, rfl, rfl⟩ := hrel
    obtain ⟨i, hi⟩ : ∃ i, p + 2 + t = i := ⟨_, rfl⟩
    rw [hi]
    by_cases hlt : t < 1
    · obtain rfl : t = 0 := by omega
      have ci : wr.cell? ⟨g, i, none⟩ = some (.int .u8 49) := by rw [← hi]; exact C2.out
      have k0 : (0 : Int) ≤ (i : Int) := by omega
      have k1 : (i : Int) < (L : Int) := by omega
      clear c0 c1
      go_wp2_with fail
      go_roundw
      case rel => exact ⟨1, by omega, by rw [show ((i : Int) + 1) = ((p + 2 + 1 : Nat) : Int) by omega], rfl, trivial⟩
      case measure => simp [intOf]; omega
    · obtain rfl : t = 1 := by omega
      have ci : wr.cell? ⟨g, i, none⟩ = some (.int .u8 13) := by rw [← hi]; exact C3.out
      have ci1 : wr.cell? ⟨g, i + 1, none⟩ = some (.int .u8 10) := by rw [← hi]; exact C4.out
      have k0 : (0 : Int) ≤ (i : Int) := by omega
      have k1 : (i : Int) + 1 < (L : Int) := by omega
      have k2 : ((i : Int) == (p : Int) + 2) = false := beq_eq_false_iff_ne.2 (by omega)
      have k3 : ((i : Int) == (p : Int) + 1 + 1) = false := beq_eq_false_iff_ne.2 (by omega)
      have HI := hide hi
      clear hi c0 c1 C2 C3 C4
      go_wp2_with fail
      refine bodyPost_ret (results_tmp4 rfl _ _ _) rfl ?_
      refine ⟨?_, rfl⟩
      have hi := HI.out
      show Ending.returned (Value.tuple #[.bool true, .slice none 0 0, .int .i64 ((i : Int) + 2), .bool true]) = _
      rw [show ((i : Int) + 2) = ((p + 5 : Nat) : Int) by omega]
end Go.Proofs.Qxb6616642aFmt
