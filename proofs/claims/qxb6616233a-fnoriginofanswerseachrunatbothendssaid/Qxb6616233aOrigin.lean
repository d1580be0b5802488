/-
  sim.directory's originOf AND ITS ROAD BY CONTRACTS (seat b6616233a): the closure, sort.Search, originOf, ZZoriginOf, ZZoriginAt.
-/
import Derived.Test.Qxb6616233aRows
import Derived.WalkKit
import Derived.ProofKit
import Derived.Deep.AppendLies
import Derived.BigQuiet
import Derived.Deep.QuietTactic
import Derived.LaidEqlPtr
import Derived.Lib.Builder
namespace Go.Proofs.Qxb6616233a
open Go.ChangeShapes Go.WideShapes Go.ChangeAt Go.RowKit
set_option linter.unusedVariables false

theorem hide {p : Prop} (h : p) : Hid p := h

/-- THE DIRECTORY AS originOf READS IT: its block db, its origins' row g, n of them, their firsts f. -/
structure Dr (w : World) (db g n cap : Nat) (f : Nat → Int) : Prop where
  cd : w.cell? ⟨db, 3, none⟩ = some (.slice (some ⟨g, 0, none⟩) n cap)
  co : ∀ i, i < n → w.cell? ⟨g, i * 5, none⟩ = some (.int .u32 (f i))

theorem Dr.below {w w' : World} {db g n cap : Nat} {f : Nat → Int} (h : Dr w db g n cap f) (hb : Below w.heap.size w w') : Dr w' db g n cap f :=
  ⟨(hb.cell (World.block_lt_of_cell? w _ h.cd)).trans h.cd, fun i hi => (hb.cell (World.block_lt_of_cell? w _ (h.co i hi))).trans (h.co i hi)⟩

theorem clo_any (w : World) (p2 p3 db g n cap : Nat) (h : Int) (f : Nat → Int) (c2 : w.cell? ⟨p2, 0, none⟩ = some (.pointer (some ⟨db, 0, none⟩))) (c3 : w.cell? ⟨p3, 0, none⟩ = some (.int .u32 h))
    (hd : Dr w db g n cap f) (k : Int) (i : Nat) (hk : k = i) (hi : i < n) :
    Calls Try.prog 16 #[.int .i64 k, .pointer (some ⟨p2, 0, none⟩), .pointer (some ⟨p3, 0, none⟩)] w fun e w' => e = .returned (.bool (decide (h < f i))) ∧ ∃ q, w' = w.drewN q := by
  subst hk
  have j1 : (0 : Int) ≤ (i : Int) := by omega
  have j2 : (i : Int) < (n : Int) := by omega
  have cd := hd.cd
  have co := hd.co i hi
  clear hd
  go_enter Try.func16, Try.ntmps16
  go_wp2
  go_quiet (fail)
  go_wp2
  go_ret
  exact ⟨rfl, _, rfl⟩

set_option maxHeartbeats 1000000 in
/-- sort.Search with that closure: the first origin whose first is beyond h, else n. -/
theorem search_any (w : World) (p2 p3 db g n cap : Nat) (h : Int) (f : Nat → Int) (c2 : w.cell? ⟨p2, 0, none⟩ = some (.pointer (some ⟨db, 0, none⟩))) (c3 : w.cell? ⟨p3, 0, none⟩ = some (.int .u32 h))
    (hd : Dr w db g n cap f) (hn : n ≤ 1000000) :
    Calls Try.prog 15 #[.int .i64 n, .func (Fn.func 16) #[] #[.pointer (some ⟨p2, 0, none⟩), .pointer (some ⟨p3, 0, none⟩)]] w fun e w' =>
      ∃ r q : Nat, e = .returned (.int .i64 r) ∧ w' = w.drewN q ∧ r ≤ n ∧ (0 < r → f (r - 1) ≤ h) ∧ (r < n → h < f r) := by
  have HC : Hid (∀ (q : Nat) (k : Int) (i : Nat), k = i → i < n → Calls Try.prog 16 #[.int .i64 k, .pointer (some ⟨p2, 0, none⟩), .pointer (some ⟨p3, 0, none⟩)] (w.drewN q) fun e w' => e = .returned (.bool (decide (h < f i))) ∧ ∃ q', w' = (w.drewN q).drewN q') :=
    fun q k i hk hi => clo_any (w.drewN q) p2 p3 db g n cap h f c2 c3 ⟨hd.cd, hd.co⟩ k i hk hi
  clear c2 c3 hd
  go_enter Try.func15, Try.ntmps15
  go_wp2_with fail
  go_loopw [5, 6] (fun i j wx => ∃ (a b q : Nat), a ≤ b ∧ b ≤ n ∧ i = .int .i64 a ∧ j = .int .i64 b ∧ wx = w.drewN q ∧ Hid (0 < a → f (a - 1) ≤ h) ∧ Hid (b < n → h < f b)) (fun i j _ => (intOf j - intOf i).toNat)
  case atStart => exact ⟨0, n, 0, by omega, by omega, rfl, rfl, rfl, fun h => by omega, fun h => by omega⟩
  case round =>
    obtain ⟨a, b, q, hab, hbn, rfl, rfl, rfl, h1, h2⟩ := hrel
    by_cases hlt : a < b
    · obtain ⟨m, hm⟩ : ∃ m : Nat, (a + b) / 2 = m := ⟨_, rfl⟩
      have hm1 : a ≤ m := by omega
      have hm2 : m < b := by omega
      have hmi : ((a : Int) + (b : Int)) / 2 = (m : Int) := by omega
      have Hm := hide hmi
      clear hm hmi
      by_cases hp : h < f m
      · go_wp2_with fail
        rw [Hm.out]
        have C := HC.out q m m rfl (by omega)
        rw [decide_eq_true hp] at C
        refine C.mono ?_
        rintro e w' ⟨rfl, q', rfl⟩
        go_wp2_with fail
        go_roundw
        case rel => exact ⟨a, m, q + q', by omega, by omega, rfl, rfl, rfl, h1, fun _ => hp⟩
        case measure => simp [intOf]; omega
      · go_wp2_with fail
        rw [Hm.out]
        have C := HC.out q m m rfl (by omega)
        rw [decide_eq_false (by omega)] at C
        refine C.mono ?_
        rintro e w' ⟨rfl, q', rfl⟩
        go_wp2_with fail
        go_roundw
        case rel => exact ⟨m + 1, b, q + q', by omega, by omega, by go_num, rfl, rfl, fun _ => (show f (m + 1 - 1) ≤ h by rw [Nat.add_sub_cancel]; omega), h2⟩
        case measure => simp [intOf]; omega
    · obtain rfl : a = b := by omega
      go_wp2_with fail
      go_ret
      exact ⟨a, q, rfl, rfl, hbn, h1.out, h2.out⟩

/-- Which origin it is: the search's answer less one. -/
theorem which {n i r : Nat} {h : Int} {f : Nat → Int} (hinc : ∀ a b, a < b → b < n → f a < f b) (hi : i < n) (h1 : f i ≤ h) (h2 : i + 1 < n → h < f (i + 1)) (hr : r ≤ n) (r1 : 0 < r → f (r - 1) ≤ h) (r2 : r < n → h < f r) : r = i + 1 := by
  have hle : ∀ a b, a ≤ b → b < n → f a ≤ f b := fun a b hab hb => by
    rcases Nat.lt_or_ge a b with h | h
    · exact Int.le_of_lt (hinc a b h hb)
    · rw [show a = b from by omega]; omega
  rcases Nat.lt_trichotomy r (i + 1) with h3 | h3 | h3
  · have := r2 (by omega)
    have := hle r i (by omega) hi
    omega
  · exact h3
  · have := r1 (by omega)
    have := h2 (by omega)
    have := hle (i + 1) (r - 1) (by omega) (by omega)
    omega

set_option maxHeartbeats 1000000 in
theorem originOf_any (w : World) (db g n cap i : Nat) (h : Int) (f : Nat → Int) (hd : Dr w db g n cap f) (hn : n ≤ 1000000) (hinc : ∀ a b, a < b → b < n → f a < f b) (hi : i < n) (h1 : f i ≤ h) (h2 : i + 1 < n → h < f (i + 1)) :
    Calls Try.prog 14 #[.pointer (some ⟨db, 0, none⟩), .int .u32 h] w fun e w' => e = .returned (.pointer (some ⟨g, i * 5, none⟩)) ∧ Below w.heap.size w w' := by
  have HD := hide hd
  have HW := hide (fun r hr r1 r2 => which (r := r) hinc hi h1 h2 hr r1 r2)
  have cd := hd.cd
  have ld := World.block_lt_of_cell? w _ hd.cd
  simp only at ld
  clear hd hinc h1 h2
  go_enter Try.func14, Try.ntmps14
  go_wp2_with fail
  obtain ⟨wa, hwa⟩ : ∃ wa, (w.alloc (.cells #[.pointer (some ⟨db, 0, none⟩)] 30)).alloc (.cells #[.int .u32 h] 62) = wa := ⟨_, rfl⟩
  rw [hwa]
  have ba : Below w.heap.size w wa := by rw [← hwa]; exact ((Below.refl _ _).alloc (Nat.le_refl _) _).alloc (by simp) _
  have b2 : wa.cell? ⟨w.heap.size, 0, none⟩ = some (.pointer (some ⟨db, 0, none⟩)) := by rw [← hwa]; exact cell_of_one (heap_alloc2_old w _ _)
  have b3 : wa.cell? ⟨w.heap.size + 1, 0, none⟩ = some (.int .u32 h) := by rw [← hwa]; exact cell_of_one (heap_alloc2_new w _ _)
  have hda := HD.out.below ba
  have cda := hda.cd
  refine (search_any wa w.heap.size (w.heap.size + 1) db g n cap h f b2 b3 hda hn).mono ?_
  rintro e w' ⟨r, q, rfl, rfl, hr, r1, r2⟩
  obtain rfl := HW.out r hr r1 r2
  have j1 : (0 : Int) ≤ (i : Int) := by omega
  have j2 : (i : Int) < (n : Int) := by omega
  clear r1 r2 hr hwa hda HW HD cd
  go_wp2_with fail
  go_ret
  exact ⟨rfl, ⟨ba.os, ba.tape, ba.output, ba.size, ba.block⟩⟩

theorem zzOriginOf_any (w : World) (db g n cap i : Nat) (h : Int) (f : Nat → Int) (hd : Dr w db g n cap f) (hn : n ≤ 1000000) (hinc : ∀ a b, a < b → b < n → f a < f b) (hi : i < n) (h1 : f i ≤ h) (h2 : i + 1 < n → h < f (i + 1)) :
    Calls Try.prog 12 #[.pointer (some ⟨db, 0, none⟩), .int .u32 h] w fun e w' => e = .returned (.pointer (some ⟨g, i * 5, none⟩)) ∧ Below w.heap.size w w' := by
  have C := hide (originOf_any w db g n cap i h f hd hn hinc hi h1 h2)
  clear hd hinc h1 h2
  go_enter Try.func12, Try.ntmps12
  go_wp2_with fail
  refine C.out.mono ?_
  rintro e w' ⟨rfl, hb⟩
  go_wp2_with fail
  go_ret
  exact ⟨rfl, hb⟩

theorem zzOriginAt_any (w : World) (db g n cap i : Nat) (f : Nat → Int) (hd : Dr w db g n cap f) (hi : i < n) :
    Calls Try.prog 11 #[.pointer (some ⟨db, 0, none⟩), .int .i64 i] w fun e w' => e = .returned (.pointer (some ⟨g, i * 5, none⟩)) ∧ w' = w := by
  have j1 : (0 : Int) ≤ (i : Int) := by omega
  have j2 : (i : Int) < (n : Int) := by omega
  have cd := hd.cd
  clear hd
  go_enter Try.func11, Try.ntmps11
  go_wp2
  go_ret
  exact ⟨rfl, rfl⟩

/-- THE DIRECTORY WHILE IT IS BUILT: its block, and what its origins' slice owns. -/
def Bd (w : World) (db k : Nat) (xs : List Value) : Prop := ∃ (v : Value) (cs : Array Value), w.heap[db]? = some (.cells cs 61 (0, 0)) ∧ cs[3]? = some v ∧ w.ownsRow (db + 1) 65 5 v k xs
/-- An origin's five cells. -/
def orig (x : Int) : List Value := [.int .u32 x, .int .u32 0, .int .u32 0, .bool false, .pointer none]

theorem newDir_any (w : World) (n : Int) :
    Calls Try.prog 9 #[.int .u32 n] w fun e w' => e = .returned (.pointer (some ⟨w.heap.size, 0, none⟩)) ∧ Bd w' w.heap.size 0 [] ∧ Below w.heap.size w w' := by
  go_enter Try.func9, Try.ntmps9
  go_wp2
  go_ret
  exact ⟨rfl, ⟨_, _, heap_alloc_new w _, rfl, World.ownsRow_nil _ _ _ _⟩, (Below.refl _ _).alloc (Nat.le_refl _) _⟩

theorem Try.info65 : (Try.prog.info? 65).map (fun i => (i.zero, i.size, i.bytes)) = some (some (.agg #[.int .u32 0, .int .u32 0, .int .u32 0, .bool false, .pointer none]), 5, 24) := by kernel_rfl

theorem set_row {w : World} {b i : Nat} {cs : Array Value} {t : TypeId} {u : Value} (h : w.heap[b]? = some (.cells cs t (0, 0))) : (w.setCell ⟨b, i, none⟩ u).heap[b]? = some (.cells (cs.setIfInBounds i u) t (0, 0)) :=
  heap_setCell_same w b i cs t u h

theorem add_after {w w1 : World} {db k g cap : Nat} {xs ys : List Value} {v : Value} {cs : Array Value} {o : Obj} (h1 : w.heap[db]? = some (.cells cs 61 (0, 0))) (h2 : cs[3]? = some v) (h3 : w.ownsRow (db + 1) 65 5 v k xs)
    (ho : w1.ownsRow (db + 1) 65 5 (.slice (some ⟨g, 0, none⟩) (k + 1) cap) (k + 1) (xs ++ ys)) (hg : (w.alloc o).grownBy w1 v.ownBlock) :
    w1.heap[db]? = some (.cells cs 61 (0, 0)) ∧ w1.cell? ⟨db, 3, none⟩ = some v ∧ w1.frozen? ⟨db, 3, none⟩ = false ∧
      Bd (w1.setCell ⟨db, 3, none⟩ (.slice (some ⟨g, 0, none⟩) (k + 1) cap)) db (k + 1) (xs ++ ys) ∧ Below db w (w1.setCell ⟨db, 3, none⟩ (.slice (some ⟨g, 0, none⟩) (k + 1) cap)) := by
  have ld : db < w.heap.size := (Array.getElem?_eq_some_iff.1 h1).1
  have hne : some db ≠ v.ownBlock := fun e => by have := (h3.lt db e.symm).1; omega
  have hb : w1.heap[db]? = some (.cells cs 61 (0, 0)) := by
    rw [hg.block db (by simp; omega) hne, Below.heap_alloc _ _ _ ld]; exact h1
  have h3' : 3 < cs.size := (Array.getElem?_eq_some_iff.1 h2).1
  refine ⟨hb, by rw [cell_of_row w1 db 3 cs 61 (0, 0) hb]; exact h2, by simp [World.frozen?, hb], ⟨_, _, set_row hb, by simp [h3'], ownsRow_setCell_below ho (by simp) _⟩, ?_⟩
  refine Below.setCell (p := ⟨db, 3, none⟩) ?_ (Nat.le_refl db) _
  exact ((Below.refl db w).alloc (Nat.le_of_lt ld) _).grown hg (by simp; omega) (fun k' hk' => by have := (h3.lt k' hk').1; omega)

set_option maxHeartbeats 1000000 in
theorem addOrigin_any (w : World) (db k : Nat) (xs : List Value) (x : Int) (hb : Bd w db k xs) (hk : k ≤ 1000000) :
    Calls Try.prog 10 #[.pointer (some ⟨db, 0, none⟩), .int .u32 x] w fun e w' => e = .returned (.tuple #[]) ∧ Bd w' db (k + 1) (xs ++ orig x) ∧ Below db w w' := by
  obtain ⟨v, cs, h1, h2, h3⟩ := hb
  have ld : db < w.heap.size := (Array.getElem?_eq_some_iff.1 h1).1
  have cd : w.cell? ⟨db, 3, none⟩ = some v := by rw [cell_of_row w db 3 cs 61 (0, 0) h1]; exact h2
  have H1 := hide h1
  have H2 := hide h2
  have H3 := hide h3
  clear h1 h2 h3
  obtain ⟨i0, hi, hz0, hz1, hz2⟩ := info_parts Try.info65
  have HI : Hid (Try.prog.info? 65 = some i0 ∧ i0.zero = some (.agg #[.int .u32 0, .int .u32 0, .int .u32 0, .bool false, .pointer none]) ∧ i0.size = 5 ∧ i0.bytes = 24) := ⟨hi, hz0, hz1, hz2⟩
  clear hi hz0 hz1 hz2
  go_enter Try.func10, Try.ntmps10
  have HN : Hid (∀ j u, (orig x)[j]? = some u → (w.alloc (.cells #[.int .u32 x, .int .u32 0, .int .u32 0, .bool false, .pointer none] 65)).cell? ((⟨w.heap.size, 0, none⟩ : Addr).add j) = some u) :=
    World.news_of_block (cs := #[.int .u32 x, .int .u32 0, .int .u32 0, .bool false, .pointer none]) (heap_alloc_new w _)
  have HO : Hid (∀ u ∈ orig x, u.oneCell' = true) := fun u hu => by
    simp only [orig, List.mem_cons, List.not_mem_nil, or_false] at hu
    rcases hu with rfl | rfl | rfl | rfl | rfl <;> rfl
  go_wp2_with (at_builtin; refine wpList_append_lies _ (by rfl) (.tmp 8) (.tmp 11) 43 (by rfl) (db + 1) 65 i0 (.agg #[.int .u32 0, .int .u32 0, .int .u32 0, .bool false, .pointer none]) 5 24 Try.underlying43 HI.out.1 HI.out.2.1 HI.out.2.2.1 HI.out.2.2.2 (by simp [Value.cells]) (by omega) v k xs (by simp [Act.eval]) (H3.out.alloc _) ⟨w.heap.size, 0, none⟩ 1 1 (orig x) (by simp [Act.eval]) (by rfl) HN.out HO.out (by omega) (by unfold maxLen; omega) (by omega) (by simp; omega) (w.heap.size + 1) (by simp) ?_; intro g cap w1 hown1 hgrow hat hlt; obtain ⟨f1, f2, f3, f4⟩ := add_after H1.out H2.out H3.out hown1 hgrow; have HO1 := hide hown1; have HF1 := hide f1; have HF4 := hide f4; clear hown1 hgrow hat f1 f4)
  go_end0
  exact ⟨rfl, HF4.out⟩
end Go.Proofs.Qxb6616233a
