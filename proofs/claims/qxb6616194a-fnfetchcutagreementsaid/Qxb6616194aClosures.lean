/-
  THE CLOSURES OF node.ZZFetchB1 BY THEIR CONTRACTS (seat b6616194a): '$2' (done) and '$1' (lookup). The lookup's contract takes what its 'back' does as a premise.
-/
import Derived.Test.Qxb6616194aRows
import Derived.Test.Qxb6616194aKeep
import Derived.WalkKit
import Derived.ProofKit
import Derived.Deep.MidRow
import Derived.Deep.AppendLies
namespace Go.Proofs.Qxb6616194a
open Go.ChangeShapes Go.WideShapes Go.ChangeAt Go.RowKit
set_option linter.unusedVariables false

theorem fold_at : ∀ (l : List Value) (k : Nat) (c : Array Value) (i : Nat),
    ((l.zipIdx k).foldl (fun cs (x : Value × Nat) => cs.setIfInBounds (0 + x.2) x.1) c)[i]? = if k ≤ i ∧ i < k + l.length ∧ i < c.size then l[i - k]? else c[i]?
  | [], k, c, i => by
    rw [if_neg (by simp; omega)]; rfl
  | x :: l, k, c, i => by
    rw [List.zipIdx_cons, List.foldl_cons, fold_at l (k + 1) _ i]
    simp only [Array.size_setIfInBounds, Nat.zero_add, List.length_cons, Array.getElem?_setIfInBounds]
    by_cases h1 : k = i
    · subst h1
      rw [if_neg (by omega)]
      by_cases h2 : k < c.size
      · rw [if_pos rfl, if_pos h2, if_pos ⟨Nat.le_refl _, by omega, h2⟩]; simp
      · rw [if_pos rfl, if_neg h2, if_neg (by omega)]; simp [Array.getElem?_eq_none (Nat.le_of_not_lt h2)]
    · rw [if_neg h1]
      by_cases h2 : k + 1 ≤ i ∧ i < k + 1 + l.length ∧ i < c.size
      · rw [if_pos h2, if_pos (by omega)]
        have : i - k = (i - (k + 1)) + 1 := by omega
        rw [this, List.getElem?_cons_succ]
      · rw [if_neg h2, if_neg (by omega)]

theorem fold_fill (p c : Array Value) (h : c.size = p.size) : p.zipIdx.foldl (fun cs (x : Value × Nat) => cs.setIfInBounds (0 + x.2) x.1) c = p := by
  apply Array.ext_getElem?
  intro i
  rw [← Array.foldl_toList, Array.toList_zipIdx, fold_at]
  by_cases hi : i < p.size
  · rw [if_pos ⟨Nat.zero_le _, by simpa using hi, by omega⟩]; simp
  · rw [if_neg (by simp; omega)]
    rw [Array.getElem?_eq_none (by omega), Array.getElem?_eq_none (by omega)]

theorem Try.info36 : (Try.prog.info? 36).map (fun i => (i.zero, i.size, i.bytes)) = some (some (.agg (Array.replicate 32 (.int .u8 0))), 32, 32) := by kernel_rfl
theorem Try.info35 : (Try.prog.info? 35).map (fun i => (i.zero, i.size, i.bytes)) = some (some (.agg (Array.replicate 32 (.int .u8 0))), 32, 32) := by kernel_rfl

theorem run_build1 (p : Array Value) (hp : p.size = 32) (w : World) :
    (Instr.buildSlice 26 1 #[(0, .agg p)]).run Try.prog w = .ok (.slice (some ⟨w.heap.size, 0, none⟩) 1 1) (w.alloc (.cells p 36)) := by
  obtain ⟨i0, hi, hz0, hz1, hz2⟩ := info_parts Try.info36
  have hf : ∀ c : Array Value, c.size = 32 → Instr.fill (fun i => some (i * 32, 32)) c [(0, .agg p)] = some p := by
    intro c hc
    have := fold_fill p c (by omega)
    simp [Instr.fill, Value.cells, hp, hc]
    simpa [hp] using this
  have hs : (sizeOf 36).run Try.prog w = .ok 32 w := by simp [sizeOf, typeInfo, hi, hz1]
  simp [Instr.buildSlice, Sem.run_bind, run_underlying Try.underlying26, hs]
  rw [hf _ (by simp)]
  rfl

theorem wpList_build1 {ops : Array Oper} {rest : List Oper} {o : Oper} {a : Act} {w : World} {Q : Exit → Act → World → Prop} (hgd : o.guard = none) (x : Operand) (ho : o.op = .buildSlice 26 1 #[(0, x)])
    (p : Array Value) (hp : p.size = 32) (hx : a.eval x = .agg p)
    (h : wpList Try.prog ops Q rest (a.put o.dst (.slice (some ⟨w.heap.size, 0, none⟩) 1 1)) (w.alloc (.cells p 36))) : wpList Try.prog ops Q (o :: rest) a w :=
  wpList_plain hgd fun K hK => by
    unfold Oper.wp execOp
    simp only [ho, hx, List.map_toArray, List.map_cons, List.map_nil, Sem.run_bind, run_build1 p hp w, Sem.run_pure, Result.andThen_ok]
    exact hK _ _ h


/-- 'ZZFetchB1$2' (done): doneCalls goes up by one, got is the result. -/
theorem done_any (N : Nat) (d : Int) (r : Bool) (f : Bool) (h : Int) (g0 g1 g2 g3 g4 : Value) (w : World) (hX : N + 6 ≤ w.heap.size)
    (k3 : w.heap[N + 3]? = some (.cells #[.int .i64 d] 3 (0, 0))) (k4 : w.heap[N + 4]? = some (.cells #[g0, g1, g2, g3, g4] 31 (0, 0))) (hdb : 0 ≤ d ∧ d ≤ 1000000) :
    Calls Try.prog 13 #[.agg #[.bool r, .bool f, .slice none 0 0, .int .i64 h, .slice none 0 0], .pointer (some ⟨N + 3, 0, none⟩), .pointer (some ⟨N + 4, 0, none⟩)] w fun e w' =>
      e = .returned (.tuple #[]) ∧ (w'.heap[N + 3]? = some (.cells #[.int .i64 (d + 1)] 3 (0, 0)) ∧ w'.heap[N + 4]? = some (.cells #[.bool r, .bool f, .slice none 0 0, .int .i64 h, .slice none 0 0] 31 (0, 0)) ∧ Kf (S34 N) w w') := by
  have hd := cell_of_one k3
  have hdf := free_of_one k3
  obtain ⟨c0, c1, c2, c3, c4, hgf⟩ := five_cell k4
  have f0 := hgf 0; have f1 := hgf 1; have f2 := hgf 2; have f3 := hgf 3; have f4 := hgf 4
  have b3 : N + 3 < w.heap.size := by omega
  have b4 : N + 4 < w.heap.size := by omega
  have K3 : Hid (w.heap[N + 3]? = some (.cells #[.int .i64 d] 3 (0, 0))) := k3
  have K4 : Hid (w.heap[N + 4]? = some (.cells #[g0, g1, g2, g3, g4] 31 (0, 0))) := k4
  clear k3 k4 hgf
  go_enter Try.func13, Try.ntmps13
  go_wp2
  go_end0
  refine ⟨rfl, ?_, ?_, ?_⟩
  · rw [Below.heap_alloc _ _ _ (by simp [World.setCell]; omega), set_far (by simp), set_far (by simp), set_far (by simp), set_far (by simp), set_far (by simp)]
    exact one_setCell K3.out
  · rw [Below.heap_alloc _ _ _ (by simp [World.setCell]; omega)]
    rw [row_set (row_set (row_set (row_set (row_set ((set_far (by simp)).trans K4.out)))))]
    rfl
  · refine Kf.alloc ?_ _
    repeat (refine Kf.setCell ?_ (by simp [S34]) _)
    exact Kf.refl _ _

theorem hide {p : Prop} (h : p) : Hid p := h
/-- Behind the append, as the walk leaves it: what the lookup's state is, and what is as it was. -/
theorem lookup_state {N : Nat} {af : Option Addr} {lf cf : Nat} {ah : Option Addr} {lh ch : Nat} {F : Nat → Bool} {H : Nat → Int} {w w1 : World} {c : Nat} {A : List Value} {d : Int} (h : St N af lf cf ah lh ch F H w c A d) {va : Value} {p : Array Value} {g cap : Nat}
    (h2 : w.heap[N + 2]? = some (.cells #[va] 26 (0, 0))) (ho : w.ownsRow (N + 6) 36 32 va c A)
    (hown : w1.ownsRow (N + 6) 36 32 (.slice (some ⟨g, 0, none⟩) (c + 1) cap) (c + 1) (A ++ p.toList))
    (hgrow : (((w.setCell ⟨N + 5, 0, none⟩ (.int .i64 (c + 1))).alloc (.cells p 36)).alloc (.cells p 36)).grownBy w1 va.ownBlock) (x : Obj) :
    St N af lf cf ah lh ch F H ((w1.setCell ⟨N + 2, 0, none⟩ (.slice (some ⟨g, 0, none⟩) (c + 1) cap)).alloc x) (c + 1) (A ++ p.toList) d ∧ Kq (S25 N) N w ((w1.setCell ⟨N + 2, 0, none⟩ (.slice (some ⟨g, 0, none⟩) (c + 1) cap)).alloc x) := by
  have hX := h.hX
  have hs0 : (w.setCell ⟨N + 5, 0, none⟩ (.int .i64 (c + 1))).heap.size = w.heap.size := by simp [World.setCell]
  have ho' : (((w.setCell ⟨N + 5, 0, none⟩ (.int .i64 (c + 1))).alloc (.cells p 36)).alloc (.cells p 36)).ownsRow (N + 6) 36 32 va c A := ((ownsRow_setCell_below ho (by simp) _).alloc _).alloc _
  have hsz : w.heap.size + 2 ≤ w1.heap.size := by have := hgrow.size; simp [World.setCell] at this; omega
  have hold : ∀ k, k < N + 6 → w1.heap[k]? = (w.setCell ⟨N + 5, 0, none⟩ (.int .i64 (c + 1))).heap[k]? := fun k hk => by
    rw [hgrow.block k (by simp [World.setCell]; omega) (owns_ne ho' hk), Below.heap_alloc _ _ _ (by simp [World.setCell]; omega), Below.heap_alloc _ _ _ (by rw [hs0]; omega)]
  have hk : Kq (S25 N) N w ((w1.setCell ⟨N + 2, 0, none⟩ (.slice (some ⟨g, 0, none⟩) (c + 1) cap)).alloc x) := by
    refine Kq.alloc (Kq.setCell ?_ (by simp [S25]) _) _
    exact ((((Kq.refl _ _ _).setCell (by simp [S25]) _).alloc _).alloc _).grown hgrow (owns_row ho')
  refine ⟨h.next hk ⟨.slice (some ⟨g, 0, none⟩) (c + 1) cap, ?_, ?_⟩ ?_, hk⟩
  · rw [Below.heap_alloc _ _ _ (by simp [World.setCell]; omega)]
    refine one_setCell (v := va) ?_
    rw [hold _ (by omega), set_far (by simp)]; exact h2
  · exact (ownsRow_setCell_below hown (by simp) _).alloc _
  · rw [Below.heap_alloc _ _ _ (by simp [World.setCell]; omega), set_far (by simp), hold _ (by omega)]
    exact one_setCell h.k5

theorem after_append {N : Nat} {af : Option Addr} {lf cf : Nat} {ah : Option Addr} {lh ch : Nat} {F : Nat → Bool} {H : Nat → Int} {w w1 : World} {c : Nat} {A : List Value} {d : Int} (h : St N af lf cf ah lh ch F H w c A d) {va : Value} {p : Array Value}
    (h2 : w.heap[N + 2]? = some (.cells #[va] 26 (0, 0))) (ho : w.ownsRow (N + 6) 36 32 va c A)
    (hgrow : (((w.setCell ⟨N + 5, 0, none⟩ (.int .i64 (c + 1))).alloc (.cells p 36)).alloc (.cells p 36)).grownBy w1 va.ownBlock) :
    w1.cell? ⟨N, 0, none⟩ = some (.slice af lf cf) ∧ w1.cell? ⟨N + 1, 0, none⟩ = some (.slice ah lh ch) ∧ w1.cell? ⟨N + 2, 0, none⟩ = some va ∧ w1.frozen? ⟨N + 2, 0, none⟩ = false ∧ w.heap.size + 2 ≤ w1.heap.size ∧ ∀ b o, b < N → w1.cell? ⟨b, o, none⟩ = w.cell? ⟨b, o, none⟩ := by
  have hX := h.hX
  have hs0 : (w.setCell ⟨N + 5, 0, none⟩ (.int .i64 (c + 1))).heap.size = w.heap.size := by simp [World.setCell]
  have ho' : (((w.setCell ⟨N + 5, 0, none⟩ (.int .i64 (c + 1))).alloc (.cells p 36)).alloc (.cells p 36)).ownsRow (N + 6) 36 32 va c A := ((ownsRow_setCell_below ho (by simp) _).alloc _).alloc _
  have hsz : w.heap.size + 2 ≤ w1.heap.size := by have := hgrow.size; simp [World.setCell] at this; omega
  have hold : ∀ k, k < N + 6 → k ≠ N + 5 → w1.heap[k]? = w.heap[k]? := fun k hk hk5 => by
    rw [hgrow.block k (by simp [World.setCell]; omega) (owns_ne ho' hk), Below.heap_alloc _ _ _ (by simp [World.setCell]; omega), Below.heap_alloc _ _ _ (by rw [hs0]; omega), set_far (by simpa using hk5)]
  refine ⟨?_, ?_, ?_, ?_, hsz, ?_⟩
  · exact cell_of_one ((hold _ (by omega) (by omega)).trans h.k0)
  · exact cell_of_one ((hold _ (by omega) (by omega)).trans h.k1)
  · exact cell_of_one ((hold _ (by omega) (by omega)).trans h2)
  · exact free_of_one ((hold _ (by omega) (by omega)).trans h2)
  · intro b o hb
    exact World.cell?_of_block (hold b (by omega) (by omega))

set_option maxHeartbeats 1000000 in
/-- 'ZZFetchB1$1' (lookup): calls goes up by one, p is asked, and 'back' is called with found's and hops' answer. What back does is a premise. -/
theorem lookup_any {N : Nat} {af : Option Addr} {lf cf : Nat} {ah : Option Addr} {lh ch : Nat} {F : Nat → Bool} {H : Nat → Int} {w : World} {c : Nat} {A : List Value} {d : Int} (hst : St N af lf cf ah lh ch F H w c A d)
    (hF : ∀ i, lf ≤ i → F i = false) (hH : ∀ i, lh ≤ i → H i = 0) (hc : c ≤ 1000000) (hlf : lf ≤ 1000000) (hlh : lh ≤ 1000000) (p : Array Value) (hp : p.size = 32) (hp1 : ∀ v ∈ p.toList, v.oneCell' = true)
    (fb : Nat) (capb : Array Value) (hfb : ∀ args w, (callFunc fb args).run Try.prog w = .ok (.enter fb args) w) (R : World → Prop)
    (hback : ∀ w1, St N af lf cf ah lh ch F H w1 (c + 1) (A ++ p.toList) d → Kq (S25 N) N w w1 →
      Calls Try.prog fb (#[.agg #[.bool true, .bool (F c), .slice none 0 0, .int .i64 (H c), .slice none 0 0]] ++ capb) w1 fun e w' => e = .returned (.tuple #[]) ∧ R w') :
    Calls Try.prog 12 #[.agg p, .func (Fn.func fb) #[] capb, .pointer (some ⟨N + 5, 0, none⟩), .pointer (some ⟨N + 2, 0, none⟩), .pointer (some ⟨N, 0, none⟩), .pointer (some ⟨N + 1, 0, none⟩)] w fun e w' => e = .returned (.tuple #[]) ∧ R w' := by
  have hX := hst.hX
  obtain ⟨va, h2, hown⟩ := hst.k2
  have b0 : N < w.heap.size := by omega
  have b1 : N + 1 < w.heap.size := by omega
  have b2 : N + 2 < w.heap.size := by omega
  have b5 : N + 5 < w.heap.size := by omega
  have q0 := cell_of_one hst.k0
  have q1 := cell_of_one hst.k1
  have q2 := cell_of_one h2
  have f2 := free_of_one h2
  have q5 := cell_of_one hst.k5
  have f5 := free_of_one hst.k5
  have Hp36 : Hid ((Try.prog.info? 36).map (·.size) = some p.size) := by rw [hp]; exact (by kernel_rfl : (Try.prog.info? 36).map (·.size) = some 32)
  have Hp : Hid (p.size = 32) := hp
  have HO : Hid (w.ownsRow (N + 6) 36 32 va c A) := hown
  have H1 : Hid (∀ v ∈ p.toList, v.oneCell' = true) := hp1
  have H2 : Hid (w.heap[N + 2]? = some (.cells #[va] 26 (0, 0))) := h2
  have HS : Hid (St N af lf cf ah lh ch F H w c A d) := hst
  have HB : Hid (∀ w1, St N af lf cf ah lh ch F H w1 (c + 1) (A ++ p.toList) d → Kq (S25 N) N w w1 →
      Calls Try.prog fb (#[.agg #[.bool true, .bool (F c), .slice none 0 0, .int .i64 (H c), .slice none 0 0]] ++ capb) w1 fun e w' => e = .returned (.tuple #[]) ∧ R w') := hback
  have cf' : (c < lf ∧ ∃ b off, af = some ⟨b, off, none⟩ ∧ b < N ∧ w.cell? ⟨b, off + c, none⟩ = some (.bool (F c))) ∨ (¬ c < lf ∧ F c = false) := by
    by_cases h : c < lf
    · exact .inl ⟨h, hst.fc c h⟩
    · exact .inr ⟨h, hF c (by omega)⟩
  have ch' : (c < lh ∧ ∃ b off, ah = some ⟨b, off, none⟩ ∧ b < N ∧ w.cell? ⟨b, off + c, none⟩ = some (.int .i64 (H c))) ∨ (¬ c < lh ∧ H c = 0) := by
    by_cases h : c < lh
    · exact .inl ⟨h, hst.hc c h⟩
    · exact .inr ⟨h, hH c (by omega)⟩
  clear hp hown hp1 h2 hst hback hF hH
  generalize F c = f at cf' HB
  generalize H c = hh at ch' HB
  obtain ⟨i0, hi, hz0, hz1, hz2⟩ := info_parts Try.info36
  have HI : Hid (Try.prog.info? 36 = some i0 ∧ i0.zero = some (.agg (Array.replicate 32 (.int .u8 0))) ∧ i0.size = 32 ∧ i0.bytes = 32) := ⟨hi, hz0, hz1, hz2⟩
  clear hi hz0 hz1 hz2
  have hblk : ∀ u : Value, ((w.setCell ⟨N + 5, 0, none⟩ u).alloc (.cells p 36)).heap[w.heap.size]? = some (.cells p 36 (0, 0)) := fun u => by
    have := heap_alloc_new (w.setCell ⟨N + 5, 0, none⟩ u) (.cells p 36)
    simpa [World.setCell] using this
  have hnews : ∀ u : Value, ∀ j x, p.toList[j]? = some x → (((w.setCell ⟨N + 5, 0, none⟩ u).alloc (.cells p 36)).alloc (.cells p 36)).cell? ((⟨w.heap.size + 1, 0, none⟩ : Addr).add j) = some x := fun u => by
    refine World.news_of_block (fr := (0, 0)) (t := 36) ?_
    have := heap_alloc_new ((w.setCell ⟨N + 5, 0, none⟩ u).alloc (.cells p 36)) (.cells p 36)
    simpa [World.setCell] using this
  have HBk := hide hblk
  have HN := hide hnews
  clear hblk hnews
  rcases cf' with ⟨hl1, b, off, rfl, hb1, qf⟩ | ⟨hl1, rfl⟩ <;> rcases ch' with ⟨hl2, b', off', rfl, hb2, qh⟩ | ⟨hl2, rfl⟩
  all_goals
    go_enter Try.func12, Try.ntmps12
    go_wp2_with (first
    | (with_reducible refine wpList_load_row ?_ 36 (.tmp 6) ?_ w.heap.size ?_ 36 p (0, 0) _ ?_ Try.underlying36 ?_ Hp36.out ?_; rfl; rfl; (simp [Act.eval]); (exact HBk.out _); rfl)
    | (with_reducible refine wpList_build1 ?_ (.tmp 14) ?_ p Hp.out ?_ ?_; rfl; rfl; (simp [Act.eval, Act.put]))
    | (at_builtin; refine wpList_append_lies _ (by rfl) (.tmp 13) (.tmp 15) 26 (by rfl) (N + 6) 36 i0 (.agg (Array.replicate 32 (.int .u8 0))) 32 32 Try.underlying26 HI.out.1 HI.out.2.1 HI.out.2.2.1 HI.out.2.2.2 (by simp [Value.cells]) (by omega) va c A (by simp [Act.eval, Act.put]) (((ownsRow_setCell_below HO.out (by simp) _).alloc _).alloc _) ⟨w.heap.size + 1, 0, none⟩ 1 1 p.toList (by simp [Act.eval, Act.put]) (by simpa using Hp.out) (HN.out _) H1.out (by omega) (by unfold maxLen; omega) (by omega) (by first | (simp [World.setCell]; done) | (simp [World.setCell]; omega)) (w.heap.size + 2) (by simp [World.setCell]) ?_; intro g cap w1 hown1 hgrow hat hlt; obtain ⟨r0, r1, r2, r2f, rs, rb⟩ := after_append HS.out H2.out HO.out hgrow; have HO1 := hide hown1; have HG := hide hgrow; clear hown1 hgrow hat; have s0 : N < w1.heap.size := (by omega); have s1 : N + 1 < w1.heap.size := (by omega); have s2 : N + 2 < w1.heap.size := (by omega); have s3 : ∀ k, k < N → k < w1.heap.size := (fun k hk => by omega)))
    obtain ⟨L1, L2⟩ := lookup_state HS.out H2.out HO.out HO1.out HG.out (.cells #[.bool true, .bool _, .slice none 0 0, .int .i64 _, .slice none 0 0] 31)
    refine (HB.out _ L1 L2).mono ?_
    rintro e w' ⟨rfl, hR⟩
    go_wp2_with fail
    go_end0
    exact ⟨rfl, hR⟩

theorem call13 : ∀ args w, (callFunc 13 args).run Try.prog w = .ok (.enter 13 args) w := fun _ _ => rfl
theorem call15 : ∀ args w, (callFunc 15 args).run Try.prog w = .ok (.enter 15 args) w := fun _ _ => rfl
end Go.Proofs.Qxb6616194a
