/-
  node.Fetch AND ITS CLOSURE BY THEIR CONTRACTS (seat b6616194a): by induction on the positions. 'fin': what Fetch comes to, a plain function.
-/
import Derived.Test.Qxb6616194aClosures
import Derived.Deep.RegionHeld3
import Derived.Lib.ItoaWalk
namespace Go.Proofs.Qxb6616194a
open Go.ChangeShapes Go.WideShapes Go.ChangeAt Go.RowKit
set_option linter.unusedVariables false

/-- WHAT Fetch COMES TO over the positions ps, when c have been asked (their cells A): how many are asked behind it, their cells, and the result handed to done (reached, found, hops). -/
def fin (F : Nat → Bool) (H : Nat → Int) : List (List Value) → Nat → List Value → Nat × List Value × Bool × Bool × Int
  | [], c, A => (c, A, false, false, 0)
  | [p], c, A => (c + 1, A ++ p, true, F c, H c)
  | p :: q :: r, c, A => if F c then (c + 1, A ++ p, true, F c, H c) else fin F H (q :: r) (c + 1) (A ++ p)

/-- The positions ps lie, 32 cells each, from the address on, in a block below N. -/
def PosAt (N : Nat) (w : World) (a : Option Addr) (ps : List (List Value)) : Prop :=
  ps = [] ∨ ∃ b off, a = some ⟨b, off, none⟩ ∧ b < N ∧ ∀ i p, ps[i]? = some p → p.length = 32 ∧ (∀ v ∈ p, v.oneCell' = true) ∧ w.rangeAt b (off + 32 * i) p

theorem PosAt.keep {N : Nat} {w w' : World} {S : Nat → Prop} {a : Option Addr} {ps : List (List Value)} (h : PosAt N w a ps) (hk : Kq S N w w') (hs : ∀ k, S k → N ≤ k) : PosAt N w' a ps := by
  rcases h with h | ⟨b, off, e, hb, h⟩
  · exact .inl h
  · exact .inr ⟨b, off, e, hb, fun i p hp => ⟨(h i p hp).1, (h i p hp).2.1, hk.range (h i p hp).2.2 hb hs⟩⟩

/-- What is behind a Fetch that began in w with d calls of done. -/
structure Done (N : Nat) (d : Int) (w w' : World) (r : Nat × List Value × Bool × Bool × Int) : Prop where
  k2 : ∃ va, w'.heap[N + 2]? = some (.cells #[va] 26 (0, 0)) ∧ w'.ownsRow (N + 6) 36 32 va r.1 r.2.1
  k3 : w'.heap[N + 3]? = some (.cells #[.int .i64 (d + 1)] 3 (0, 0))
  k4 : w'.heap[N + 4]? = some (.cells #[.bool r.2.2.1, .bool r.2.2.2.1, .slice none 0 0, .int .i64 r.2.2.2.2, .slice none 0 0] 31 (0, 0))
  kq : Kq (SF N) N w w'

theorem Done.back {N : Nat} {d : Int} {w w1 w' : World} {r : Nat × List Value × Bool × Bool × Int} (h : Done N d w1 w' r) (hk : Kq (SF N) N w w1) : Done N d w w' r :=
  ⟨h.k2, h.k3, h.k4, hk.trans h.kq⟩

/-- Out of done's contract. -/
theorem Done.of_done {N : Nat} {af : Option Addr} {lf cf : Nat} {ah : Option Addr} {lh ch : Nat} {F : Nat → Bool} {H : Nat → Int} {w w' : World} {c : Nat} {A : List Value} {d : Int} (hst : St N af lf cf ah lh ch F H w c A d) {x f : Bool} {h : Int}
    (k3 : w'.heap[N + 3]? = some (.cells #[.int .i64 (d + 1)] 3 (0, 0))) (k4 : w'.heap[N + 4]? = some (.cells #[.bool x, .bool f, .slice none 0 0, .int .i64 h, .slice none 0 0] 31 (0, 0))) (hk : Kf (S34 N) w w') : Done N d w w' (c, A, x, f, h) := by
  obtain ⟨va, h2, ho⟩ := hst.k2
  refine ⟨⟨va, hk.block _ _ h2 (by unfold S34; omega), ?_⟩, k3, k4, hk.toKq.mono s34_F⟩
  refine owns_carry ho fun g hg => ?_
  obtain ⟨h6, cs, fr, hb⟩ := owns_row ho g hg
  rw [hb]; exact hk.block _ _ hb (by unfold S34; omega)

/-- THE CONTRACT OF Fetch over ps, as a statement (the induction's). -/
def FetchOk (N : Nat) (af : Option Addr) (lf cf : Nat) (ah : Option Addr) (lh ch : Nat) (F : Nat → Bool) (H : Nat → Int) (ps : List (List Value)) : Prop :=
  ∀ (w : World) (c : Nat) (A : List Value) (d : Int) (a : Option Addr) (cap : Nat), St N af lf cf ah lh ch F H w c A d → PosAt N w a ps → ps.length ≤ cap → cap ≤ 9223372036854775807 → c + ps.length ≤ 100000 → 0 ≤ d ∧ d ≤ 1000 →
    Calls Try.prog 14 #[.slice a ps.length cap, .func (Fn.func 12) #[] #[.pointer (some ⟨N + 5, 0, none⟩), .pointer (some ⟨N + 2, 0, none⟩), .pointer (some ⟨N, 0, none⟩), .pointer (some ⟨N + 1, 0, none⟩)], .func (Fn.func 13) #[] #[.pointer (some ⟨N + 3, 0, none⟩), .pointer (some ⟨N + 4, 0, none⟩)]] w fun e w' => e = .returned (.tuple #[]) ∧ Done N d w w' (fin F H ps c A)

theorem done_st {N : Nat} {af : Option Addr} {lf cf : Nat} {ah : Option Addr} {lh ch : Nat} {F : Nat → Bool} {H : Nat → Int} {w : World} {c : Nat} {A : List Value} {d : Int} (hst : St N af lf cf ah lh ch F H w c A d) (hd : 0 ≤ d ∧ d ≤ 1000) (x f : Bool) (h : Int) :
    Calls Try.prog 13 #[.agg #[.bool x, .bool f, .slice none 0 0, .int .i64 h, .slice none 0 0], .pointer (some ⟨N + 3, 0, none⟩), .pointer (some ⟨N + 4, 0, none⟩)] w fun e w' =>
      e = .returned (.tuple #[]) ∧ Done N d w w' (c, A, x, f, h) := by
  obtain ⟨g0, g1, g2, g3, g4, h4⟩ := hst.k4
  refine (done_any N d x f h g0 g1 g2 g3 g4 w hst.hX hst.k3 h4 (by omega)).mono ?_
  rintro e w' ⟨rfl, k3, k4, hk⟩
  exact ⟨rfl, Done.of_done hst k3 k4 hk⟩

theorem alloc3 (w : World) (A B C : Obj) : (((w.alloc A).alloc B).alloc C).heap[w.heap.size]? = some A ∧ (((w.alloc A).alloc B).alloc C).heap[w.heap.size + 1]? = some B ∧ (((w.alloc A).alloc B).alloc C).heap[w.heap.size + 1 + 1]? = some C := by
  refine ⟨?_, ?_, ?_⟩
  · rw [Below.heap_alloc _ _ _ (by simp; omega), Below.heap_alloc _ _ _ (by simp)]; exact heap_alloc_new w A
  · rw [Below.heap_alloc _ _ _ (by simp)]; have := heap_alloc_new (w.alloc A) B; simpa using this
  · have := heap_alloc_new ((w.alloc A).alloc B) C; simpa using this

set_option maxHeartbeats 1000000 in
/-- 'Fetch$1': where the lookup has found the item done gets its result; else Fetch goes on over the rest. -/
theorem fetch1_any {N : Nat} {af : Option Addr} {lf cf : Nat} {ah : Option Addr} {lh ch : Nat} {F : Nat → Bool} {H : Nat → Int} {q : List Value} {r : List (List Value)} (ih : FetchOk N af lf cf ah lh ch F H (q :: r)) {w : World} {c : Nat} {A : List Value} {d : Int} (hst : St N af lf cf ah lh ch F H w c A d) (hd : 0 ≤ d ∧ d ≤ 1000)
    {n b off cap b3 b4 b5 : Nat} (hn : n = r.length + 2) (hpos : PosAt N w (some ⟨b, off + 32, none⟩) (q :: r)) (hcap : n ≤ cap) (hcap' : cap ≤ 9223372036854775807) (hc : c + (r.length + 1) ≤ 100000)
    (h3 : w.heap[b3]? = some (.cells #[.slice (some ⟨b, off, none⟩) n cap] 26 (0, 0))) (h4 : w.heap[b4]? = some (.cells #[.func (Fn.func 12) #[] #[.pointer (some ⟨N + 5, 0, none⟩), .pointer (some ⟨N + 2, 0, none⟩), .pointer (some ⟨N, 0, none⟩), .pointer (some ⟨N + 1, 0, none⟩)]] 41 (0, 0))) (h5 : w.heap[b5]? = some (.cells #[.func (Fn.func 13) #[] #[.pointer (some ⟨N + 3, 0, none⟩), .pointer (some ⟨N + 4, 0, none⟩)]] 40 (0, 0)))
    (m3 : N + 6 ≤ b3) (m4 : N + 6 ≤ b4) (m5 : N + 6 ≤ b5) (x f : Bool) (h : Int) :
    Calls Try.prog 15 #[.agg #[.bool x, .bool f, .slice none 0 0, .int .i64 h, .slice none 0 0], .pointer (some ⟨b5, 0, none⟩), .pointer (some ⟨b3, 0, none⟩), .pointer (some ⟨b4, 0, none⟩)] w fun e w' =>
      e = .returned (.tuple #[]) ∧ Done N d w w' (if f then (c, A, x, f, h) else fin F H (q :: r) c A) := by
  have c3 := cell_of_one h3
  have c4 := cell_of_one h4
  have c5 := cell_of_one h5
  have l3 := lt_of_heap h3
  have l4 := lt_of_heap h4
  have l5 := lt_of_heap h5
  have H3 := hide h3
  have H4 := hide h4
  have H5 := hide h5
  have HS := hide hst
  have HI := hide ih
  have HP := hide hpos
  clear h3 h4 h5 hst ih hpos
  cases f
  · have i1 : (1 : Int) ≤ (n : Int) := by omega
    have i2 : (n : Int) ≤ (cap : Int) := by omega
    have i3 : ¬ cap = 1 := by omega
    have i4 : 1 ≤ n := by omega
    have i5 : 1 ≤ cap := by omega
    have Hn := hide hn
    clear hn
    go_enter Try.func15, Try.ntmps15
    go_wp2_with fail
    go_name_world W hW
    have cc3 : W.cell? ⟨b3, 0, none⟩ = some (.slice (some ⟨b, off, none⟩) n cap) := by rw [← hW]; exact cell_of_one (by rw [Below.heap_alloc _ _ _ l3]; exact H3.out)
    have cc4 : W.cell? ⟨b4, 0, none⟩ = some (.func (Fn.func 12) #[] #[.pointer (some ⟨N + 5, 0, none⟩), .pointer (some ⟨N + 2, 0, none⟩), .pointer (some ⟨N, 0, none⟩), .pointer (some ⟨N + 1, 0, none⟩)]) := by rw [← hW]; exact cell_of_one (by rw [Below.heap_alloc _ _ _ l4]; exact H4.out)
    have cc5 : W.cell? ⟨b5, 0, none⟩ = some (.func (Fn.func 13) #[] #[.pointer (some ⟨N + 3, 0, none⟩), .pointer (some ⟨N + 4, 0, none⟩)]) := by rw [← hW]; exact cell_of_one (by rw [Below.heap_alloc _ _ _ l5]; exact H5.out)
    have HSW : Hid (St N af lf cf ah lh ch F H W.drew c A d) := by rw [← hW]; exact (HS.out.alloc _).drew
    have HKW : Hid (Kq (SF N) N w W.drew) := by rw [← hW]; exact ((Kq.refl _ _ _).alloc _).drew
    have HPW : Hid (PosAt N W.drew (some ⟨b, off + 32, none⟩) (q :: r)) := PosAt.keep HP.out HKW.out sF_N
    have B3 : Hid (W.drew.heap[b3]? = some (.cells #[.slice (some ⟨b, off, none⟩) n cap] 26 (0, 0))) := by rw [← hW]; exact (Below.heap_alloc _ _ _ l3).trans H3.out
    have B4 : Hid (W.drew.heap[b4]? = some (.cells #[.func (Fn.func 12) #[] #[.pointer (some ⟨N + 5, 0, none⟩), .pointer (some ⟨N + 2, 0, none⟩), .pointer (some ⟨N, 0, none⟩), .pointer (some ⟨N + 1, 0, none⟩)]] 41 (0, 0))) := by rw [← hW]; exact (Below.heap_alloc _ _ _ l4).trans H4.out
    have B5 : Hid (W.drew.heap[b5]? = some (.cells #[.func (Fn.func 13) #[] #[.pointer (some ⟨N + 3, 0, none⟩), .pointer (some ⟨N + 4, 0, none⟩)]] 40 (0, 0))) := by rw [← hW]; exact (Below.heap_alloc _ _ _ l5).trans H5.out
    have I := HI.out W.drew c A d (some ⟨b, off + 32, none⟩) (cap - 1) HSW.out HPW.out (by have := Hn.out; simp; omega) (by omega) (by simp; omega) hd
    rw [show (q :: r).length = n - 1 from by have := Hn.out; simp; omega] at I
    have HI3 := hide I
    clear hW c3 c4 c5 I
    go_region_held3 (fun w' => w'.cell? ⟨b3, 0, none⟩ = some (.slice (some ⟨b, off, none⟩) n cap) ∧ w'.cell? ⟨b4, 0, none⟩ = some (.func (Fn.func 12) #[] #[.pointer (some ⟨N + 5, 0, none⟩), .pointer (some ⟨N + 2, 0, none⟩), .pointer (some ⟨N, 0, none⟩), .pointer (some ⟨N + 1, 0, none⟩)]) ∧ w'.cell? ⟨b5, 0, none⟩ = some (.func (Fn.func 13) #[] #[.pointer (some ⟨N + 3, 0, none⟩), .pointer (some ⟨N + 4, 0, none⟩)])) (first | exact ⟨cc3, cc4, cc5⟩ | exact ⟨k3, k4, k5⟩) ((go_at_call 14; refine HI3.out.mono ?_; rintro e w' ⟨rfl, hD⟩; have k3 := cell_of_one (hD.kq.block _ _ B3.out (by unfold SF; omega) (.inr (by intro cs fr; simp))); have k4 := cell_of_one (hD.kq.block _ _ B4.out (by unfold SF; omega) (.inr (by intro cs fr; simp))); have k5 := cell_of_one (hD.kq.block _ _ B5.out (by unfold SF; omega) (.inr (by intro cs fr; simp)))))
    all_goals
      go_wp2_with fail
      go_end0
      exact ⟨rfl, hD.back HKW.out⟩
  · go_enter Try.func15, Try.ntmps15
    go_wp2_with fail
    refine (done_st (HS.out.alloc _) hd x true h).mono ?_
    rintro e w' ⟨rfl, hD⟩
    go_wp2_with fail
    first | go_end0 | refine bodyPost_ret (results_none rfl _ _ _) rfl ?_
    exact ⟨rfl, hD.back ((Kq.refl _ _ _).alloc _)⟩
/-- The lookup's contract as Fetch uses it, with the boxes that its callers keep. -/
theorem st_boxes {N : Nat} {af : Option Addr} {lf cf : Nat} {ah : Option Addr} {lh ch : Nat} {F : Nat → Bool} {H : Nat → Int} {w : World} {c : Nat} {A : List Value} {d : Int} (hst : St N af lf cf ah lh ch F H w c A d) (A3 B3 C3 : Obj) : St N af lf cf ah lh ch F H (((w.alloc A3).alloc B3).alloc C3).drew c A d ∧ Kq (SF N) N w (((w.alloc A3).alloc B3).alloc C3).drew :=
  ⟨(((hst.alloc _).alloc _).alloc _).drew, ((((Kq.refl _ _ _).alloc _).alloc _).alloc _).drew⟩

theorem fetch_nil {N : Nat} {af : Option Addr} {lf cf : Nat} {ah : Option Addr} {lh ch : Nat} {F : Nat → Bool} {H : Nat → Int} : FetchOk N af lf cf ah lh ch F H [] := by
  intro w c A d a cap hst _ hcap hcap' hc hd
  have HS := hide hst
  clear hst
  simp only [List.length_nil]
  go_enter Try.func14, Try.ntmps14
  go_wp2_with fail
  refine (done_st (((HS.out.alloc _).alloc _).alloc _) hd false false 0).mono ?_
  rintro e w' ⟨rfl, hD⟩
  go_wp2_with fail
  first | go_end0 | refine bodyPost_ret (results_none rfl _ _ _) rfl ?_
  exact ⟨rfl, hD.back ((((Kq.refl _ _ _).alloc _).alloc _).alloc _)⟩

set_option maxHeartbeats 1000000 in
theorem fetch_one {N : Nat} {af : Option Addr} {lf cf : Nat} {ah : Option Addr} {lh ch : Nat} {F : Nat → Bool} {H : Nat → Int} (hF : ∀ i, lf ≤ i → F i = false) (hH : ∀ i, lh ≤ i → H i = 0) (hlf : lf ≤ 1000000) (hlh : lh ≤ 1000000) (p : List Value) : FetchOk N af lf cf ah lh ch F H [p] := by
  intro w c A d a cap hst hpos hcap hcap' hc hd
  rcases hpos with hp | ⟨b, off, rfl, hb, hp⟩
  · simp at hp
  obtain ⟨hpl, hp1, hr⟩ := hp 0 p rfl
  simp only [Nat.mul_zero, Nat.add_zero] at hr
  simp only [List.length_cons, List.length_nil, Nat.zero_add] at hcap hc ⊢
  have hu := Try.underlying36
  have hi : (Try.prog.info? 36).map (·.size) = some p.length := by rw [hpl]; kernel_rfl
  have n2 : (0 : Int) < (1 : Int) := by omega
  have HS := hide hst
  have HP1 := hide hp1
  have HPL := hide hpl
  have HF := hide hF
  have HH := hide hH
  clear hst hp1 hpl hF hH hp
  go_enter Try.func14, Try.ntmps14
  go_wp2_with fail
  go_name_world W hW
  have r36 : W.rangeAt b off p := by rw [← hW]; exact World.rangeAt_alloc (World.rangeAt_alloc (World.rangeAt_alloc hr _) _) _
  have c26 : W.cell? ⟨w.heap.size, 0, none⟩ = some (.slice (some ⟨b, off, none⟩) 1 cap) := by rw [← hW]; exact cell_of_one (alloc3 _ _ _ _).1
  have c41 : W.cell? ⟨w.heap.size + 1, 0, none⟩ = some (.func (Fn.func 12) #[] #[.pointer (some ⟨N + 5, 0, none⟩), .pointer (some ⟨N + 2, 0, none⟩), .pointer (some ⟨N, 0, none⟩), .pointer (some ⟨N + 1, 0, none⟩)]) := by rw [← hW]; exact cell_of_one (alloc3 _ _ _ _).2.1
  have c40 : W.cell? ⟨w.heap.size + 1 + 1, 0, none⟩ = some (.func (Fn.func 13) #[] #[.pointer (some ⟨N + 3, 0, none⟩), .pointer (some ⟨N + 4, 0, none⟩)]) := by rw [← hW]; exact cell_of_one (alloc3 _ _ _ _).2.2
  obtain ⟨S1, S2⟩ : St N af lf cf ah lh ch F H W.drew c A d ∧ Kq (SF N) N w W.drew := by rw [← hW]; exact st_boxes HS.out _ _ _
  have L0 := lookup_any S1 HF.out HH.out (by omega) hlf hlh p.toArray (by simpa using HPL.out) (by simpa using HP1.out) 13 #[.pointer (some ⟨N + 3, 0, none⟩), .pointer (some ⟨N + 4, 0, none⟩)] call13
    (fun w' => Done N d w w' (fin F H [p] c A) ∧ Kq (SF N) N W.drew w') (fun w1 s1 k1 => by
      refine (done_st s1 hd true (F c) (H c)).mono ?_
      rintro e w' ⟨rfl, hD⟩
      exact ⟨rfl, by simpa [fin] using hD.back (S2.trans (k1.mono s25_F)), (k1.mono s25_F).trans hD.kq⟩)
  have hX := HS.out.hX
  have B3 : Hid (W.drew.heap[w.heap.size]? = some (.cells #[.slice (some ⟨b, off, none⟩) 1 cap] 26 (0, 0))) := by rw [← hW]; exact (alloc3 _ _ _ _).1
  have B4 : Hid (W.drew.heap[w.heap.size + 1]? = some (.cells #[.func (Fn.func 12) #[] #[.pointer (some ⟨N + 5, 0, none⟩), .pointer (some ⟨N + 2, 0, none⟩), .pointer (some ⟨N, 0, none⟩), .pointer (some ⟨N + 1, 0, none⟩)]] 41 (0, 0))) := by rw [← hW]; exact (alloc3 _ _ _ _).2.1
  have B5 : Hid (W.drew.heap[w.heap.size + 1 + 1]? = some (.cells #[.func (Fn.func 13) #[] #[.pointer (some ⟨N + 3, 0, none⟩), .pointer (some ⟨N + 4, 0, none⟩)]] 40 (0, 0))) := by rw [← hW]; exact (alloc3 _ _ _ _).2.2
  have HR : Hid (W.drew.rangeAt b off p) := by simpa [Hid] using r36
  have HL := hide L0
  clear hW S1 S2 hr L0
  go_region_held3 (fun w' => w'.rangeAt b off p ∧ w'.cell? ⟨w.heap.size, 0, none⟩ = some (.slice (some ⟨b, off, none⟩) 1 cap) ∧ w'.cell? ⟨w.heap.size + 1, 0, none⟩ = some (.func (Fn.func 12) #[] #[.pointer (some ⟨N + 5, 0, none⟩), .pointer (some ⟨N + 2, 0, none⟩), .pointer (some ⟨N, 0, none⟩), .pointer (some ⟨N + 1, 0, none⟩)]) ∧ w'.cell? ⟨w.heap.size + 1 + 1, 0, none⟩ = some (.func (Fn.func 13) #[] #[.pointer (some ⟨N + 3, 0, none⟩), .pointer (some ⟨N + 4, 0, none⟩)])) (first | exact ⟨r36, c26, c41, c40⟩ | exact ⟨k2, k3, k4, k5⟩) ((go_at_call 12; refine HL.out.mono ?_; rintro e w' ⟨rfl, hD, hK⟩; have k2 := hK.range HR.out hb sF_N; have k3 := cell_of_one (hK.block _ _ B3.out (by unfold SF; omega) (.inr (by intro cs fr; simp))); have k4 := cell_of_one (hK.block _ _ B4.out (by unfold SF; omega) (.inr (by intro cs fr; simp))); have k5 := cell_of_one (hK.block _ _ B5.out (by unfold SF; omega) (.inr (by intro cs fr; simp)))))
  all_goals
    go_wp2_with fail
    first | go_end0 | refine bodyPost_ret (results_none rfl _ _ _) rfl ?_
    exact ⟨rfl, hD⟩
set_option maxHeartbeats 1000000 in
theorem fetch_more {N : Nat} {af : Option Addr} {lf cf : Nat} {ah : Option Addr} {lh ch : Nat} {F : Nat → Bool} {H : Nat → Int} (hF : ∀ i, lf ≤ i → F i = false) (hH : ∀ i, lh ≤ i → H i = 0) (hlf : lf ≤ 1000000) (hlh : lh ≤ 1000000) (p q : List Value) (r : List (List Value)) (ih : FetchOk N af lf cf ah lh ch F H (q :: r)) : FetchOk N af lf cf ah lh ch F H (p :: q :: r) := by
  intro w c A d a cap hst hpos hcap hcap' hc hd
  rcases hpos with hp | ⟨b, off, rfl, hb, hp⟩
  · simp at hp
  obtain ⟨hpl, hp1, hr⟩ := hp 0 p rfl
  simp only [Nat.mul_zero, Nat.add_zero] at hr
  have hpos' : PosAt N w (some ⟨b, off + 32, none⟩) (q :: r) := .inr ⟨b, off + 32, rfl, hb, fun i p' hp' => by
    have := hp (i + 1) p' (by simpa using hp')
    rw [show off + 32 + 32 * i = off + 32 * (i + 1) from by omega]; exact this⟩
  obtain ⟨n, hn⟩ : ∃ n, (p :: q :: r).length = n := ⟨_, rfl⟩
  have hn' : n = r.length + 2 := by rw [← hn]; simp
  rw [hn] at hcap hc ⊢
  have hu := Try.underlying36
  have hi : (Try.prog.info? 36).map (·.size) = some p.length := by rw [hpl]; kernel_rfl
  have n0 : ((n : Int) == 0) = false := by simp; omega
  have n1 : ((n : Int) == 1) = false := by simp; omega
  have n2 : (0 : Int) < (n : Int) := by omega
  have n3 : 0 < n := by omega
  have Hn := hide hn'
  have HPos := hide hpos'
  have HIh := hide ih
  have HS := hide hst
  have HP1 := hide hp1
  have HPL := hide hpl
  have HF := hide hF
  have HH := hide hH
  clear hst hp1 hpl hF hH hp hn hn' hpos' ih
  go_enter Try.func14, Try.ntmps14
  go_wp2_with fail
  go_name_world W hW
  have r36 : W.rangeAt b off p := by rw [← hW]; exact World.rangeAt_alloc (World.rangeAt_alloc (World.rangeAt_alloc hr _) _) _
  have c26 : W.cell? ⟨w.heap.size, 0, none⟩ = some (.slice (some ⟨b, off, none⟩) n cap) := by rw [← hW]; exact cell_of_one (alloc3 _ _ _ _).1
  have c41 : W.cell? ⟨w.heap.size + 1, 0, none⟩ = some (.func (Fn.func 12) #[] #[.pointer (some ⟨N + 5, 0, none⟩), .pointer (some ⟨N + 2, 0, none⟩), .pointer (some ⟨N, 0, none⟩), .pointer (some ⟨N + 1, 0, none⟩)]) := by rw [← hW]; exact cell_of_one (alloc3 _ _ _ _).2.1
  have c40 : W.cell? ⟨w.heap.size + 1 + 1, 0, none⟩ = some (.func (Fn.func 13) #[] #[.pointer (some ⟨N + 3, 0, none⟩), .pointer (some ⟨N + 4, 0, none⟩)]) := by rw [← hW]; exact cell_of_one (alloc3 _ _ _ _).2.2
  obtain ⟨S1, S2⟩ : St N af lf cf ah lh ch F H W.drew c A d ∧ Kq (SF N) N w W.drew := by rw [← hW]; exact st_boxes HS.out _ _ _
  have hX := HS.out.hX
  have B3 : Hid (W.drew.heap[w.heap.size]? = some (.cells #[.slice (some ⟨b, off, none⟩) n cap] 26 (0, 0))) := by rw [← hW]; exact (alloc3 _ _ _ _).1
  have B4 : Hid (W.drew.heap[w.heap.size + 1]? = some (.cells #[.func (Fn.func 12) #[] #[.pointer (some ⟨N + 5, 0, none⟩), .pointer (some ⟨N + 2, 0, none⟩), .pointer (some ⟨N, 0, none⟩), .pointer (some ⟨N + 1, 0, none⟩)]] 41 (0, 0))) := by rw [← hW]; exact (alloc3 _ _ _ _).2.1
  have B5 : Hid (W.drew.heap[w.heap.size + 1 + 1]? = some (.cells #[.func (Fn.func 13) #[] #[.pointer (some ⟨N + 3, 0, none⟩), .pointer (some ⟨N + 4, 0, none⟩)]] 40 (0, 0))) := by rw [← hW]; exact (alloc3 _ _ _ _).2.2
  have HR : Hid (W.drew.rangeAt b off p) := by simpa [Hid] using r36
  have L0 := lookup_any S1 HF.out HH.out (by omega) hlf hlh p.toArray (by simpa using HPL.out) (by simpa using HP1.out) 15 #[.pointer (some ⟨w.heap.size + 1 + 1, 0, none⟩), .pointer (some ⟨w.heap.size, 0, none⟩), .pointer (some ⟨w.heap.size + 1, 0, none⟩)] call15
    (fun w' => Done N d w w' (fin F H (p :: q :: r) c A) ∧ Kq (SF N) N W.drew w') (fun w1 s1 k1 => by
      have k1F := k1.mono (T := SF N) s25_F
      refine (fetch1_any HIh.out s1 hd Hn.out ((HPos.out.keep S2 sF_N).keep k1F sF_N) (by omega) hcap' (by have := Hn.out; omega)
        (k1F.block _ _ B3.out (by unfold SF; omega) (.inr (by intro cs fr; simp))) (k1F.block _ _ B4.out (by unfold SF; omega) (.inr (by intro cs fr; simp))) (k1F.block _ _ B5.out (by unfold SF; omega) (.inr (by intro cs fr; simp))) hX (by omega) (by omega) true (F c) (H c)).mono ?_
      rintro e w' ⟨rfl, hD⟩
      refine ⟨rfl, ?_, k1F.trans hD.kq⟩
      have := hD.back (S2.trans k1F)
      simpa [fin] using this)
  have HL := hide L0
  clear hW S1 S2 hr L0
  go_region_held3 (fun w' => w'.rangeAt b off p ∧ w'.cell? ⟨w.heap.size, 0, none⟩ = some (.slice (some ⟨b, off, none⟩) n cap) ∧ w'.cell? ⟨w.heap.size + 1, 0, none⟩ = some (.func (Fn.func 12) #[] #[.pointer (some ⟨N + 5, 0, none⟩), .pointer (some ⟨N + 2, 0, none⟩), .pointer (some ⟨N, 0, none⟩), .pointer (some ⟨N + 1, 0, none⟩)]) ∧ w'.cell? ⟨w.heap.size + 1 + 1, 0, none⟩ = some (.func (Fn.func 13) #[] #[.pointer (some ⟨N + 3, 0, none⟩), .pointer (some ⟨N + 4, 0, none⟩)])) (first | exact ⟨r36, c26, c41, c40⟩ | exact ⟨k2, k3, k4, k5⟩) ((go_at_call 12; refine HL.out.mono ?_; rintro e w' ⟨rfl, hD, hK⟩; have k2 := hK.range HR.out hb sF_N; have k3 := cell_of_one (hK.block _ _ B3.out (by unfold SF; omega) (.inr (by intro cs fr; simp))); have k4 := cell_of_one (hK.block _ _ B4.out (by unfold SF; omega) (.inr (by intro cs fr; simp))); have k5 := cell_of_one (hK.block _ _ B5.out (by unfold SF; omega) (.inr (by intro cs fr; simp)))))
  all_goals
    go_wp2_with fail
    first | go_end0 | refine bodyPost_ret (results_none rfl _ _ _) rfl ?_
    exact ⟨rfl, hD⟩

/-- THE CONTRACT OF Fetch, whatever the positions. -/
theorem fetch_any {N : Nat} {af : Option Addr} {lf cf : Nat} {ah : Option Addr} {lh ch : Nat} {F : Nat → Bool} {H : Nat → Int} (hF : ∀ i, lf ≤ i → F i = false) (hH : ∀ i, lh ≤ i → H i = 0) (hlf : lf ≤ 1000000) (hlh : lh ≤ 1000000) : ∀ ps : List (List Value), FetchOk N af lf cf ah lh ch F H ps
  | [] => fetch_nil
  | [p] => fetch_one hF hH hlf hlh p
  | p :: q :: r => fetch_more hF hH hlf hlh p q r (fetch_any hF hH hlf hlh (q :: r))
end Go.Proofs.Qxb6616194a
