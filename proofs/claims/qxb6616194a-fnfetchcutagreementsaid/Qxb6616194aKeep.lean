/-
  PLAIN LAWS ON WORLDS for the Fetch laws (seat b6616194a): what a lookup, a done and a Fetch leave as it was; the state that the closures share. No walk. No Go function is entered here.
-/
import Derived.WalkKit
import Derived.ProofKit
import Derived.Deep.MidRow
import Derived.Deep.AppendLies
namespace Go.Proofs.Qxb6616194a
open Go.RowKit

/-- The object is no row of type 36 (keyspace.ID): not one that the slice of asked positions may lie in. -/
def nr (o : Obj) : Prop := ∀ cs fr, o ≠ .cells cs 36 fr

/-- Blocks outside S, below N + 6 or no row of type 36, are as they were. -/
structure Kq (S : Nat → Prop) (N : Nat) (w w' : World) : Prop where
  os : w'.os = w.os
  tape : w'.tape = w.tape
  output : w'.output = w.output
  size : w.heap.size ≤ w'.heap.size
  block : ∀ k o, w.heap[k]? = some o → ¬ S k → (k < N + 6 ∨ nr o) → w'.heap[k]? = some o

theorem Kq.refl (S : Nat → Prop) (N : Nat) (w : World) : Kq S N w w := ⟨rfl, rfl, rfl, Nat.le_refl _, fun _ _ h _ _ => h⟩
theorem Kq.trans {S : Nat → Prop} {N : Nat} {a b c : World} (h : Kq S N a b) (k : Kq S N b c) : Kq S N a c :=
  ⟨k.os.trans h.os, k.tape.trans h.tape, k.output.trans h.output, Nat.le_trans h.size k.size, fun i o h1 h2 h3 => k.block i o (h.block i o h1 h2 h3) h2 h3⟩
theorem Kq.mono {S T : Nat → Prop} {N : Nat} {a b : World} (h : Kq S N a b) (hs : ∀ k, S k → T k) : Kq T N a b :=
  ⟨h.os, h.tape, h.output, h.size, fun i o h1 h2 h3 => h.block i o h1 (fun e => h2 (hs i e)) h3⟩
theorem Kq.drew {S : Nat → Prop} {N : Nat} {a b : World} (h : Kq S N a b) : Kq S N a b.drew := ⟨h.os, h.tape, h.output, h.size, h.block⟩
theorem lt_of_heap {w : World} {k : Nat} {o : Obj} (h : w.heap[k]? = some o) : k < w.heap.size := (Array.getElem?_eq_some_iff.1 h).1
theorem Kq.alloc {S : Nat → Prop} {N : Nat} {a b : World} (h : Kq S N a b) (o : Obj) : Kq S N a (b.alloc o) :=
  h.trans ⟨rfl, rfl, rfl, by simp, fun k _ hk _ _ => by rw [Below.heap_alloc _ _ _ (lt_of_heap hk)]; exact hk⟩
theorem Kq.setCell {S : Nat → Prop} {N : Nat} {a b : World} (h : Kq S N a b) {p : Addr} (hp : S p.block) (u : Value) : Kq S N a (b.setCell p u) :=
  h.trans ⟨rfl, rfl, rfl, by simp [World.setCell], fun k o hk hs _ => by
    have e : k ≠ p.block := fun e => by subst e; exact hs hp
    rw [Below.heap_setCell _ _ _ _ e]; exact hk⟩
theorem Kq.grown {S : Nat → Prop} {N : Nat} {a b c : World} {row : Option Nat} (h : Kq S N a b) (hg : b.grownBy c row) (hr : ∀ k, row = some k → N + 6 ≤ k ∧ ∃ cs fr, b.heap[k]? = some (.cells cs 36 fr)) : Kq S N a c :=
  h.trans ⟨hg.os, hg.tape, hg.output, hg.size, fun k o hk _ h3 => by
    rw [hg.block k (lt_of_heap hk) (fun e => ?_)]; exact hk
    obtain ⟨h4, cs, fr, h5⟩ := hr k e.symm
    rcases h3 with h3 | h3
    · omega
    · rw [hk] at h5; exact h3 cs fr (by simpa using h5)⟩
theorem Kq.below {S : Nat → Prop} {N : Nat} {a b : World} (h : Kq S N a b) (hs : ∀ k, S k → N ≤ k) (hN : N ≤ a.heap.size) : Below N a b :=
  ⟨h.os, h.tape, h.output, h.size, fun k hk => by
    have e : a.heap[k]? = some a.heap[k] := Array.getElem?_eq_getElem (by omega)
    rw [e]; exact h.block k _ e (fun e => by have := hs k e; omega) (.inl (by omega))⟩
theorem Kq.cell {S : Nat → Prop} {N : Nat} {a b : World} (h : Kq S N a b) {x : Addr} {v : Value} (hv : a.cell? x = some v) (hb : x.block < N) (hs : ∀ k, S k → N ≤ k) : b.cell? x = some v := by
  have hl := World.block_lt_of_cell? a x hv
  have e : a.heap[x.block]? = some a.heap[x.block] := Array.getElem?_eq_getElem hl
  rw [← hv]
  exact World.cell?_of_block (by rw [h.block _ _ e (fun e => by have := hs _ e; omega) (.inl (by omega)), e])
theorem Kq.range {S : Nat → Prop} {N : Nat} {a b : World} (h : Kq S N a b) {g o : Nat} {cs : List Value} (hv : a.rangeAt g o cs) (hb : g < N) (hs : ∀ k, S k → N ≤ k) : b.rangeAt g o cs :=
  fun j v hj => h.cell (hv j v hj) hb hs

/-- All blocks outside S are as they were. -/
structure Kf (S : Nat → Prop) (w w' : World) : Prop where
  os : w'.os = w.os
  tape : w'.tape = w.tape
  output : w'.output = w.output
  size : w.heap.size ≤ w'.heap.size
  block : ∀ k o, w.heap[k]? = some o → ¬ S k → w'.heap[k]? = some o
theorem Kf.refl (S : Nat → Prop) (w : World) : Kf S w w := ⟨rfl, rfl, rfl, Nat.le_refl _, fun _ _ h _ => h⟩
theorem Kf.trans {S : Nat → Prop} {a b c : World} (h : Kf S a b) (k : Kf S b c) : Kf S a c :=
  ⟨k.os.trans h.os, k.tape.trans h.tape, k.output.trans h.output, Nat.le_trans h.size k.size, fun i o h1 h2 => k.block i o (h.block i o h1 h2) h2⟩
theorem Kf.alloc {S : Nat → Prop} {a b : World} (h : Kf S a b) (o : Obj) : Kf S a (b.alloc o) :=
  h.trans ⟨rfl, rfl, rfl, by simp, fun k _ hk _ => by rw [Below.heap_alloc _ _ _ (lt_of_heap hk)]; exact hk⟩
theorem Kf.setCell {S : Nat → Prop} {a b : World} (h : Kf S a b) {p : Addr} (hp : S p.block) (u : Value) : Kf S a (b.setCell p u) :=
  h.trans ⟨rfl, rfl, rfl, by simp [World.setCell], fun k o hk hs => by
    have e : k ≠ p.block := fun e => by subst e; exact hs hp
    rw [Below.heap_setCell _ _ _ _ e]; exact hk⟩
theorem Kf.toKq {S : Nat → Prop} {N : Nat} {a b : World} (h : Kf S a b) : Kq S N a b := ⟨h.os, h.tape, h.output, h.size, fun k o h1 h2 _ => h.block k o h1 h2⟩

/-- The row that a slice of asked positions lies in is a row of type 36 from N + 6 on. -/
theorem owns_row {w : World} {N size : Nat} {v : Value} {n : Nat} {xs : List Value} (h : w.ownsRow (N + 6) 36 size v n xs) : ∀ k, v.ownBlock = some k → N + 6 ≤ k ∧ ∃ cs fr, w.heap[k]? = some (.cells cs 36 fr) := by
  intro k hk
  rcases h.2 with ⟨rfl, _⟩ | ⟨g, cap, cur, rfl, hb, hg, _⟩
  · simp [Value.ownBlock] at hk
  · simp [Value.ownBlock] at hk; subst hk; exact ⟨hb, cur, _, hg⟩
theorem owns_ne {w : World} {N size : Nat} {v : Value} {n : Nat} {xs : List Value} (h : w.ownsRow (N + 6) 36 size v n xs) {k : Nat} (hk : k < N + 6) : some k ≠ v.ownBlock := by
  intro e; have := (owns_row h k e.symm).1; omega
theorem owns_carry {N size : Nat} {a b : World} {v : Value} {n : Nat} {xs : List Value} (h : a.ownsRow (N + 6) 36 size v n xs) (hb : ∀ g, v.ownBlock = some g → b.heap[g]? = a.heap[g]?) : b.ownsRow (N + 6) 36 size v n xs := by
  refine ⟨h.1, ?_⟩
  rcases h.2 with h2 | ⟨g, cap, cur, rfl, hb2, hg, r⟩
  · exact .inl h2
  · exact .inr ⟨g, cap, cur, rfl, hb2, by rw [hb g rfl]; exact hg, r⟩

/-- A block of five cells (node.Result). -/
theorem five_cell {w : World} {b : Nat} {g0 g1 g2 g3 g4 : Value} {t : TypeId} (h : w.heap[b]? = some (.cells #[g0, g1, g2, g3, g4] t (0, 0))) :
    w.cell? ⟨b, 0, none⟩ = some g0 ∧ w.cell? ⟨b, 1, none⟩ = some g1 ∧ w.cell? ⟨b, 2, none⟩ = some g2 ∧ w.cell? ⟨b, 3, none⟩ = some g3 ∧ w.cell? ⟨b, 4, none⟩ = some g4 ∧ ∀ j, w.frozen? ⟨b, j, none⟩ = false := by
  refine ⟨?_, ?_, ?_, ?_, ?_, fun j => ?_⟩ <;> first | simp [World.cell?, h] | simp [World.frozen?, h]
theorem row_set {w : World} {b i : Nat} {cs : Array Value} {t : TypeId} {u : Value} (h : w.heap[b]? = some (.cells cs t (0, 0))) : (w.setCell ⟨b, i, none⟩ u).heap[b]? = some (.cells (cs.setIfInBounds i u) t (0, 0)) :=
  heap_setCell_same w b i cs t u h
theorem set_far {w : World} {b : Nat} {a : Addr} {u : Value} (h : b ≠ a.block) : (w.setCell a u).heap[b]? = w.heap[b]? := Below.heap_setCell _ _ _ _ h

/-- THE STATE THAT ZZFetchB1's CLOSURES SHARE: found and hops boxed at N, N + 1; asked (c positions, their cells A) at N + 2; doneCalls (d) at N + 3; got at N + 4; calls (c) at N + 5. 'F', 'H': what found and hops hold. -/
structure St (N : Nat) (af : Option Addr) (lf cf : Nat) (ah : Option Addr) (lh ch : Nat) (F : Nat → Bool) (H : Nat → Int) (w : World) (c : Nat) (A : List Value) (d : Int) : Prop where
  hX : N + 6 ≤ w.heap.size
  k0 : w.heap[N]? = some (.cells #[.slice af lf cf] 23 (0, 0))
  k1 : w.heap[N + 1]? = some (.cells #[.slice ah lh ch] 24 (0, 0))
  k2 : ∃ va, w.heap[N + 2]? = some (.cells #[va] 26 (0, 0)) ∧ w.ownsRow (N + 6) 36 32 va c A
  k3 : w.heap[N + 3]? = some (.cells #[.int .i64 d] 3 (0, 0))
  k4 : ∃ g0 g1 g2 g3 g4, w.heap[N + 4]? = some (.cells #[g0, g1, g2, g3, g4] 31 (0, 0))
  k5 : w.heap[N + 5]? = some (.cells #[.int .i64 c] 3 (0, 0))
  fc : ∀ i, i < lf → ∃ b off, af = some ⟨b, off, none⟩ ∧ b < N ∧ w.cell? ⟨b, off + i, none⟩ = some (.bool (F i))
  hc : ∀ i, i < lh → ∃ b off, ah = some ⟨b, off, none⟩ ∧ b < N ∧ w.cell? ⟨b, off + i, none⟩ = some (.int .i64 (H i))

/-- The blocks that a lookup writes beside the row: calls and asked. -/
def S25 (N k : Nat) : Prop := k = N + 2 ∨ k = N + 5
/-- .. that a done writes: doneCalls and got. -/
def S34 (N k : Nat) : Prop := k = N + 3 ∨ k = N + 4
/-- .. that a Fetch writes. -/
def SF (N k : Nat) : Prop := k = N + 2 ∨ k = N + 3 ∨ k = N + 4 ∨ k = N + 5
theorem s25_F {N : Nat} : ∀ k, S25 N k → SF N k := fun k h => by unfold S25 at h; unfold SF; omega
theorem s34_F {N : Nat} : ∀ k, S34 N k → SF N k := fun k h => by unfold S34 at h; unfold SF; omega
theorem s25_N {N : Nat} : ∀ k, S25 N k → N ≤ k := fun k h => by unfold S25 at h; omega
theorem s34_N {N : Nat} : ∀ k, S34 N k → N ≤ k := fun k h => by unfold S34 at h; omega
theorem sF_N {N : Nat} : ∀ k, SF N k → N ≤ k := fun k h => by unfold SF at h; omega

/-- The state behind anything that leaves all but the calls and the asked as they were. -/
theorem St.next {N : Nat} {af : Option Addr} {lf cf : Nat} {ah : Option Addr} {lh ch : Nat} {F : Nat → Bool} {H : Nat → Int} {w w1 : World} {c : Nat} {A : List Value} {d : Int} (h : St N af lf cf ah lh ch F H w c A d) (hk : Kq (S25 N) N w w1)
    {c' : Nat} {A' : List Value} (k2 : ∃ va, w1.heap[N + 2]? = some (.cells #[va] 26 (0, 0)) ∧ w1.ownsRow (N + 6) 36 32 va c' A') (k5 : w1.heap[N + 5]? = some (.cells #[.int .i64 c'] 3 (0, 0))) : St N af lf cf ah lh ch F H w1 c' A' d where
  hX := Nat.le_trans h.hX hk.size
  k0 := hk.block _ _ h.k0 (by unfold S25; omega) (.inl (by omega))
  k1 := hk.block _ _ h.k1 (by unfold S25; omega) (.inl (by omega))
  k2 := k2
  k3 := hk.block _ _ h.k3 (by unfold S25; omega) (.inl (by omega))
  k4 := by obtain ⟨g0, g1, g2, g3, g4, h4⟩ := h.k4; exact ⟨g0, g1, g2, g3, g4, hk.block _ _ h4 (by unfold S25; omega) (.inl (by omega))⟩
  k5 := k5
  fc := fun i hi => by obtain ⟨b, off, e, hb, hc⟩ := h.fc i hi; exact ⟨b, off, e, hb, hk.cell hc hb s25_N⟩
  hc := fun i hi => by obtain ⟨b, off, e, hb, hc⟩ := h.hc i hi; exact ⟨b, off, e, hb, hk.cell hc hb s25_N⟩

/-- The state behind a new block, behind a draw. -/
theorem St.alloc {N : Nat} {af : Option Addr} {lf cf : Nat} {ah : Option Addr} {lh ch : Nat} {F : Nat → Bool} {H : Nat → Int} {w : World} {c : Nat} {A : List Value} {d : Int} (h : St N af lf cf ah lh ch F H w c A d) (o : Obj) : St N af lf cf ah lh ch F H (w.alloc o) c A d := by
  have hX := h.hX
  refine h.next ((Kq.refl _ _ _).alloc o) ?_ ?_
  · obtain ⟨va, h1, h2⟩ := h.k2
    exact ⟨va, by rw [Below.heap_alloc _ _ _ (by omega)]; exact h1, h2.alloc o⟩
  · rw [Below.heap_alloc _ _ _ (by omega)]; exact h.k5
theorem St.drew {N : Nat} {af : Option Addr} {lf cf : Nat} {ah : Option Addr} {lh ch : Nat} {F : Nat → Bool} {H : Nat → Int} {w : World} {c : Nat} {A : List Value} {d : Int} (h : St N af lf cf ah lh ch F H w c A d) : St N af lf cf ah lh ch F H w.drew c A d :=
  ⟨h.hX, h.k0, h.k1, h.k2, h.k3, h.k4, h.k5, h.fc, h.hc⟩
end Go.Proofs.Qxb6616194a
