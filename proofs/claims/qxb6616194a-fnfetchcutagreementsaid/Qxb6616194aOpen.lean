/-
  THE ARGUMENTS OF THE FETCH LAWS OPENED (seat b6616194a): a slice of [32]byte, of bool, of int, as the walks are told of them.
-/
import Derived.Test.Qxb6616194aPlain
import Derived.Deep.Grids
import Derived.OpenShut
namespace Go.Proofs.Qxb6616194a
open Go.ChangeShapes Go.WideShapes Go.ChangeAt Go.RowKit
set_option linter.unusedVariables false

/-- found | hops as it came in: nil, or a row of cells. -/
def Came {α : Type} (w : World) (a : Option Addr) (len cap : Nat) (mk : α → Value) (X : Nat → α) : Prop := RowOf w a len mk X ∧ (a = none → len = 0 ∧ cap = 0) ∧ len ≤ cap ∧ cap ≤ 9223372036854775807
/-- positions as they came in. -/
def CamePos (w : World) (a0 : Option Addr) (n c0 : Nat) (P : Nat → List Value) : Prop := n ≤ c0 ∧ c0 ≤ 9223372036854775807 ∧ (a0 = none → n = 0 ∧ c0 = 0) ∧ (∀ i, i < n → Byt (P i)) ∧
  (n = 0 ∨ ∃ b off, a0 = some ⟨b, off, none⟩ ∧ ∀ i, i < n → (P i).length = 32 ∧ (∀ v ∈ P i, v.oneCell' = true) ∧ w.rangeAt b (off + i * 32) (P i))

theorem spot_of {w : World} {a : Addr} {v : Value} (h : w.cell? a = some v) : ∃ b off, a = ⟨b, off, none⟩ := by
  obtain ⟨b, off, sp⟩ := a
  have : sp = none := by simpa using World.cell?_spot h
  exact ⟨b, off, by rw [this]⟩

theorem rowOf_add {α : Type} {w : World} {x : Addr} {len : Nat} {mk : α → Value} {X : Nat → α} (h : ∀ i, i < len → w.cell? (x.add i) = some (mk (X i))) : RowOf w (some x) len mk X := by
  intro i hi
  obtain ⟨b, off, sp⟩ := x
  have h0 := h 0 (by omega)
  have : sp = none := by simpa [Addr.add] using World.cell?_spot h0
  subst this
  exact ⟨b, off, rfl, by rw [← Addr.add_mid]; exact h i hi⟩

theorem came_bools {H : Type} {enc : TypeId × Value → H} {w : World} {held : Bool} {fuel : Nat} {a : Option Addr} {len cap : Nat} {x : DataW H × List MemPlace}
    (h : DataW.trod enc Try.prog w 0 (fun _ => true) held fuel 23 [.slice a len cap] = some x) : ∃ F : Nat → Bool, Came w a len cap Value.bool F ∧ ∀ i, len ≤ i → F i = false := by
  rcases Deep.open_bools Try.underlying23 Try.underlying4 (by kernel_rfl) h with ⟨hcs, _⟩ | ⟨y, l, c, B, hcs, _, hl, hm, _, hcell⟩
  · simp only [List.cons.injEq, Value.slice.injEq, and_true] at hcs
    obtain ⟨rfl, rfl, rfl⟩ := hcs
    exact ⟨fun _ => false, ⟨fun i hi => by omega, fun _ => ⟨rfl, rfl⟩, by omega, by omega⟩, fun _ _ => rfl⟩
  · simp only [List.cons.injEq, Value.slice.injEq, and_true] at hcs
    obtain ⟨rfl, rfl, rfl⟩ := hcs
    unfold maxLen at hm
    refine ⟨fun i => if i < len then B i else false, ⟨rowOf_add fun i hi => ?_, by simp, hl, by omega⟩, fun i hi => if_neg (by omega)⟩
    rw [if_pos hi]; exact hcell i (by omega)

theorem came_ints {H : Type} {enc : TypeId × Value → H} {w : World} {held : Bool} {fuel : Nat} {a : Option Addr} {len cap : Nat} {x : DataW H × List MemPlace}
    (h : DataW.trod enc Try.prog w 0 (fun _ => true) held fuel 24 [.slice a len cap] = some x) : ∃ X : Nat → Int, Came w a len cap (Value.int .i64) X ∧ ∀ i, len ≤ i → X i = 0 := by
  rcases open_ints Try.underlying24 Try.underlying3 (by kernel_rfl) h with ⟨hcs, _⟩ | ⟨y, l, c, zs, hcs, _, hl, hm, hz, _, hcell, _⟩
  · simp only [List.cons.injEq, Value.slice.injEq, and_true] at hcs
    obtain ⟨rfl, rfl, rfl⟩ := hcs
    exact ⟨fun _ => 0, ⟨fun i hi => by omega, fun _ => ⟨rfl, rfl⟩, by omega, by omega⟩, fun _ _ => rfl⟩
  · simp only [List.cons.injEq, Value.slice.injEq, and_true] at hcs
    obtain ⟨rfl, rfl, rfl⟩ := hcs
    unfold maxLen at hm
    simp only [if_true] at hz
    refine ⟨fun i => if i < len then zs.getD i 0 else 0, ⟨rowOf_add fun i hi => ?_, by simp, hl, by omega⟩, fun i hi => if_neg (by omega)⟩
    rw [if_pos hi]; exact hcell i (by omega)

theorem byt_of_trod {H : Type} {enc : TypeId × Value → H} {w : World} {held : Bool} {sp : Nat → Bool} {fuel : Nat} {cs : List Value} {x : DataW H × List MemPlace}
    (h : DataW.trod enc Try.prog w 0 sp held fuel 35 cs = some x) : Byt cs := by
  obtain ⟨xs, m, _, _, hl, hn, hx⟩ := DataW.trod_array Try.underlying35 h
  rw [Try.cells35] at hl
  refine ⟨hl, fun v hv => ?_⟩
  obtain ⟨i, hi, rfl⟩ := List.getElem_of_mem hv
  have h1 := hx i (by omega)
  rw [Try.cells5, Nat.mul_one, List.drop_eq_getElem_cons hi, List.take_succ_cons, List.take_zero] at h1
  rw [List.getElem?_eq_getElem (by omega)] at h1
  obtain ⟨z, hz, _, hw⟩ := DataW.trod_int Try.underlying5 h1
  simp only [List.cons.injEq, and_true] at hz
  exact ⟨z, hz, hw⟩

theorem came_pos {H : Type} {enc : TypeId × Value → H} {w : World} {held : Bool} {fuel : Nat} {a : Option Addr} {len cap : Nat} {x : DataW H × List MemPlace}
    (h : DataW.trod enc Try.prog w 0 (fun _ => true) held fuel 22 [.slice a len cap] = some x) : ∃ P : Nat → List Value, CamePos w a len cap P := by
  rcases Deep.open_slice Try.underlying22 h with ⟨hcs, _⟩ | ⟨y, l, c, m, n, D, Pl, hcs, _, hl, hm, hmm, _, hx⟩
  · simp only [List.cons.injEq, Value.slice.injEq, and_true] at hcs
    obtain ⟨rfl, rfl, rfl⟩ := hcs
    exact ⟨fun _ => [], by omega, by omega, fun _ => ⟨rfl, rfl⟩, fun i hi => by omega, .inl rfl⟩
  · simp only [List.cons.injEq, Value.slice.injEq, and_true] at hcs
    obtain ⟨rfl, rfl, rfl⟩ := hcs
    unfold maxLen at hm
    simp only [if_true] at hmm
    subst hmm
    obtain ⟨P, hP⟩ := Deep.choose_lt hx
    rw [Try.cells35] at hP
    have hB : ∀ i, i < len → Byt (P i) := fun i hi => byt_of_trod (hP i (by omega)).2
    have hc : ∀ i, i < len → ∀ j v, (P i)[j]? = some v → w.cell? (y.add (i * 32 + j)) = some v := fun i hi j v hj => by
      obtain ⟨_, hlen, hcell⟩ := World.cells?_some (hP i (by omega)).1
      have hj' := (List.getElem?_eq_some_iff.1 hj).1
      rw [← Deep.add_add, hcell j (by omega)]; exact hj
    refine ⟨P, hl, by omega, by simp, hB, ?_⟩
    by_cases h0 : len = 0
    · exact .inl h0
    · right
      have h00 : (P 0).length = 32 := (hB 0 (by omega)).1
      have hc0 := hc 0 (by omega) 0 _ (List.getElem?_eq_getElem (by omega))
      obtain ⟨b, off, sp⟩ := y
      have : sp = none := by simpa [Addr.add] using World.cell?_spot hc0
      subst this
      refine ⟨b, off, rfl, fun i hi => ⟨(hB i hi).1, (hB i hi).one, fun j v hj => ?_⟩⟩
      have := hc i hi j v hj
      rw [Addr.add_mid] at this
      rw [Nat.add_assoc]; exact this
end Go.Proofs.Qxb6616194a
