/-
  PLAIN LAWS: what a reader of frames finds in a stream of frames (seat b6616642aF). No Go function is entered here.
-/
import Derived.Test.Qxb6616642aFmtRead
namespace Go.Proofs.Qxb6616642aFmt
open Go.Shelf Go.RowKit

theorem dig_at (u t : Nat) (h : t < Lib.nDigits u) : (dig u)[t]? = some ((48 : Int) + ((u / 10 ^ (Lib.nDigits u - 1 - t) % 10 : Nat) : Int)) := by
  unfold dig
  rw [Lib.decDigits_eq]
  simp only [List.getElem?_map, List.map_map, List.getElem?_range h, Option.map_some]
  congr 1
  have hm : u / 10 ^ (Lib.nDigits u - 1 - t) % 10 < 10 := Nat.mod_lt _ (by decide)
  show ((UInt8.ofNat (48 + u / 10 ^ (Lib.nDigits u - 1 - t) % 10)).toNat : Int) = _
  rw [UInt8.toNat_ofNat_of_lt' (by show _ < 256; omega)]
  omega

/-- A frame in a stream, as the reader finds it. -/
theorem bulky_of (pre cs post : List Int) : Bulky (fun i => (pre ++ (frame cs ++ post)).getD i 0) (fun t => cs.length / 10 ^ (Lib.nDigits cs.length - t)) pre.length (Lib.nDigits cs.length) cs.length (pre ++ (frame cs ++ post)).length := by
  obtain ⟨u, hu⟩ : ∃ u, cs.length = u := ⟨_, rfl⟩
  obtain ⟨nd, hnd⟩ : ∃ nd, Lib.nDigits u = nd := ⟨_, rfl⟩
  have hdl : (dig u).length = nd := by rw [dig_length, hnd]
  have hg : ∀ j, (pre ++ (frame cs ++ post)).getD (pre.length + j) 0 = (frame cs ++ post).getD j 0 := fun j => by
    simp only [List.getD_eq_getElem?_getD]
    rw [List.getElem?_append_right (by omega), Nat.add_sub_cancel_left]
  have hfr : frame cs ++ post = 36 :: (dig u ++ (13 :: 10 :: (cs ++ (13 :: 10 :: post)))) := by simp [frame, hu]
  have h1 : ∀ j, (frame cs ++ post).getD (1 + j) 0 = (dig u ++ (13 :: 10 :: (cs ++ (13 :: 10 :: post)))).getD j 0 := fun j => by
    rw [hfr, Nat.add_comm]; rfl
  have h2 : ∀ j, (dig u ++ (13 :: 10 :: (cs ++ (13 :: 10 :: post)))).getD (nd + j) 0 = (13 :: 10 :: (cs ++ (13 :: 10 :: post))).getD j 0 := fun j => by
    simp only [List.getD_eq_getElem?_getD]
    rw [List.getElem?_append_right (by omega), hdl, Nat.add_sub_cancel_left]
  have h3 : ∀ j, (cs ++ (13 :: 10 :: post)).getD (u + j) 0 = (13 :: 10 :: post).getD j 0 := fun j => by
    simp only [List.getD_eq_getElem?_getD]
    rw [List.getElem?_append_right (by omega), hu, Nat.add_sub_cancel_left]
  have hdg : ∀ t, t < nd → (pre ++ (frame cs ++ post)).getD (pre.length + 1 + t) 0 = 48 + ((u / 10 ^ (nd - 1 - t) % 10 : Nat) : Int) := fun t ht => by
    rw [Nat.add_assoc, hg, h1]
    simp only [List.getD_eq_getElem?_getD]
    rw [List.getElem?_append_left (by omega), dig_at u t (by omega), hnd]
    rfl
  rw [hu, hnd]
  have hpow : u < 10 ^ nd := by rw [← hnd]; exact Lib.lt_pow_nDigits u
  have hnd1 : 1 ≤ nd := by
    rw [← hnd]
    by_cases h : u < 10
    · rw [Lib.nDigits_small h]; omega
    · rw [Lib.nDigits_big h]; omega
  constructor
  · have := hg 0; rw [Nat.add_zero] at this; rw [this, hfr]; rfl
  · exact hnd1
  · intro t ht
    rw [hdg t ht]
    have : u / 10 ^ (nd - 1 - t) % 10 < 10 := Nat.mod_lt _ (by decide)
    omega
  · show u / 10 ^ (nd - 0) = 0
    rw [Nat.sub_zero]; exact Nat.div_eq_of_lt hpow
  · intro t ht
    rw [hdg t ht]
    show ((u / 10 ^ (nd - (t + 1)) : Nat) : Int) = ((u / 10 ^ (nd - t) : Nat) : Int) * 10 + _
    rw [show nd - t = (nd - 1 - t) + 1 by omega, show nd - (t + 1) = nd - 1 - t by omega, Nat.pow_succ, ← Nat.div_div_eq_div_mul]
    omega
  · show u / 10 ^ (nd - nd) = u
    rw [Nat.sub_self]; simp
  · intro t _
    exact Nat.div_le_self _ _
  · rw [show pre.length + 1 + nd = pre.length + (1 + (nd + 0)) by omega, hg, h1, h2]; rfl
  · rw [show pre.length + 2 + nd = pre.length + (1 + (nd + 1)) by omega, hg, h1, h2]; rfl
  · rw [show pre.length + 3 + nd + u = pre.length + (1 + (nd + (2 + (u + 0)))) by omega, hg, h1, h2]
    have : (13 :: 10 :: (cs ++ (13 :: 10 :: post))).getD (2 + (u + 0)) 0 = (cs ++ (13 :: 10 :: post)).getD (u + 0) 0 := by rw [Nat.add_comm 2]; rfl
    rw [this, h3]; rfl
  · rw [show pre.length + 4 + nd + u = pre.length + (1 + (nd + (2 + (u + 1)))) by omega, hg, h1, h2]
    have : (13 :: 10 :: (cs ++ (13 :: 10 :: post))).getD (2 + (u + 1)) 0 = (cs ++ (13 :: 10 :: post)).getD (u + 1) 0 := by rw [Nat.add_comm 2]; rfl
    rw [this, h3]; rfl
  · rw [hfr]; simp; omega

theorem frame_len (cs : List Int) : (frame cs).length = cs.length + Lib.nDigits cs.length + 5 := by simp [frame, dig_length]; omega

/-- The body of a frame in a stream. -/
theorem body_of {w : World} {g : Nat} {pre cs post : List Int} (h : At w g 0 (pre ++ (frame cs ++ post))) : At w g (pre.length + 3 + Lib.nDigits cs.length) cs := by
  intro i hi
  have hfr : pre ++ (frame cs ++ post) = (pre ++ (36 :: (dig cs.length ++ [13, 10]))) ++ (cs ++ ([13, 10] ++ post)) := by simp [frame]
  have hl : (pre ++ (36 :: (dig cs.length ++ [13, 10]))).length = pre.length + 3 + Lib.nDigits cs.length := by simp [dig_length]; omega
  have := h (pre.length + 3 + Lib.nDigits cs.length + i) (by rw [hfr, List.length_append, hl]; simp; omega)
  rw [Nat.zero_add] at this
  rw [this, hfr]
  congr 2
  simp only [List.getD_eq_getElem?_getD]
  rw [List.getElem?_append_right (by omega), hl, Nat.add_sub_cancel_left, List.getElem?_append_left hi]
end Go.Proofs.Qxb6616642aFmt
