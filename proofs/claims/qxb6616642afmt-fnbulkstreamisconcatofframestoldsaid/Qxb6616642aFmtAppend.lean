/-
  strconv.AppendInt (and what it calls) ONTO A SLICE THAT IS APPENDED TO AGAIN AND AGAIN, wherever it lies (seat b6616642aF): over the guide's relation 'Upon'. The digits by the shelf's contracts for small, numDigits, formatBase10.
-/
import Derived.Test.Qxb6616642aFmtShelf
import Derived.Test.Qxb6616642aFmtRows
import Derived.Lib.Walk
import Derived.Lib.ItoaWalk
import Derived.Lib.ItoaMem
import Derived.Lib.AppendIntMem
import Derived.Lib.Slices
import Derived.Lib.Hide
import Derived.OwnWalk
import Derived.WalkKit
import Derived.ProofKit
import Derived.BigCall
import Derived.BigGuard
import Derived.CellFam
import Derived.Deep.Upon
namespace Go.Proofs.Qxb6616642aFmt
open Go.Shelf Go.RowKit Go.Sort Go.Lib

/-- Bytes as cells, out of numbers. -/
def ic (l : List Int) : List Value := l.map fun z => Value.int .u8 z
/-- n's decimal digits, as numbers. -/
def dig (n : Nat) : List Int := (Lib.decDigits n).map fun b => (b.toNat : Int)
theorem ic_dig (n : Nat) : ic (dig n) = Lib.byteCells (Lib.decDigits n) := by simp [ic, dig, Lib.byteCells]
theorem ic_append (a b : List Int) : ic (a ++ b) = ic a ++ ic b := by simp [ic]
@[simp] theorem ic_length (a : List Int) : (ic a).length = a.length := by simp [ic]
theorem ic_one (a : List Int) : ∀ u ∈ ic a, u.oneCell' = true := by
  intro u hu
  simp only [ic, List.mem_map] at hu
  obtain ⟨z, _, rfl⟩ := hu
  rfl
theorem dig_length (n : Nat) : (dig n).length = Lib.nDigits n := by simp [dig, Lib.decDigits_length]

theorem nd_le (u : Nat) (h : u < 18446744073709551616) : Lib.nDigits u ≤ 20 := by
  by_cases h0 : u < 10
  · rw [Lib.nDigits_small h0]; omega
  · have := Lib.numDigits_eq u (by omega) h; split at this <;> omega

/-- What an append leaves of an 'Upon': as the walk is handed it, with its last number hidden. -/
def Up (W : World) (ao : Option Addr) (b off cap : Nat) (w : World) (v : Value) (ks : List Int) : Prop := ∃ r, Upon W 5 1 ao b off 0 cap [] w v ks.length (ic ks) r


theorem infoByte : ∃ i, Tryf.prog.info? 5 = some i ∧ i.zero = some (.int .u8 0) ∧ i.size = 1 ∧ i.bytes = 1 := info_parts (by kernel_rfl)
theorem und22 : Tryf.prog.underlying 22 = some (.slice 5) := Tryf.underlying22
theorem und9 : Tryf.prog.underlying 9 = some .string := Tryf.underlying9

/-- The name of the table of powers, as the rows list it. -/
def powName : String := Rows.fnNullFramesReadBackRow.named.headD ""
/-- internal/strconv.numDigits, at a d that is not 0: the number of d's decimal digits (the shelf's contract, laid by the kit's tool; the table by 'powName'). -/
theorem numDigits_any (u : Nat) (h1 : 1 ≤ u) (h2 : u < 18446744073709551616) (w : World) (htab : Lib.TabIs Tryf.prog w powName .u64 Lib.pow10Tab) :
    Calls Tryf.prog 47 #[.int .u64 u] w fun e w' => e = .returned (.int .i64 (Lib.nDigits u)) ∧ w' = w := Any.internal_strconv_numDigits Tryf.laysM284 u h1 h2 w htab

/-- The table of powers reads as laid, in every world that has the blocks below N as they are here. -/
def TabK (N : Nat) (w : World) : Prop := ∀ w', (∀ k, k < N → w'.heap[k]? = w.heap[k]?) → Lib.TabIs Tryf.prog w' powName .u64 Lib.pow10Tab
theorem TabK.on {N : Nat} {w w1 : World} (h : TabK N w) (hb : ∀ k, k < N → w1.heap[k]? = w.heap[k]?) : TabK N w1 := fun w' h' => h w' fun k hk => (h' k hk).trans (hb k hk)

section
variable {W w : World} {ao : Option Addr} {b off cap : Nat} {v : Value} {ks : List Int}


theorem Up.block (h : Up W ao b off cap w v ks) (k : Nat) (hk : k < W.heap.size) (hb : k ≠ b) : w.heap[k]? = W.heap[k]? := by
  obtain ⟨r, h⟩ := h
  exact h.kept.block hk (fun p ⟨j, _, e⟩ => by subst e; exact fun e => hb e.symm)
theorem Up.size (h : Up W ao b off cap w v ks) : W.heap.size ≤ w.heap.size := by obtain ⟨r, h⟩ := h; exact h.kept.size
theorem Up.start (hc : Came W 1 ao b off 0 cap []) : Up W ao b off cap W (.slice ao 0 cap) [] := ⟨0, Upon.start hc⟩
theorem Up.alloc (hc : Came W 1 ao b off 0 cap []) (h : Up W ao b off cap w v ks) (o : Obj) : Up W ao b off cap (w.alloc o) v ks := by obtain ⟨r, h⟩ := h; exact ⟨r, h.alloc hc o⟩
theorem Up.drew (hc : Came W 1 ao b off 0 cap []) (h : Up W ao b off cap w v ks) : Up W ao b off cap w.drew v ks := by obtain ⟨r, h⟩ := h; exact ⟨r, h.drew hc⟩
theorem Up.carry {w' : World} (hc : Came W 1 ao b off 0 cap []) (h : Up W ao b off cap w v ks) (hos : w'.os = w.os) (hout : w'.output = w.output) (hb : ∀ i, i < w.heap.size → w'.heap[i]? = w.heap[i]?) : Up W ao b off cap w' v ks := by
  have hz := h.size
  obtain ⟨r, h⟩ := h; exact ⟨r, h.carry hc hos hout (fun i hi => hb i (by omega)) (fun g _ hg => hb g hg)⟩

/-- ONE LAW OF append FOR THE WALK: whatever source. -/
theorem wpList_up (w : World) {ops : Array Oper} {rest : List Oper} {o : Oper} {a : Act} {Q : Exit → Act → World → Prop} (hc : Came W 1 ao b off 0 cap []) {v : Value} {ks : List Int} (h : Up W ao b off cap w v ks)
    (hgd : o.guard = none) (s x : Operand) (tx : TypeId) (ho : o.op = .call { callee := .builtin .append, args := #[s, x], argTypes := #[22, tx] }) (hv : a.eval s = v) (xv : Value) (news : List Int) (hx : a.eval x = xv)
    (hs : Src Tryf.prog 1 tx xv news.length (ic news) w) (hlim : ks.length + news.length ≤ 2000000)
    (hK : ∀ v' w', Up W ao b off cap w' v' (ks ++ news) → wpList Tryf.prog ops Q rest (a.put o.dst v') w') : wpList Tryf.prog ops Q (o :: rest) a w := by
  obtain ⟨i0, hi, hz0, hz1, hz2⟩ := infoByte
  obtain ⟨r, h⟩ := h
  refine wpList_append_upon w hgd s x 22 tx ho hc i0 (.int .u8 0) 1 und22 hi hz0 hz1 hz2 rfl hv h xv news.length (ic news) hx hs (by unfold maxLen; omega) (by omega) fun v' w' hu => hK v' w' ⟨Upon.next 0 cap 1 ks.length r news.length, ?_⟩
  rw [ic_append, List.length_append]
  exact hu

set_option maxHeartbeats 6400000 in
set_option maxRecDepth 100000 in
theorem au_small (hc : Came W 1 ao b off 0 cap []) (ks : List Int) (v : Value) (w : World) (h : Up W ao b off cap w v ks) (u : Nat) (hu : u < 100) (hlim : ks.length ≤ 1000000) :
    Calls Tryf.prog 44 #[v, .int .u64 u, .int .i64 10] w fun e w' => ∃ v', e = .returned v' ∧ Up W ao b off cap w' v' (ks ++ dig u) := by
  have hsz : (⟨(Lib.decDigits u).toArray⟩ : ByteArray).size = (dig u).length := by simp [ByteArray.size, dig]
  have hd : (dig u).length ≤ 20 := by rw [dig_length]; exact nd_le u (by omega)
  have hS : ∀ W', Src Tryf.prog 1 9 (.string ⟨(Lib.decDigits u).toArray⟩) (dig u).length (ic (dig u)) W' := fun W' => by
    have := Src.ofString (P := Tryf.prog) W' und9 ⟨(Lib.decDigits u).toArray⟩
    rw [hsz] at this
    rw [ic_dig]
    exact this
  go_enter Tryf.func44, Tryf.ntmps44
  go_wp2_with (first
    | (go_at_call 46; refine (Tryf.internal_strconv_small u hu _).mono ?_; rintro e w' ⟨rfl, rfl⟩)
    | (at_builtin; refine wpList_up _ hc h rfl _ _ 9 rfl rfl _ (dig u) rfl (hS _) (by omega) ?_))
  intro v' w1 hup
  go_wp2
  go_ret
  exact ⟨_, rfl, hup⟩

set_option maxHeartbeats 12800000 in
set_option maxRecDepth 100000 in
theorem au_big (hc : Came W 1 ao b off 0 cap []) (ks : List Int) (v : Value) (w : World) (h : Up W ao b off cap w v ks) (u : Nat) (hu : 100 ≤ u) (hu64 : u < 18446744073709551616) (hlim : ks.length ≤ 1000000) {N : Nat} (hN : N ≤ w.heap.size) (htab : TabK N w) :
    Calls Tryf.prog 44 #[v, .int .u64 u, .int .i64 10] w fun e w' => ∃ v', e = .returned v' ∧ Up W ao b off cap w' v' (ks ++ dig u) := by
  have hu1 : 1 ≤ u := by omega
  have hnd20 : Lib.nDigits u ≤ 20 := nd_le u hu64
  have hal : Tryf.prog.arrayLen 82 = 24 := by simp [Program.arrayLen, Tryf.underlying82]
  have hsl : ∀ W, (Instr.sliceAt 82 (.pointer (some ⟨w.heap.size, 0, none⟩)) none (some (.int .i64 (Lib.nDigits u : Int))) none).run Tryf.prog W = .ok (.slice (some ⟨w.heap.size, 0, none⟩) (Lib.nDigits u) 24) W := fun W => by
    rw [run_sliceAt_array_h W 82 ⟨w.heap.size, 0, none⟩ (by simp [Program.arrayLen, Program.elem, Tryf.underlying82]) .i64 (Lib.nDigits u : Int) (by omega) (by rw [hal]; omega)]
    go_simp
  have hH0 := Lib.holds_zero0 w 82 (Lib.nDigits u) (by omega)
  have hfmt := Tryf.internal_strconv_formatBase10 w.heap.size 0 24 u (Array.replicate (Lib.nDigits u) 0) (w.alloc (.cells Lib.zeros24 82)) hH0 (by rw [Array.size_replicate]; exact Lib.lt_pow_nDigits u) hu64 (by rw [Array.size_replicate]; omega)
  rw [Array.size_replicate] at hfmt
  have HH0 := Lib.hid hH0
  have iu : (100 : Int) ≤ (u : Int) := by omega
  have HT : Hid (Lib.TabIs Tryf.prog (w.alloc (.cells Lib.zeros24 82)) powName .u64 Lib.pow10Tab) := htab _ fun k hk => Below.heap_alloc _ _ _ (by omega)
  clear hH0 hal
  go_enter Tryf.func44, Tryf.ntmps44
  go_wp2_with (first
    | (go_at_call 47; refine (numDigits_any u hu1 hu64 _ HT.out).mono ?_; rintro e w' ⟨rfl, rfl⟩))
  refine hfmt.mono ?_
  rintro e w' ⟨rfl, k, v', dk, rfl, hF⟩
  -- THE WORLD THAT formatBase10 LEAVES: the old one, draws, new blocks; the array's first cells are the numeral
  have hcells : ∀ j u', (ic (dig u))[j]? = some u' → ((putRow (fun (b : UInt8) => Value.int .u8 (b.toNat : Int)) (w.alloc (.cells Lib.zeros24 82)) w.heap.size 0 dk).drewN k).cell? ((⟨w.heap.size, 0, none⟩ : Addr).add j) = some u' := by
    intro j u' hj
    rw [ic_dig] at hj
    have hjl : j < (Lib.decDigits u).length := by
      have h5 := (List.getElem?_eq_some_iff.1 hj).1
      rwa [Lib.byteCells_length] at h5
    have e5 : (Lib.byteCells (Lib.decDigits u))[j]? = some (Value.int .u8 ((Lib.decDigits u)[j].toNat : Int)) := by simp [Lib.byteCells, hjl]
    rw [e5] at hj
    cases hj
    rw [Lib.row_is_numeral hF j hjl, Lib.add_plain, World.cell?_drewN]
    exact cell?_putRow (fun (b : UInt8) => Value.int .u8 (b.toNat : Int)) _ w.heap.size 0 _ dk HH0.out (by rw [hF.size, Array.size_replicate]) j (by rw [hF.size]; rw [Lib.decDigits_length] at hjl; exact hjl)
  obtain ⟨os, eo⟩ := Lib.fin_at w (.cells Lib.zeros24 82) dk k 0
  have hup2 : Up W ao b off cap ((putRow (fun (b : UInt8) => Value.int .u8 (b.toNat : Int)) (w.alloc (.cells Lib.zeros24 82)) w.heap.size 0 dk).drewN k) v ks := by
    rw [eo]; exact h.carry hc rfl rfl fun i hi => Lib.heap_grow_old w k os i hi
  generalize (putRow (fun (b : UInt8) => Value.int .u8 (b.toNat : Int)) (w.alloc (.cells Lib.zeros24 82)) w.heap.size 0 dk).drewN k = W2 at hcells hup2 ⊢
  clear eo HH0 hfmt
  have hS : Src Tryf.prog 1 22 (.slice (some ⟨w.heap.size, 0, none⟩) (Lib.nDigits u) 24) (dig u).length (ic (dig u)) W2 := by
    have := Src.ofSlice (P := Tryf.prog) W2 (size := 1) und22 ⟨w.heap.size, 0, none⟩ (Lib.nDigits u) 24 (ic (dig u)) (by rw [ic_length, dig_length, Nat.mul_one]) hcells (ic_one _)
    rw [← dig_length] at this ⊢
    exact this
  have hd : (dig u).length ≤ 20 := by rw [dig_length]; exact hnd20
  go_wp2_with (at_builtin; refine wpList_up _ hc hup2 rfl _ _ 22 rfl rfl _ (dig u) rfl hS (by omega) ?_)
  intro v2 w3 hup
  go_wp2
  go_ret
  exact ⟨_, rfl, hup⟩

/-- internal/strconv.AppendUint at base 10. -/
theorem au_any (hc : Came W 1 ao b off 0 cap []) (ks : List Int) (v : Value) (w : World) (h : Up W ao b off cap w v ks) (u : Nat) (hu64 : u < 18446744073709551616) (hlim : ks.length ≤ 1000000) {N : Nat} (hN : N ≤ w.heap.size) (htab : TabK N w) :
    Calls Tryf.prog 44 #[v, .int .u64 u, .int .i64 10] w fun e w' => ∃ v', e = .returned v' ∧ Up W ao b off cap w' v' (ks ++ dig u) := by
  by_cases hu : u < 100
  · exact au_small hc ks v w h u hu hlim
  · exact au_big hc ks v w h u (by omega) hu64 hlim hN htab

set_option maxHeartbeats 6400000 in
set_option maxRecDepth 100000 in
/-- internal/strconv.AppendInt at base 10, n from 0 on. -/
theorem ai_pos (hc : Came W 1 ao b off 0 cap []) (ks : List Int) (v : Value) (w : World) (h : Up W ao b off cap w v ks) (n : Nat) (hn : n ≤ 1000000000) (hlim : ks.length ≤ 1000000) {N : Nat} (hN : N ≤ w.heap.size) (htab : TabK N w) :
    Calls Tryf.prog 39 #[v, .int .i64 n, .int .i64 10] w fun e w' => ∃ v', e = .returned v' ∧ Up W ao b off cap w' v' (ks ++ dig n) := by
  have HC := Lib.hid (au_any hc ks v w h n (by omega) hlim hN htab)
  have i1 : (0 : Int) ≤ (n : Int) := by omega
  have i2 : (n : Int) ≤ 1000000000 := by omega
  clear htab h
  go_enter Tryf.func39, Tryf.ntmps39
  go_wp2_with (go_at_call 44; refine (HC.out).mono ?_)
  rintro e w' ⟨v', rfl, hup⟩
  go_wp2
  go_ret
  exact ⟨_, rfl, hup⟩

set_option maxHeartbeats 6400000 in
set_option maxRecDepth 100000 in
/-- internal/strconv.AppendInt at base 10, at -1. -/
theorem ai_neg (hc : Came W 1 ao b off 0 cap []) (ks : List Int) (v : Value) (w : World) (h : Up W ao b off cap w v ks) (hlim : ks.length ≤ 100000) (hb : b < W.heap.size) {N : Nat} (hNb : N ≤ b) (htab : TabK N W) :
    Calls Tryf.prog 39 #[v, .int .i64 (-1), .int .i64 10] w fun e w' => ∃ v', e = .returned v' ∧ Up W ao b off cap w' v' (ks ++ [45, 49]) := by
  have hz := h.size
  have hup0 := h.alloc hc (.cells #[.int .u8 45] 5)
  have hS : Src Tryf.prog 1 22 (.slice (some ⟨w.heap.size, 0, none⟩) 1 1) ([45] : List Int).length (ic [45]) (w.alloc (.cells #[.int .u8 45] 5)) := by
    refine Src.ofSlice (P := Tryf.prog) _ (size := 1) und22 ⟨w.heap.size, 0, none⟩ 1 1 (ic [45]) rfl ?_ (ic_one _)
    intro j u hj
    rw [Lib.add_plain, Nat.zero_add, World.cell?_alloc_new]
    match j, hj with
    | 0, hj => simpa [ic] using hj
  go_enter Tryf.func39, Tryf.ntmps39
  go_wp2_with (first | (at_builtin; refine wpList_up _ hc hup0 rfl _ _ 22 rfl rfl _ [45] rfl hS (by simp; omega) ?_))
  intro v1 w1 hup1
  go_wp2_with (go_at_call 44; refine (au_any hc _ _ _ hup1 1 (by omega) (by simp; omega) (N := N) (by have := hup1.size; omega) (htab.on fun k hk => hup1.block k (by omega) (by omega))).mono ?_)
  rintro e w' ⟨v', rfl, hup⟩
  go_wp2
  go_ret
  refine ⟨_, rfl, ?_⟩
  have e1 : dig 1 = [49] := by unfold dig; rw [Lib.decDigits_one (by omega)]; rfl
  rw [List.append_assoc, e1] at hup
  exact hup


set_option maxRecDepth 100000 in
/-- strconv.AppendInt at base 10. -/
theorem pai_pos (hc : Came W 1 ao b off 0 cap []) (ks : List Int) (v : Value) (w : World) (h : Up W ao b off cap w v ks) (n : Nat) (hn : n ≤ 1000000000) (hlim : ks.length ≤ 1000000) {N : Nat} (hN : N ≤ w.heap.size) (htab : TabK N w) :
    Calls Tryf.prog 33 #[v, .int .i64 n, .int .i64 10] w fun e w' => ∃ v', e = .returned v' ∧ Up W ao b off cap w' v' (ks ++ dig n) := by
  have HC := Lib.hid (ai_pos hc ks v w h n hn hlim hN htab)
  clear htab h
  go_enter Tryf.func33, Tryf.ntmps33
  go_wp2_with (go_at_call 39; refine (HC.out).mono ?_)
  rintro e w' ⟨v', rfl, hup⟩
  go_wp2
  go_ret
  exact ⟨_, rfl, hup⟩

set_option maxRecDepth 100000 in
theorem pai_neg (hc : Came W 1 ao b off 0 cap []) (ks : List Int) (v : Value) (w : World) (h : Up W ao b off cap w v ks) (hlim : ks.length ≤ 100000) (hb : b < W.heap.size) {N : Nat} (hNb : N ≤ b) (htab : TabK N W) :
    Calls Tryf.prog 33 #[v, .int .i64 (-1), .int .i64 10] w fun e w' => ∃ v', e = .returned v' ∧ Up W ao b off cap w' v' (ks ++ [45, 49]) := by
  have HC := Lib.hid (ai_neg hc ks v w h hlim hb hNb htab)
  clear htab h
  go_enter Tryf.func33, Tryf.ntmps33
  go_wp2_with (go_at_call 39; refine (HC.out).mono ?_)
  rintro e w' ⟨v', rfl, hup⟩
  go_wp2
  go_ret
  exact ⟨_, rfl, hup⟩

end
end Go.Proofs.Qxb6616642aFmt
