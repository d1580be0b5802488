/-
  resp.Writer: header, WriteBulk, WriteNull, by contracts (seat b6616642aF).
-/
import Derived.Test.Qxb6616642aFmtWs
namespace Go.Proofs.Qxb6616642aFmt
open Go.Shelf Go.RowKit

/-- AvailableBuffer's slice, as it is appended to. -/
theorem came_avail {N : Nat} {fl pe : List Int} {w : World} (h : SW N fl pe w) : Came w 1 (some ⟨N + 1, offOf pe.length, none⟩) (N + 1) (offOf pe.length) 0 (4096 - pe.length) [] := by
  obtain ⟨cur, r1, r2, r3⟩ := h.row
  have hle := h.le
  refine ⟨Nat.zero_le _, fun _ => rfl, fun _ => Lib.lt_of_heap r1, rfl, fun j u hu => by simp at hu, fun j hj => ?_⟩
  have e : offOf pe.length = pe.length := by unfold offOf; rw [if_neg (by omega)]
  rw [e]
  refine ⟨?_, Lib.frozen_of_heap r1 _⟩
  rw [Lib.cell_of_heap r1, Array.getElem?_eq_getElem (by omega)]
  rfl

/-- What the header's bytes leave, wherever they were put together. -/
theorem up_end {N : Nat} {fl pe : List Int} {W w : World} {v : Value} {ks : List Int} (h : SW N fl pe W) (hpos : 0 < ks.length) (hu : Up W (some ⟨N + 1, offOf pe.length, none⟩) (N + 1) (offOf pe.length) (4096 - pe.length) w v ks) :
    ∃ sb so c, v = .slice (some ⟨sb, so, none⟩) ks.length c ∧ ks.length ≤ c ∧ c ≤ maxLen ∧ SW N fl pe w ∧ w.rangeAt sb so (ic ks) ∧ (4096 - pe.length < ks.length → Far N sb w) ∧ Fw (SB N) N W w := by
  have hz := h.size
  have hle := h.le
  have hbl := fun k hk hb => Up.block hu k hk hb
  have hsz := hu.size
  have hrow : ∀ g, RowOf w N g ↔ RowOf W N g := fun g => by
    unfold RowOf
    rw [World.cell?_of_block (a := ⟨N, 0, none⟩) (hbl N (by omega) (by omega))]
  obtain ⟨r, hu⟩ := hu
  obtain ⟨cur, r1, r2, r3⟩ := h.row
  have hS : SW N fl pe w := by
    refine ⟨?_, ?_, ?_, ?_, hle⟩
    · obtain ⟨lr, ⟨e, hb⟩ | ⟨e, g, cap, cur, hb, hg, r1, r2, r3, r4, hn⟩⟩ := h.buf
      · exact ⟨lr, .inl ⟨e, by rw [hbl N (by omega) (by omega)]; exact hb⟩⟩
      · exact ⟨lr, .inr ⟨e, g, cap, cur, by rw [hbl N (by omega) (by omega)]; exact hb, by rw [hbl g (Lib.lt_of_heap hg) (by omega)]; exact hg, r1, r2, r3, r4, hn⟩⟩
    · have hk := hu.kept.2.2 (N + 1) (by omega)
      rw [r1] at hk
      cases e : w.heap[N + 1]? with
      | none => rw [e] at hk; cases hk
      | some o =>
        rw [e] at hk
        cases o with
        | cells c' t' fr' =>
          obtain ⟨rfl, rfl, hs, hc⟩ := hk
          refine ⟨c', rfl, by omega, ?_⟩
          rw [← r3]
          apply List.ext_getElem?
          intro j
          rw [List.getElem?_take, List.getElem?_take]
          split
          · rename_i hj
            simp only [Array.getElem?_toList]
            refine hc j ?_
            rintro ⟨i, hi, he⟩
            have hf := hu.rFit
            have e2 : offOf pe.length = pe.length := by unfold offOf; rw [if_neg (by omega)]
            simp at he
            omega
          · rfl
        | _ => cases hk
    · rw [hbl _ (by omega) (by omega)]; exact h.q
    · rw [hbl _ (by omega) (by omega)]; exact h.p
  have hF : Fw (SB N) N W w := ⟨hu.kept.1, hu.kept.2.1, hsz, fun k hk hs _ => hbl k hk (fun e => hs (.inr (.inl e))), fun g hg => .inl ((hrow g).1 hg)⟩
  have hc := came_avail h
  obtain ⟨g, o', cap', hv, h1, h2, h3⟩ := hu.value hc (by unfold maxLen; omega) (.inr hpos)
  rw [Nat.zero_add] at hv h1
  refine ⟨g, o', cap', hv, h1, h2, hS, fun j v hj => ?_, fun hlt => ?_, hF⟩
  · have hjl : j < (0 + ks.length) * 1 := by have := (List.getElem?_eq_some_iff.1 hj).1; simp at this; omega
    rw [h3 j hjl]; exact hj
  · rcases hu.val with ⟨hle', _, _⟩ | ⟨_, g', c', hv', ho⟩
    · omega
    · rw [hv'] at hv
      injection hv with e1 _ _
      injection e1 with e1
      injection e1 with e1 _ _
      subst e1
      have hnew := ho.new
      have hlt2 : g' < w.heap.size := World.block_lt_of_cell? _ _ (h3 0 (by omega) ▸ (List.getElem?_eq_getElem (by simp; omega)) : w.cell? ⟨g', o' + 0, none⟩ = some _)
      refine ⟨?_, ?_, hlt2⟩
      · unfold SB; omega
      · rw [hrow]
        obtain ⟨lr, ⟨_, hb⟩ | ⟨_, g2, cap, cur, hb, hg, _⟩⟩ := h.buf
        · rw [rowOf_heap hb]; rintro ⟨l, c, e⟩; cases e
        · rw [rowOf_heap hb]; rintro ⟨l, c, e⟩; injection e with e _ _; injection e with e; injection e with e _ _; have := Lib.lt_of_heap hg; omega

/-- (*resp.Writer).check at a nil error. -/
theorem check_nil (a : Addr) (w : World) : Calls Tryf.prog 27 #[.pointer (some a), .nilIface] w fun e w' => e = .returned .nilIface ∧ w' = w := by
  go_enter Tryf.func27, Tryf.ntmps27
  go_wp2
  go_ret
  exact ⟨rfl, rfl⟩

/-- A new row that an append reads, as a source. -/
theorem src_new (w : World) (l : List Int) : Src Tryf.prog 1 22 (.slice (some ⟨w.heap.size, 0, none⟩) l.length l.length) l.length (ic l) (w.alloc (.cells (ic l).toArray 5)) := by
  refine Src.ofSlice (P := Tryf.prog) _ (size := 1) und22 ⟨w.heap.size, 0, none⟩ l.length l.length (ic l) (by simp) ?_ (ic_one _)
  intro j u hj
  rw [Lib.add_plain, Nat.zero_add, World.cell?_alloc_new]
  simpa using hj

set_option maxHeartbeats 6400000 in
set_option maxRecDepth 100000 in
/-- (*resp.Writer).header: what AppendInt appends at n is a premise ('ds'). -/
theorem header_at (N : Nat) (fl pe ds : List Int) (n : Int) (w : World) (h : SW N fl pe w) (hds : ds.length ≤ 20) (hlim : fl.length + pe.length ≤ 900000000)
    (hA : ∀ W w' v, SW N fl pe W → (∀ k, k < N → W.heap[k]? = w.heap[k]?) → Up W (some ⟨N + 1, offOf pe.length, none⟩) (N + 1) (offOf pe.length) (4096 - pe.length) w' v [36] →
      Calls Tryf.prog 33 #[v, .int .i64 n, .int .i64 10] w' fun e w2 => ∃ v', e = .returned v' ∧ Up W (some ⟨N + 1, offOf pe.length, none⟩) (N + 1) (offOf pe.length) (4096 - pe.length) w2 v' ([36] ++ ds)) :
    Calls Tryf.prog 24 #[.pointer (some ⟨N + 3, 0, none⟩), .int .u8 36, .int .i64 n] w fun e w' => ∃ fl' pe', e = .returned .nilIface ∧ SW N fl' pe' w' ∧ fl' ++ pe' = fl ++ pe ++ (36 :: ds ++ [13, 10]) ∧ Fw (SB N) N w w' := by
  obtain ⟨-, -, -, -, p0, -⟩ := h.cells
  have H := hide h
  have HA := hide hA
  clear h hA
  go_enter Tryf.func24, Tryf.ntmps24
  go_wp2_with (go_at_call 32; refine (availbuf_any N fl pe _ H.out).mono ?_)
  rintro e w' ⟨rfl, q, rfl⟩
  have hS : SW N fl pe (w.drewN q) := H.out.heap rfl
  have hc := came_avail hS
  have HU0 := hide ((Up.start hc).alloc hc (.cells #[.int .u8 36] 5))
  have HSrc : Hid _ := hide (src_new (w.drewN q) [36])
  go_wp2_with (first | (at_builtin; refine wpList_up _ hc HU0.out rfl _ _ 22 rfl rfl _ [36] rfl HSrc.out (by decide) ?_))
  intro v1 w1 hup1
  have HU1 := hide hup1
  clear hup1 HU0 HSrc
  go_wp2_with (go_at_call 33; refine (HA.out (w.drewN q) _ _ hS (fun _ _ => rfl) HU1.out).mono ?_)
  rintro e w2 ⟨v2, rfl, hup2⟩
  have HU2 := hide (hup2.alloc hc (.cells #[.int .u8 13, .int .u8 10] 5))
  have HSrc2 := hide (src_new w2 [13, 10])
  clear hup2 HU1
  go_wp2_with (first | (at_builtin; refine wpList_up _ hc HU2.out rfl _ _ 22 rfl rfl _ [13, 10] rfl HSrc2.out (by simp; omega) ?_))
  intro v3 w3 hup3
  obtain ⟨sb, so, c, hv, g1, g2, hS3, hr3, hfar3, hF3⟩ := up_end hS (by simp) hup3
  obtain ⟨len, hlen⟩ : ∃ len, (36 :: (ds ++ [13, 10])).length = len := ⟨_, rfl⟩
  rw [hlen] at hv g1 hfar3
  subst hv
  obtain ⟨-, -, -, -, p3, -⟩ := hS3.cells
  have HB := hide (bwrite_any N fl pe (36 :: (ds ++ [13, 10])) sb so len c (some ⟨sb, so, none⟩) w3 hS3 hlen g1 g2 (fun _ => ⟨rfl, hr3⟩) hfar3 (by rw [← hlen]; simp; omega))
  have HF3 := hide hF3
  clear hup3 hr3 hfar3 hF3 hS3 HU2 HSrc2 HA hlen
  go_wp2_with (go_at_call 25; refine HB.out.mono ?_)
  rintro e w4 ⟨fl', pe', rfl, hS4, hcat, hF4⟩
  go_wp2_with (first | (go_at_call 27; refine (check_nil _ _).mono ?_; rintro e w' ⟨rfl, rfl⟩))
  go_ret
  refine ⟨fl', pe', rfl, hS4, ?_, HF3.out.ofDrewN.trans hF4⟩
  first | exact hcat | simpa using hcat

theorem Bf.row {N : Nat} {bs : List Int} {w : World} (h : Bf N bs w) {k : Nat} (hk : RowOf w N k) : N + 4 ≤ k := by
  obtain ⟨lr, ⟨_, hb⟩ | ⟨_, g, cap, cur, hb, _, _, _, _, _, hg⟩⟩ := h
  · rw [rowOf_heap hb] at hk; obtain ⟨l, c, e⟩ := hk; cases e
  · rw [rowOf_heap hb] at hk; obtain ⟨l, c, e⟩ := hk; injection e with e _ _; injection e with e; injection e with e _ _; omega

/-- The blocks below N are as they were. -/
structure Kp (N : Nat) (w w' : World) : Prop where
  os : w'.os = w.os
  output : w'.output = w.output
  size : w.heap.size ≤ w'.heap.size
  block : ∀ k, k < N → w'.heap[k]? = w.heap[k]?
theorem Kp.refl (N : Nat) (w : World) : Kp N w w := ⟨rfl, rfl, Nat.le_refl _, fun _ _ => rfl⟩
theorem Kp.trans {N : Nat} {a b c : World} (h : Kp N a b) (k : Kp N b c) : Kp N a c := ⟨k.os.trans h.os, k.output.trans h.output, Nat.le_trans h.size k.size, fun i hi => (k.block i hi).trans (h.block i hi)⟩
theorem Kp.mono {M N : Nat} {a b : World} (h : Kp N a b) (hm : M ≤ N) : Kp M a b := ⟨h.os, h.output, h.size, fun i hi => h.block i (by omega)⟩
theorem Kp.range {N : Nat} {a b : World} (h : Kp N a b) {g o : Nat} {cs : List Value} (hr : a.rangeAt g o cs) (hg : g < N) : b.rangeAt g o cs := fun j v hj => by
  rw [World.cell?_of_block (a := ⟨g, o + j, none⟩) (h.block g hg)]; exact hr j v hj
theorem Fw.kp {N : Nat} {fl pe : List Int} {w w' : World} (h : Fw (SB N) N w w') (hS : SW N fl pe w) : Kp N w w' :=
  ⟨h.os, h.output, h.size, fun k hk => h.block k (by have := hS.size; omega) (by unfold SB; omega) (fun e => by have := hS.buf.row e; omega)⟩
theorem TabK.kp {N : Nat} {w w' : World} (h : TabK N w) (hk : Kp N w w') : TabK N w' := h.on hk.block

/-- A bulk frame, the null frame. -/
def frame (cs : List Int) : List Int := 36 :: dig cs.length ++ [13, 10] ++ cs ++ [13, 10]
def nullFrame : List Int := [36, 45, 49, 13, 10]
theorem frame_length (cs : List Int) (h : cs.length ≤ 10000000) : (frame cs).length ≤ cs.length + 25 := by
  have := nd_le cs.length (by omega)
  simp [frame, dig_length]; omega

theorem header_pos (N : Nat) (fl pe : List Int) (n : Nat) (w : World) (h : SW N fl pe w) (hn : n ≤ 1000000000) (hlim : fl.length + pe.length ≤ 900000000) (htab : TabK N w) :
    Calls Tryf.prog 24 #[.pointer (some ⟨N + 3, 0, none⟩), .int .u8 36, .int .i64 n] w fun e w' => ∃ fl' pe', e = .returned .nilIface ∧ SW N fl' pe' w' ∧ fl' ++ pe' = fl ++ pe ++ (36 :: dig n ++ [13, 10]) ∧ Fw (SB N) N w w' :=
  header_at N fl pe (dig n) n w h (by rw [dig_length]; exact nd_le n (by omega)) hlim fun W w' v hS hb hu =>
    pai_pos (came_avail hS) [36] v w' hu n hn (by decide) (N := N) (by have := hu.size; have := hS.size; omega) ((htab.on hb).on fun k hk => hu.block k (by have := hS.size; omega) (by omega))

theorem header_null (N : Nat) (fl pe : List Int) (w : World) (h : SW N fl pe w) (hlim : fl.length + pe.length ≤ 900000000) (htab : TabK N w) :
    Calls Tryf.prog 24 #[.pointer (some ⟨N + 3, 0, none⟩), .int .u8 36, .int .i64 (-1)] w fun e w' => ∃ fl' pe', e = .returned .nilIface ∧ SW N fl' pe' w' ∧ fl' ++ pe' = fl ++ pe ++ nullFrame ∧ Fw (SB N) N w w' :=
  header_at N fl pe [45, 49] (-1) w h (by decide) hlim fun W w' v hS hb hu =>
    pai_neg (came_avail hS) [36] v w' hu (by decide) (by have := hS.size; omega) (N := N) (by omega) (htab.on hb)

set_option maxRecDepth 100000 in
/-- (*resp.Writer).WriteNull. -/
theorem wnull_any (N : Nat) (fl pe : List Int) (w : World) (h : SW N fl pe w) (hlim : fl.length + pe.length ≤ 900000000) (htab : TabK N w) :
    Calls Tryf.prog 19 #[.pointer (some ⟨N + 3, 0, none⟩)] w fun e w' => ∃ fl' pe', e = .returned .nilIface ∧ SW N fl' pe' w' ∧ fl' ++ pe' = fl ++ pe ++ nullFrame ∧ Kp N w w' := by
  have H := hide h
  have HC := hide (header_null N fl pe w h hlim htab)
  clear h htab
  go_enter Tryf.func19, Tryf.ntmps19
  go_wp2_with (go_at_call 24; refine HC.out.mono ?_)
  rintro e w' ⟨fl', pe', rfl, hS, hcat, hF⟩
  go_wp2
  go_ret
  exact ⟨fl', pe', rfl, hS, hcat, hF.kp H.out⟩

set_option maxHeartbeats 1000000 in
set_option maxRecDepth 100000 in
/-- (*resp.Writer).WriteBulk. -/
theorem wbulk_any (N : Nat) (fl pe cs : List Int) (sb so n c : Nat) (ao : Option Addr) (w : World) (h : SW N fl pe w) (hn : cs.length = n) (hn2 : n ≤ 10000000) (hc : n ≤ c) (hcm : c ≤ maxLen) (hao : 0 < n → ao = some ⟨sb, so, none⟩ ∧ sb < N ∧ w.rangeAt sb so (ic cs)) (hlim : fl.length + pe.length ≤ 800000000) (htab : TabK N w) :
    Calls Tryf.prog 10 #[.pointer (some ⟨N + 3, 0, none⟩), .slice ao n c] w fun e w' => ∃ fl' pe', e = .returned .nilIface ∧ SW N fl' pe' w' ∧ fl' ++ pe' = fl ++ pe ++ frame cs ∧ Kp N w w' := by
  have H := hide h
  have HC := hide (header_pos N fl pe n w h (by omega) (by omega) htab)
  have HA := hide hao
  have hnd := nd_le n (by omega)
  clear h htab hao
  go_enter Tryf.func10, Tryf.ntmps10
  go_wp2_with (go_at_call 24; refine HC.out.mono ?_)
  rintro e w1 ⟨fl1, pe1, rfl, hS1, hcat1, hF1⟩
  obtain ⟨-, -, -, -, p1, -⟩ := hS1.cells
  have K1 := hF1.kp H.out
  have hl1 : fl1.length + pe1.length ≤ 800000030 := by have := congrArg List.length hcat1; simp [dig_length] at this; omega
  have HB := hide (bwrite_any N fl1 pe1 cs sb so n c ao w1 hS1 hn hc hcm (fun h => ⟨(HA.out h).1, K1.range (HA.out h).2.2 (HA.out h).2.1⟩) (fun h => by
    have hb := (HA.out (by omega)).2.1
    exact ⟨by unfold SB; omega, fun e => by have := hS1.buf.row e; omega, by have := hS1.size; omega⟩) (by omega))
  have HK1 := hide K1
  clear K1 hF1 HC HA
  replace hcat1 := hide hcat1
  go_wp2_with (go_at_call 25; refine HB.out.mono ?_)
  rintro e w2 ⟨fl2, pe2, rfl, hS2, hcat2, hF2⟩
  obtain ⟨-, -, -, -, p2, -⟩ := hS2.cells
  have HK2 := hide (hF2.kp hS1)
  have hl2 : fl2.length + pe2.length ≤ 900000000 := by have := congrArg List.length hcat2; simp at this; omega
  have HW := hide (wstr_any N fl2 pe2 w2 hS2 (by omega))
  have HS2 := hide hS2
  clear hS2 hS1 hF2 HB
  replace hcat2 := hide hcat2
  go_wp2_with (go_at_call 26; refine HW.out.mono ?_)
  rintro e w3 ⟨fl3, pe3, rfl, hS3, hcat3, hF3⟩
  replace hcat3 := hide hcat3
  go_wp2_with (first | (go_at_call 27; refine (check_nil _ _).mono ?_; rintro e w' ⟨rfl, rfl⟩))
  go_ret
  refine ⟨fl3, pe3, rfl, hS3, ?_, (HK1.out.trans HK2.out).trans (hF3.kp HS2.out)⟩
  rw [hcat3.out, hcat2.out, hcat1.out]
  simp [frame, hn]
end Go.Proofs.Qxb6616642aFmt
