/- Part 13 of the proof: Safe2. -/
import Derived.Test.YtjekbomlpcdojaaGreatDoorH6
import Derived.Deep.LoopGhost
set_option linter.unusedVariables false
set_option linter.unusedSimpArgs false
set_option linter.unusedSectionVars false
set_option maxHeartbeats 16000000
namespace Go.Proofs.YtjekbomlpcdojaaGreatDoor
open Go Go.RowKit
def SafeRel (E : Env) (w0 : World) (MB B D size : Nat) (rem : List UInt8) (v : Value) (wr : World) : Prop :=
 ∃ (g n c : Nat) (sc : List UInt8), v = .slice (some ⟨g, 0, none⟩) n c ∧ n ≤ c ∧ c ≤ size ∧ 512 ≤ c ∧ n ≤ rem.length ∧ w0.heap.size ≤ g ∧ sc.length = c ∧ wr.heap[g]? = some (.cells (bcells sc).toArray 5 (0, 0)) ∧
  sc.take n = rem.take n ∧ Mem E wr MB B D (rem.drop n) ∧ Glob E wr ∧ Keep (B = ·) w0 wr
theorem bcells_splice' (l cs : List UInt8) (o : Nat) : splice (bcells l) o (bcells cs) = bcells (splice l o cs) := by
 simp [splice, bcells]
def lenOf : Value → Nat | .slice _ n _ => n | _ => 0
theorem safe_step {E : Env} {w0 wr w7 : World} {MB B D size g n c : Nat} {rem sc : List UInt8} (hncl : n < c) (hcs : c ≤ size) (h512 : 512 ≤ c) (hlr : n < rem.length) (hgw : w0.heap.size ≤ g) (hsc : sc.length = c)
  (ht : sc.take n = rem.take n) (hm : Mem E wr MB B D (rem.drop n)) (hgl : Glob E wr) (hk : Keep (B = ·) w0 wr) (hgM : g ≠ MB) (hE : E.base ≤ g)
  (hb7 : Buf w7 B D ((rem.drop n).drop (c - n))) (hX7 : w7.heap[g]? = some (.cells (splice (bcells sc) n (bcells ((rem.drop n).take (c - n)))).toArray 5 (0, 0))) (hk8 : Keep (fun b => B = b ∨ g = b) wr w7) :
  SafeRel E w0 MB B D size rem (.slice (some ⟨g, 0, none⟩) (n + min (rem.length - n) (c - n)) c) w7 := by
 have hl : ((rem.drop n).take (c - n)).length = min (rem.length - n) (c - n) := by simp [Nat.min_comm]
 have e1 : (rem.drop n).take (c - n) = (rem.drop n).take (min (rem.length - n) (c - n)) := by
  by_cases hh : rem.length - n ≤ c - n
  ·rw [Nat.min_eq_left hh, List.take_of_length_le (by simpa using hh), List.take_of_length_le (by simp)]
  ·rw [Nat.min_eq_right (by omega)]
 have e2 : (rem.drop n).drop (c - n) = rem.drop (n + min (rem.length - n) (c - n)) := by
  rw [List.drop_drop]
  by_cases hh : rem.length - n ≤ c - n
  ·rw [Nat.min_eq_left hh, List.drop_of_length_le (by omega), List.drop_of_length_le (by omega)]
  ·rw [Nat.min_eq_right (by omega)]
 refine ⟨g, _, c, splice sc n ((rem.drop n).take (c - n)), rfl, by omega, hcs, h512, by omega, hgw, ?_, ?_, ?_, ?_, ?_, ?_⟩
 ·rw [length_splice _ _ _ (by rw [hl]; omega)]; exact hsc
 ·rw [hX7, bcells_splice']
 ·have hs1 : (sc.take n).length = n := by simp; omega
  have r1 : rem.take (n + min (rem.length - n) (c - n)) = rem.take n ++ (rem.drop n).take (min (rem.length - n) (c - n)) := List.take_add
  rw [r1, ← ht, ← e1, splice, ← List.append_assoc, List.take_left' (by rw [List.length_append, hs1, hl])]
 ·rw [← e2]
  exact hm.of hb7 hk8 (by rintro (e | e); exact hm.ne e.symm; exact hgM e)
 ·exact hgl.keep hk8 (by have := hm.baseB; rintro i (e | e) <;> omega)
 ·exact hk.trans hk8 (by rintro i hi (e | e); exact e; omega)
set_option maxRecDepth 100000 in
theorem safe_big {E : Env} {MB B D size : Nat} {rem : List UInt8} {w : World} (hg : Glob E w) (h : Mem E w MB B D rem) (hn : 512 < size) (hsz : size ≤ 2147483647) :
  Calls Tryz.prog 268 #[.int .i32 size, memV MB] w fun e w' => ∃ g cap ev sc, e = .returned (.tuple #[.slice (some ⟨g, 0, none⟩) (min size rem.length) cap, ev]) ∧ ErrAt E w.heap.size w' ev (safeK size rem) ∧
   Mem E w' MB B D (rem.drop size) ∧ Keep (B = ·) w w' ∧ w.heap.size ≤ g ∧ sc.length = cap ∧ w'.heap[g]? = some (.cells (bcells sc).toArray 5 (0, 0)) ∧ sc.take (min size rem.length) = rem.take size ∧ min size rem.length ≤ cap ∧ cap ≤ 140737488355328 := by
 have hmk0 : ∀ w : World, (Instr.makeSlice 24 (.int .i64 0) (.int .i64 512)).run Tryz.prog w = .ok (.slice (some ⟨w.heap.size, 0, none⟩) 0 512) (w.alloc (.cells (zrow 512) 5)) := fun w => mk_bytes .i64 .i64 0 512 (by omega) (by omega) w
 obtain ⟨hl1, hl2⟩ := h.lts
 have hMem := h
 go_enter Tryz.func268, Tryz.ntmps268
 go_wp2_with fail
 go_loopw [10] (fun v wr => SafeRel E w MB B D size rem v wr) (fun v _ => size - lenOf v)
 case atStart =>
  exact ⟨w.heap.size, 0, 512, List.replicate 512 0, rfl, by omega, by omega, by omega, by omega, Nat.le_refl _, by simp, heap_alloc_new w _, by simp,
   by simpa using h.keep ((Keep.refl (fun _ => False) w).alloc _) id id id, hg.keep ((Keep.refl (fun _ => False) w).alloc _) (fun _ x => x.elim), (Keep.refl _ w).alloc _⟩
 case round =>
  obtain ⟨g, n, c, sc, rfl, hnc, hcs, h512, hnr, hgw, hsc, hb, ht, hm, hgl, hk⟩ := hrel
  obtain ⟨hl3, hl4⟩ := hm.lts
  by_cases hlt : n < size
  ·by_cases hncE : n = c
   ·subst hncE
    have hex : ∃ c' : Nat, n < c' ∧ c' ≤ size ∧ 512 ≤ c' ∧ ((n * 2 ≤ size ∧ c' = n * 2) ∨ (size < n * 2 ∧ c' = size)) := by
     by_cases h2 : n * 2 ≤ size
     ·exact ⟨n * 2, by omega, h2, by omega, .inl ⟨h2, rfl⟩⟩
     ·exact ⟨size, by omega, by omega, by omega, .inr ⟨by omega, rfl⟩⟩
    obtain ⟨c', hncl, hcs', h512', hc'⟩ := hex
    have hmk1 := fun (w : World) => mk_bytes .i64 .i64 n c' (by omega) (by omega) w
    have HB9 := hdd hb
    obtain ⟨zr, hzr⟩ : ∃ zr : List Value, bcells (List.replicate c' 0) = zr := ⟨_, rfl⟩
    obtain ⟨cs0, hcs0⟩ : ∃ cs0 : List Value, bcells (sc.take n) = cs0 := ⟨_, rfl⟩
    have hg2 : (wr.alloc (.cells (zrow c') 5)).heap[wr.heap.size]? = some (.cells zr.toArray 5 (0, 0)) := by rw [← hzr]; exact heap_alloc_new wr _
    have hsrc : ∀ j v, cs0[j]? = some v → (wr.alloc (.cells (zrow c') 5)).cell? ((⟨g, 0, none⟩ : Addr).add j) = some v := by
     intro j v hv
     rw [← hcs0] at hv
     have hj : j < n := by have := (List.getElem?_eq_some_iff.1 hv).1; simp at this; omega
     rw [Addr.add_lit, World.cell?_of_block (w := wr) (Below.heap_alloc _ _ _ (lt_of_heap hb)), cellAt hb, Nat.zero_add]
     rw [bcells, List.map_take, List.getElem?_take_of_lt hj] at hv
     simpa using hv
    have hone : ∀ v ∈ cs0, v.oneCell' = true := by
     intro v hv
     rw [← hcs0] at hv
     obtain ⟨x, _, rfl⟩ := List.mem_map.1 hv
     rfl
    have hcl : cs0.length = n := by rw [← hcs0]; simp; omega
    have HSRC := hdd hsrc
    have HG2 := hdd hg2
    have HONE := hdd hone
    have HLEN := hdd (show cs0.length = Nat.min n n by rw [hcl]; exact (Nat.min_self n).symm)
    have HFIT := hdd (show 0 + cs0.length ≤ zr.length by rw [hcl, ← hzr]; simp; omega)
    have HZR := hdd hzr
    have HCS0 := hdd hcs0
    clear hsrc hg2 hone hcl hzr hcs0
    have hmk2 : ∀ w : World, (Instr.makeSlice 24 (.int .i64 n) (.int .i64 (if n * 2 ≤ size then (n : Int) * 2 else size))).run Tryz.prog w = .ok (.slice (some ⟨w.heap.size, 0, none⟩) n c') (w.alloc (.cells (zrow c') 5)) := by
     intro w
     have := hmk1 w
     rcases hc' with ⟨h2, h3⟩ | ⟨h2, h3⟩
     ·rw [if_pos h2, show (n : Int) * 2 = (c' : Int) by omega]; exact this
     ·rw [if_neg (by omega), ← h3]; exact this
    have HC' := hdd hc'
    clear hmk1 hc'
    by_cases h2 : n * 2 ≤ size
    all_goals
     first | rw [if_pos h2] at hmk2 | rw [if_neg h2] at hmk2
     go_wp2_with (refine wpList_copy_row rfl (.tmp 50) (.tmp 51) 24 24 rfl 5 Tryz.underlying24 (by kernel_rfl) wr.heap.size 0 n c' ⟨g, 0, none⟩ n n rfl rfl zr 5 HG2.out cs0 HLEN.out HSRC.out HFIT.out HONE.out ?_)
     intro w2 Hw2
     have hk2a : Keep (fun _ => False) wr w2 := (((Keep.refl (fun i => wr.heap.size = i) wr).alloc _).setRow wr.heap.size (fun _ => rfl) _).eqv Hw2.out |>.weak (fun i hi e => by omega)
     obtain ⟨G, hG⟩ : ∃ G, wr.heap.size = G := ⟨_, rfl⟩
     have hgG : g < G := by have := lt_of_heap HB9.out; omega
     have hb2 : w2.heap[G]? = some (.cells (bcells (splice (List.replicate c' 0) 0 (sc.take n))).toArray 5 (0, 0)) := by
      rw [Hw2.out.1, ← hG, setRow_heap _ _ _ _ _ _ HG2.out, ← bcells_splice', HZR.out, HCS0.out]
     have hsc2 : (splice (List.replicate c' (0 : UInt8)) 0 (sc.take n)).length = c' := by rw [length_splice _ _ _ (by simp; omega)]; simp
     have ht2 : (splice (List.replicate c' (0 : UInt8)) 0 (sc.take n)).take n = rem.take n := by
      rw [splice, List.take_zero, List.nil_append, List.take_left' (by simp; omega), ht]
     generalize hS2 : splice (List.replicate c' (0 : UInt8)) 0 (sc.take n) = sc2 at hb2 hsc2 ht2
     clear hS2
     have hk2 : Keep (B = ·) w w2 := hk.then (hk2a.weak (fun _ _ x => x.elim))
     have hm2 : Mem E w2 MB B D (rem.drop n) := hm.keep hk2a id id id
     have hgl2 : Glob E w2 := hgl.keep hk2a (fun _ x => x.elim)
     have hgw2 : w.heap.size ≤ G := by omega
     have hgMB : G ≠ MB := by have := hm.lts; omega
     have hBG : B < G := by have := hm.lts; omega
     have HDG : Hid (rem.drop n ≠ [] → G ≠ D) := fun hr => by have := hm.buf.dlt hr; omega
     clear hk2a hmk2
     rw [hG]
     clear hG Hw2
     have hmt := fun (w : World) (h : w.cell? ⟨MB, 0, none⟩ = some (.pointer (some ⟨B, 0, none⟩))) => method_mem h 596 "Read" 201 mem_Read
     have hna := fun (w : World) => nilAhead_mem w MB 596 "Read" 201 mem_Read
     have hmb := hm2.mb
     simp only [Nat.reduceAdd] at hmt hna
     have hle1 : n ≤ c' := Nat.le_of_lt hncl
     have hne1 : ¬ c' = n := by omega
     have HB0 := hdd hb2
     by_cases hz : rem.drop n = []
     ·have HZ := hdd hz
      have HM0 : Hid (Mem E w2 MB B D []) := by have := hm2; rw [HZ.out] at this; exact this
      clear hz
      go_wp2_with fail
      go_region_with (go_at_call 201; refine (buf_read_end (w := w2.drew) (hgl2.eqv (Eqv.drew w2)) hMem.baseB (HM0.out.buf.eqv (Eqv.drew w2)) (by omega)).mono ?_; rintro e w7 ⟨rfl, hb7, hk7⟩)
      have hk8 : Keep (B = ·) w2 w7 := ((Eqv.drew w2).keep _).then hk7
      have hnl : n = rem.length := by have := List.drop_eq_nil_iff.1 HZ.out; omega
      have Hnl := hdd hnl
      clear hnl
      go_wp2_with fail
      go_ret2
      have hmin : min size rem.length = n := by have := Hnl.out; omega
      rw [hmin]
      refine ⟨_, _, _, sc2, rfl, ?_, ?_, hk2.then hk8, hgw2, hsc2, (hk8.block G (lt_of_heap HB0.out) (by omega)).trans HB0.out, ?_, hle1, by omega⟩
      ·rw [safeK, if_neg (by have := Hnl.out; omega), if_neg (by omega)]; exact .inr (.inl ⟨rfl, rfl⟩)
      ·rw [List.drop_of_length_le (by have := Hnl.out; omega)]; exact HM0.out.of hb7 hk8 (fun e => hMem.ne e.symm)
      ·rw [ht2, List.take_of_length_le (by have := Hnl.out; omega), List.take_of_length_le (by have := Hnl.out; omega)]
     ·have HZ := hdd hz
      have hlr : n < rem.length := by have := mt List.drop_eq_nil_iff.2 hz; omega
      clear hz
      have hdl : D < w2.heap.size := hm2.buf.dlt HZ.out
      go_wp2_with fail
      go_region_with (go_at_call 201; refine (buf_read (w := w2.drew) (xo := n) (n := c' - n) (c := c' - n) (T := 5) (hm2.buf.eqv (Eqv.drew w2)) HZ.out (by omega) HB0.out (by omega) (HDG.out HZ.out) (by simp; omega)).mono ?_; rintro e w7 ⟨rfl, hb7, hX7, hk7⟩)
      have hm7 : min (rem.drop n).length (c' - n) ≤ c' - n := Nat.min_le_right _ _
      have hm8 : 0 < min (rem.drop n).length (c' - n) := by simp; omega
      have hm9 : min (rem.drop n).length (c' - n) ≤ rem.length - n := by simp; omega
      have hk8 : Keep (fun b => B = b ∨ G = b) w2 w7 := ((Eqv.drew w2).keep _).then hk7
      have HX7 := hdd hX7
      clear hX7
      generalize hmm : min (rem.drop n).length (c' - n) = m at *
      have Hmm := hdd hmm
      clear hmm
      have hmc : n + m ≤ c' := by omega
      have HR := hdd (safe_step (size := size) hncl hcs' h512' hlr hgw2 hsc2 ht2 hm2 hgl2 hk2 (by omega) (by have := hg.size; omega) hb7 HX7.out hk8)
      go_wp2_with fail
      go_roundw
      case rel => exact HR.out
      case measure => simp only [lenOf]; omega
   ·have hncl : n < c := by omega
    have hmt := fun (w : World) (h : w.cell? ⟨MB, 0, none⟩ = some (.pointer (some ⟨B, 0, none⟩))) => method_mem h 596 "Read" 201 mem_Read
    have hna := fun (w : World) => nilAhead_mem w MB 596 "Read" 201 mem_Read
    have hmb := hm.mb
    simp only [Nat.reduceAdd] at hmt hna
    have hle1 : n ≤ c := Nat.le_of_lt hncl
    have hne1 : ¬ c = n := by omega
    have HB0 := hdd hb
    by_cases hz : rem.drop n = []
    ·have HZ := hdd hz
     have HM0 : Hid (Mem E wr MB B D []) := by have := hm; rw [HZ.out] at this; exact this
     clear hz
     go_wp2_with fail
     go_region_with (go_at_call 201; refine (buf_read_end (w := wr.drew) (hgl.eqv (Eqv.drew wr)) hMem.baseB (HM0.out.buf.eqv (Eqv.drew wr)) (by omega)).mono ?_; rintro e w7 ⟨rfl, hb7, hk7⟩)
     have hk8 : Keep (B = ·) wr w7 := ((Eqv.drew wr).keep _).then hk7
     have hnl : n = rem.length := by have := List.drop_eq_nil_iff.1 HZ.out; omega
     have Hnl := hdd hnl
     clear hnl
     go_wp2_with fail
     go_ret2
     have hmin : min size rem.length = n := by have := Hnl.out; omega
     rw [hmin]
     refine ⟨_, _, _, sc, rfl, ?_, ?_, hk.then hk8, hgw, hsc, (hk8.block g (lt_of_heap HB0.out) (by omega)).trans HB0.out, ?_, hle1, by omega⟩
     ·rw [safeK, if_neg (by have := Hnl.out; omega), if_neg (by omega)]; exact .inr (.inl ⟨rfl, rfl⟩)
     ·rw [List.drop_of_length_le (by have := Hnl.out; omega)]; exact HM0.out.of hb7 hk8 (fun e => hMem.ne e.symm)
     ·rw [ht, List.take_of_length_le (by have := Hnl.out; omega), List.take_of_length_le (by have := Hnl.out; omega)]
    ·have HZ := hdd hz
     have hlr : n < rem.length := by have := mt List.drop_eq_nil_iff.2 hz; omega
     clear hz
     have hdl : D < wr.heap.size := hm.buf.dlt HZ.out
     go_wp2_with fail
     go_region_with (go_at_call 201; refine (buf_read (w := wr.drew) (xo := n) (n := c - n) (c := c - n) (T := 5) (hm.buf.eqv (Eqv.drew wr)) HZ.out (by omega) HB0.out (by omega) (by have := hMem.buf.dlt (by rintro rfl; simp at hlr); omega) (by simp; omega)).mono ?_; rintro e w7 ⟨rfl, hb7, hX7, hk7⟩)
     have hm7 : min (rem.drop n).length (c - n) ≤ c - n := Nat.min_le_right _ _
     have hm8 : 0 < min (rem.drop n).length (c - n) := by simp; omega
     have hm9 : min (rem.drop n).length (c - n) ≤ rem.length - n := by simp; omega
     have hk8 : Keep (fun b => B = b ∨ g = b) wr w7 := ((Eqv.drew wr).keep _).then hk7
     have HX7 := hdd hX7
     clear hX7
     generalize hmm : min (rem.drop n).length (c - n) = m at *
     have Hmm := hdd hmm
     clear hmm
     have hmc : n + m ≤ c := by omega
     have HR := hdd (safe_step (size := size) hncl hcs h512 hlr hgw hsc ht hm hgl hk (by omega) (by have := hg.size; omega) hb7 HX7.out hk8)
     go_wp2_with fail
     go_roundw
     case rel => exact HR.out
     case measure => simp only [lenOf]; omega
  ·go_wp2_with fail
   go_ret2
   have hns : n = size := by omega
   have hmin : min size rem.length = n := by omega
   rw [hmin]
   refine ⟨_, _, .nilIface, sc, rfl, ?_, by rw [← hns]; exact hm, hk, hgw, hsc, hb, by rw [ht, hns], hnc, by omega⟩
   rw [safeK, if_pos (by omega)]; exact ErrAt.nil _ _ _
end Go.Proofs.YtjekbomlpcdojaaGreatDoor
