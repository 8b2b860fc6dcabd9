/- Part 29 of the proof: Cmp8. -/
import Derived.Test.YtjekbomlpcdojaaGreatDoorH25
set_option linter.unusedVariables false
set_option linter.unusedSimpArgs false
set_option linter.unusedSectionVars false
set_option maxHeartbeats 16000000
namespace Go.Proofs.YtjekbomlpcdojaaGreatDoor
open Go Go.RowKit
theorem cslice_arr (P m : Nat) (hm : m ≤ 64) (k : IntKind) (w : World) : (Instr.sliceAt 254 (.pointer (some ⟨P, 10, none⟩)) none (some (.int k (m : Int))) none).run Tryz.prog w = .ok (.slice (some ⟨P, 10, none⟩) m 64) w := by
 have h1 : (0 : Int) ≤ m := by omega
 have h2 : (m : Int) ≤ (64 : Nat) := by omega
 have hb := run_sliceBound (P := Tryz.prog) (w := w) k (m : Int) 64 .sliceAlen h1 h2
 simp [Instr.sliceAt, Instr.sliceBounds]
 simp [hb, Instr.sureAddr, Addr.add]
theorem cblk_cells {w : World} {P MB q : Nat} {a : Option Addr} {fv : Value} {last : Int} {val pend : Bool} {T : TypeId} {sc l : List UInt8} (h : w.heap[P]? = some (.cells (cmpC MB a fv last val pend sc).toArray T (0, 0))) (ht : sc.take q = l) :
  ∀ j (hj : j < l.length), w.cell? ⟨P, 10 + j, none⟩ = some (.int .u8 (l[j].toNat : Int)) := by
 intro j hj
 subst ht
 have hj' : j < sc.length := by simp at hj; omega
 rw [ccell_sc h j hj']
 simp
section
variable {E : Env} {P MB B D : Nat} {a : Option Addr} {c : Cfg} {s s' : Cmp.St} {fv : Value} {sc sc' : List UInt8} {w w' : World}
def CStr (E : Env) (P MB B D : Nat) (a : Option Addr) (c : Cfg) (s : Cmp.St) (fv : Value) (w : World) (e : Ending) (w' : World) : Prop :=
 ∃ (l : ByteArray) (ev : Value) (r' sc' : List UInt8), e = .returned (.tuple #[.string l, ev]) ∧ ErrAt E w.heap.size w' ev (cstrK s.rem c) ∧ CmpP E P MB B D a c (s.at r') fv sc' w' ∧ r'.length ≤ s.rem.length ∧ Keep (MB2 P B) w w' ∧ (cstrK s.rem c = 0 → l = ⟨(cstrS s.rem).toArray⟩ ∧ r' = cstrRem s.rem)
set_option maxRecDepth 100000 in
theorem cmp_readString (h : CmpP E P MB B D a c s fv sc w) :
  Calls Tryz.prog 236 #[.pointer (some ⟨P, 0, none⟩), ctxV] w (CStr E P MB B D a c s fv w) := by
 go_enter Tryz.func236, Tryz.ntmps236
 go_wp2_with fail
 refine (cmp_varint32 h).mono ?_
 rintro e w1 ⟨n, ev, rfl, he1, h1, hk1, hv1, hlo, hhi⟩
 have hkw1 : Keep (MB2 P B) w w1 := hk1.weak (fun _ _ x => .inl x)
 have HKW1 := hdd hkw1
 have HVL := hdd (vR_le s.rem)
 by_cases hz : vK s.rem = 0
 ·rw [hz] at he1
  have hev := he1.isNil
  subst hev
  have HN := hdd (hv1 hz)
  have HZ := hdd hz
  obtain ⟨c0, _, c2, _, _, _, _⟩ := h1.cells
  clear hv1 hz he1 hk1 hkw1
  go_wp2_with fail
  refine (checkSize (E := E) (n0 := w.heap.size) n hhi h1.cfg h1.cok HKW1.out.size).mono ?_
  rintro e w2 ⟨v, rfl, hv2, hk2⟩
  have h2 := h1.fresh hk2
  have hk12 : Keep (MB2 P B) w w2 := HKW1.out.then (hk2.weak (fun _ _ x => x.elim))
  have HK12 := hdd hk12
  clear c0 c2 hk12
  obtain ⟨c0, _, c2, _, _, _, _⟩ := h2.cells
  by_cases hs : sizeK n c = 0
  ·rw [hs] at hv2
   have hv3 := hv2.isNil
   subst hv3
   have hn0 : 0 ≤ n := by unfold sizeK at hs; split at hs; omega; omega
   have HK : Hid (cstrK s.rem c = fullK n.toNat (vR s.rem)) := hdd (by simp only [cstrK]; rw [if_pos HZ.out, ← HN.out, if_pos hs])
   obtain ⟨m, rfl⟩ := Int.eq_ofNat_of_zero_le hn0
   simp only [Int.ofNat_eq_natCast, Int.toNat_natCast] at *
   have HS : Hid (cstrS s.rem = (vR s.rem).take m ∧ cstrRem s.rem = (vR s.rem).drop m) := hdd (by simp only [cstrS, cstrRem]; rw [← HN.out]; simp)
   clear hs hv2
   by_cases hm0 : m = 0
   ·subst hm0
    go_wp2_with fail
    go_ret2
    refine ⟨_, _, _, _, rfl, ?_, h2, HVL.out, HK12.out, fun _ => ⟨?_, ?_⟩⟩
    ·rw [HK.out]; simpa [fullK] using ErrAt.nil _ _ _
    ·rw [HS.out.1]; simp
    ·rw [HS.out.2]; simp
   ·have hmz : ((m : Int) == 0) = false := by simp [hm0]
    by_cases hm64 : m < 64
    ·have hsl := fun w => cslice_arr P m (by omega) .i32 w
     go_wp2_with fail
     refine (cmp_readFull h2 m 64 (by omega) (by omega) (by omega)).mono ?_
     rintro e w3 ⟨ev, sc3, rfl, he3, h3, hk3, ht3⟩
     have hb3 := h3.blk
     have ht4 : sc3.take (min m (vR s.rem).length) = (vR s.rem).take m := ht3
     have hm3 : min m (s.at (vR s.rem)).rem.length = min m (vR s.rem).length := rfl
     have he4 : ErrAt E w2.heap.size w3 ev (endK m (vR s.rem)) := he3
     have hl4 : ((vR s.rem).take m).length = min m (vR s.rem).length := by rw [List.length_take]
     have HC := hdd (cblk_cells hb3 ht4)
     have hcv0 := conv_str (w := w3.drew) (cap := 64) hl4 HC.out
     have hq1 : min m (vR s.rem).length ≤ 64 := by omega
     rw [hm3]
     obtain ⟨sv, hsv⟩ : ∃ sv, (vR s.rem).take m = sv := ⟨_, rfl⟩
     rw [hsv] at hcv0 hl4 HC
     obtain ⟨q, hq⟩ : ∃ q, min m (vR s.rem).length = q := ⟨_, rfl⟩
     rw [hq] at hcv0 hl4 hq1 ⊢
     have hq2 : (0 : Int) ≤ (q : Nat) := by omega
     have HL := hdd hl4
     have HSV := hdd hsv
     have h3' : CmpP E P MB B D a c (s.at ((vR s.rem).drop m)) fv sc3 w3 := h3
     have H3 := hdd h3'
     have HE4 := hdd he4
     have HLP := hdd (lt_of_heap hb3)
     clear hq hl4 hsv ht3 ht4 hm3 he3 he4 h3 h3' hb3 hsl
     go_wp2_with fail
     go_region_with (go_at_call 76; refine (newPExc (w := w3.drew) (H3.out.glob.keep ((Keep.refl (fun _ => False) w3).drew) (fun _ x => x.elim)) (n0 := w.heap.size) (hk3.lt (HK12.out.size)) ((HE4.out.mono (HK12.out.size)).eqv (Eqv.drew w3)) (endK_lt _ _)).mono ?_; rintro e w4 ⟨v, rfl, hv4, hk4⟩; have hcv1 := conv_str (w := w4) (cap := 64) HL.out (fun j hj => (hk4.cell (p := ⟨P, 10 + j, none⟩) HLP.out id).trans (HC.out j hj)))
     all_goals
      go_wp2_with fail
      go_ret2
      have hkd : Keep (fun _ => False) w3 w4 := ((Keep.refl _ w3).drew).then hk4
      exact ⟨_, _, _, _, rfl, by rw [HK.out, ← pk_endK]; exact hv4, H3.out.fresh hkd, by have := HVL.out; simp; omega, HK12.out.then (hk3.then (hkd.weak (fun _ _ x => x.elim))), fun _ => ⟨by rw [HS.out.1, HSV.out], HS.out.2.symm⟩⟩
    ·go_wp2_with fail
     refine (safeRead (n := m) h2.glob h2.mem (by omega)).mono ?_
     rintro e w3 ⟨g, cap, ev, s2, rfl, he3, hm3, hk3, hgw, hs2, hb2, ht2, hle, hcap⟩
     have hk23 : Keep (MB2 P B) w2 w3 := hk3.weak (fun _ _ x => .inl x)
     have h3 : CmpP E P MB B D a c (s.at ((vR s.rem).drop m)) fv sc w3 := h2.step (s' := s.at ((vR s.rem).drop m)) hk23 h2.sc64 ((hk3.block P h2.ltP (fun e => h2.neB e.symm)).trans h2.blk) hm3 rfl h2.last16
     have ht4 : s2.take (min m (vR s.rem).length) = (vR s.rem).take m := ht2
     have hm3 : min m (s.at (vR s.rem)).rem.length = min m (vR s.rem).length := rfl
     have he4 : ErrAt E w2.heap.size w3 ev (safeK m (vR s.rem)) := he3
     have hl4 : ((vR s.rem).take m).length = min m (vR s.rem).length := by rw [List.length_take]
     have HC := hdd (row_cells hb2 ht4)
     have hcv0 := conv_str (w := w3.drew) (cap := cap) hl4 HC.out
     rw [hm3]
     obtain ⟨sv, hsv⟩ : ∃ sv, (vR s.rem).take m = sv := ⟨_, rfl⟩
     rw [hsv] at hcv0 hl4 HC
     obtain ⟨q, hq⟩ : ∃ q, min m (vR s.rem).length = q := ⟨_, rfl⟩
     rw [hq] at hcv0 hl4 ⊢
     have HL := hdd hl4
     have HSV := hdd hsv
     have H3 := hdd h3
     have HE4 := hdd he4
     have HLP := hdd (lt_of_heap hb2)
     clear hq hl4 hsv ht2 ht4 hm3 he3 he4 h3 hb2 hle
     go_wp2_with fail
     go_region_with (go_at_call 76; refine (newPExc (w := w3.drew) (H3.out.glob.keep ((Keep.refl (fun _ => False) w3).drew) (fun _ x => x.elim)) (n0 := w.heap.size) (hk3.lt (HK12.out.size)) ((HE4.out.mono (HK12.out.size)).eqv (Eqv.drew w3)) (safeK_lt _ _)).mono ?_; rintro e w4 ⟨v, rfl, hv4, hk4⟩; have hcv1 := conv_str (w := w4) (cap := cap) HL.out (fun j hj => (hk4.cell (p := ⟨g, 0 + j, none⟩) HLP.out id).trans (HC.out j hj)))
     all_goals
      go_wp2_with fail
      go_ret2
      have hkd : Keep (fun _ => False) w3 w4 := ((Keep.refl _ w3).drew).then hk4
      exact ⟨_, _, _, _, rfl, by rw [HK.out, ← safeK_pk]; exact hv4, H3.out.fresh hkd, by have := HVL.out; simp; omega, HK12.out.then (hk23.then (hkd.weak (fun _ _ x => x.elim))), fun _ => ⟨by rw [HS.out.1, HSV.out], HS.out.2.symm⟩⟩
  ·obtain ⟨t, x, rfl⟩ := hv2.held hs
   have HK : Hid (cstrK s.rem c = sizeK n c) := hdd (by simp only [cstrK]; rw [if_pos HZ.out, ← HN.out, if_neg hs])
   have HSS := hdd hs
   clear hs
   go_wp2_with fail
   go_ret2
   exact ⟨_, _, _, _, rfl, by rw [HK.out]; exact hv2, h2, HVL.out, HK12.out, fun hh => absurd (HK.out ▸ hh) HSS.out⟩
 ·obtain ⟨t, x, rfl⟩ := he1.held hz
  have HK : Hid (cstrK s.rem c = pk (vK s.rem)) := hdd (by simp only [cstrK]; rw [if_neg hz])
  have HZ := hdd hz
  clear hz hv1 hkw1
  go_wp2_with fail
  refine (newPExc h1.glob (n0 := w.heap.size) hk1.size he1 (vK_lt _)).mono ?_
  rintro e w2 ⟨v, rfl, hv2, hk2⟩
  go_wp2_with fail
  go_ret2
  exact ⟨_, _, _, _, rfl, by rw [HK.out]; exact hv2, h1.fresh hk2, HVL.out, HKW1.out.then (hk2.weak (fun _ _ x => x.elim)), fun hh => absurd (HK.out ▸ hh) (pk_ne HZ.out)⟩
end
end Go.Proofs.YtjekbomlpcdojaaGreatDoor
