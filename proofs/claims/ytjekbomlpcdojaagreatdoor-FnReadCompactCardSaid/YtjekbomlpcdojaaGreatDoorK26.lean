/- Part 26 of the proof: BytCmp. -/
import Derived.Test.YtjekbomlpcdojaaGreatDoorK21
import Derived.Test.YtjekbomlpcdojaaGreatDoorK25
set_option linter.unusedVariables false
set_option linter.unusedSimpArgs false
set_option linter.unusedSectionVars false
set_option maxHeartbeats 16000000
namespace Go.Proofs.YtjekbomlpcdojaaGreatDoor
open Go Go.RowKit
section
variable {E : Env} {P MB B D : Nat} {a : Option Addr} {c : Cfg} {s s' : Cmp.St} {fv : Value} {sc sc' : List UInt8} {w w' : World}
def CByt (E : Env) (P MB B D : Nat) (a : Option Addr) (c : Cfg) (s : Cmp.St) (fv : Value) (w : World) (e : Ending) (w' : World) : Prop :=
 ∃ (v : Value) (l : List UInt8) (ev : Value) (r' sc' : List UInt8), e = .returned (.tuple #[v, ev]) ∧ ErrAt E w.heap.size w' ev (cstrK s.rem c) ∧ CmpP E P MB B D a c (s.at r') fv sc' w' ∧ r'.length ≤ s.rem.length ∧ Keep (MB2 P B) w w' ∧ (∃ A, BytesAt A w' v l) ∧ (cstrK s.rem c = 0 → l = cstrS s.rem ∧ r' = cstrRem s.rem)
set_option maxRecDepth 100000 in
theorem cmp_readBinary (h : CmpP E P MB B D a c s fv sc w) :
  Calls Tryz.prog 219 #[.pointer (some ⟨P, 0, none⟩), ctxV] w (CByt E P MB B D a c s fv w) := by
 go_enter Tryz.func219, Tryz.ntmps219
 go_wp2_with fail
 refine (cmp_varint32 h).mono ?_
 rintro e w1 ⟨n, ev, rfl, he1, h1, hk1, hv1, hlo, hhi⟩
 have hkw1 : Keep (MB2 P B) w w1 := hk1.weak (fun _ _ x => .inl x)
 have HKW1 := hdd hkw1
 have HVL := hdd (vR_le s.rem)
 by_cases hz : vK s.rem = 0
 ·rw [hz] at he1
  have hev := he1.isNil
  subst hev
  have HN := hdd (hv1 hz)
  have HZ := hdd hz
  obtain ⟨c0, _, c2, _, _, _, _⟩ := h1.cells
  clear hv1 hz he1 hk1 hkw1
  go_wp2_with fail
  refine (checkSize (E := E) (n0 := w.heap.size) n hhi h1.cfg h1.cok HKW1.out.size).mono ?_
  rintro e w2 ⟨v, rfl, hv2, hk2⟩
  have h2 := h1.fresh hk2
  have hk12 : Keep (MB2 P B) w w2 := HKW1.out.then (hk2.weak (fun _ _ x => x.elim))
  have HK12 := hdd hk12
  clear c0 c2 hk12
  obtain ⟨c0, _, c2, _, _, _, _⟩ := h2.cells
  by_cases hs : sizeK n c = 0
  ·rw [hs] at hv2
   have hv3 := hv2.isNil
   subst hv3
   have hn0 : 0 ≤ n := by unfold sizeK at hs; split at hs; omega; omega
   have HK : Hid (cstrK s.rem c = fullK n.toNat (vR s.rem)) := hdd (by simp only [cstrK]; rw [if_pos HZ.out, ← HN.out, if_pos hs])
   obtain ⟨m, rfl⟩ := Int.eq_ofNat_of_zero_le hn0
   simp only [Int.ofNat_eq_natCast, Int.toNat_natCast] at *
   have HS : Hid (cstrS s.rem = (vR s.rem).take m ∧ cstrRem s.rem = (vR s.rem).drop m) := hdd (by simp only [cstrS, cstrRem]; rw [← HN.out]; simp)
   clear hs hv2
   by_cases hm0 : m = 0
   ·subst hm0
    go_wp2_with fail
    go_ret2
    have hkz : Keep (fun _ => False) w2 (w2.alloc (.cells #[] 5 (0, 0))) := (Keep.refl _ w2).alloc _
    refine ⟨_, [], _, _, _, rfl, ?_, h2.fresh hkz, HVL.out, HK12.out.then (hkz.weak (fun _ _ x => x.elim)), ⟨fun _ => True, .inl ⟨rfl, _, _, rfl⟩⟩, fun _ => ⟨?_, ?_⟩⟩
    ·rw [HK.out]; simpa [fullK] using ErrAt.nil _ _ _
    ·rw [HS.out.1]; simp
    ·rw [HS.out.2]; simp
   ·have hmz : ((m : Int) == 0) = false := by simp [hm0]
    go_wp2_with fail
    refine (safeRead (n := m) h2.glob h2.mem (by omega)).mono ?_
    rintro e w3 ⟨g, cap, ev, s2, rfl, he3, hm3, hk3, hgw, hs2, hb2, ht2, hle, hcap⟩
    have hk23 : Keep (MB2 P B) w2 w3 := hk3.weak (fun _ _ x => .inl x)
    have h3 : CmpP E P MB B D a c (s.at ((vR s.rem).drop m)) fv sc w3 := h2.step (s' := s.at ((vR s.rem).drop m)) hk23 h2.sc64 ((hk3.block P h2.ltP (fun e => h2.neB e.symm)).trans h2.blk) hm3 rfl h2.last16
    have hl3 : ((vR s.rem).take m).length = min m (vR s.rem).length := by rw [List.length_take]
    have HB := hdd (bytesAt_row (l := (vR s.rem).take m) hb2 ht2 hl3 hle hcap)
    have hmq : min m (s.at (vR s.rem)).rem.length = min m (vR s.rem).length := rfl
    have H3 := hdd h3
    have he4 : ErrAt E w2.heap.size w3 ev (safeK m (vR s.rem)) := he3
    have HE := hdd he4
    rw [hmq]
    generalize hmm : min m (vR s.rem).length = q at *
    clear hmq hl3 hmm hb2 ht2 he3 he4 h3 hle
    go_wp2_with fail
    refine (newPExc H3.out.glob (n0 := w.heap.size) (HK12.out.then hk23).size (HE.out.mono HK12.out.size) (safeK_lt _ _)).mono ?_
    rintro e w4 ⟨v, rfl, hv4, hk4⟩
    have HB4 := hdd (HB.out.keep hk4 (fun _ _ x => x))
    go_wp2_with fail
    go_ret2
    exact ⟨_, _, _, _, _, rfl, by rw [HK.out, ← safeK_pk]; exact hv4, H3.out.fresh hk4, by have := HVL.out; simp; omega, HK12.out.then (hk23.then (hk4.weak (fun _ _ x => x.elim))), ⟨_, HB4.out⟩, fun _ => ⟨HS.out.1.symm, HS.out.2.symm⟩⟩
  ·obtain ⟨t, x, rfl⟩ := hv2.held hs
   have HK : Hid (cstrK s.rem c = sizeK n c) := hdd (by simp only [cstrK]; rw [if_pos HZ.out, ← HN.out, if_neg hs])
   have HSS := hdd hs
   clear hs
   go_wp2_with fail
   go_ret2
   exact ⟨_, [], _, _, _, rfl, by rw [HK.out]; exact hv2, h2, HVL.out, HK12.out, ⟨fun _ => True, .inl ⟨rfl, _, _, rfl⟩⟩, fun hh => absurd (HK.out ▸ hh) HSS.out⟩
 ·obtain ⟨t, x, rfl⟩ := he1.held hz
  have HK : Hid (cstrK s.rem c = pk (vK s.rem)) := hdd (by simp only [cstrK]; rw [if_neg hz])
  have HZ := hdd hz
  clear hz hv1 hkw1
  go_wp2_with fail
  refine (newPExc h1.glob (n0 := w.heap.size) hk1.size he1 (vK_lt _)).mono ?_
  rintro e w2 ⟨v, rfl, hv2, hk2⟩
  go_wp2_with fail
  go_ret2
  exact ⟨_, [], _, _, _, rfl, by rw [HK.out]; exact hv2, h1.fresh hk2, HVL.out, HKW1.out.then (hk2.weak (fun _ _ x => x.elim)), ⟨fun _ => True, .inl ⟨rfl, _, _, rfl⟩⟩, fun hh => absurd (HK.out ▸ hh) (pk_ne HZ.out)⟩
end
end Go.Proofs.YtjekbomlpcdojaaGreatDoor
