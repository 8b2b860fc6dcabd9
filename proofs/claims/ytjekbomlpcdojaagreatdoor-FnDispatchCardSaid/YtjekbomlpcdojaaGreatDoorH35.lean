/- Part 35 of the proof: CmpMg, SpCMg. -/
import Derived.Test.YtjekbomlpcdojaaGreatDoorH34
set_option linter.unusedVariables false
set_option linter.unusedSimpArgs false
set_option linter.unusedSectionVars false
set_option maxHeartbeats 16000000
namespace Go.Proofs.YtjekbomlpcdojaaGreatDoor
open Go Go.RowKit
def cmK (c : Cfg) (s : Cmp.St) : Int := match s.rem with
 | [] => 1
 | b :: r => if b.toNat = 130 then (match r with | [] => 1 | b1 :: r1 => if b1.toNat % 32 = 1 then (if vK r1 = 0 then cstrK (vR r1) c else pk (vK r1)) else 14) else 14
def cmS (s : Cmp.St) : Cmp.St := s.at (cstrRem (vR (s.rem.drop 2)))
def cmT (s : Cmp.St) : Int := match s.rem with | _ :: b1 :: _ => ((b1.toNat / 32 : Nat) : Int) | _ => 0
def cmN (s : Cmp.St) : Int := v32 (s.rem.drop 2)
def cmB (s : Cmp.St) : List UInt8 := cstrS (vR (s.rem.drop 2))
theorem cmK_lt (c : Cfg) (s : Cmp.St) : cmK c s < 50 := by
 unfold cmK; repeat' split
 all_goals first | decide | exact pk_lt _ | exact cstrK_lt _ _
theorem and31_fin : ∀ m : Fin 256, bits .and .u8 ((m.val : Nat) : Int) 31 = ((m.val % 32 : Nat) : Int) := by decide +kernel
theorem u8_and31 (b : UInt8) : bits .and .u8 ((b.toNat : Nat) : Int) 31 = ((b.toNat % 32 : Nat) : Int) := and31_fin ⟨b.toNat, b.toNat_lt⟩
theorem and7_fin : ∀ m : Fin 8, bits .and .u8 ((m.val : Nat) : Int) 7 = ((m.val : Nat) : Int) := by decide +kernel
theorem shr5_and (b : UInt8) : bits .and .u8 ((b.toNat : Int) / 32) 7 = (b.toNat : Int) / 32 := by
 have h := b.toNat_lt
 have := and7_fin ⟨b.toNat / 32, by omega⟩
 simpa using this
section
variable {E : Env} {P MB B D : Nat} {a : Option Addr} {c : Cfg} {s s' : Cmp.St} {fv : Value} {sc sc' : List UInt8} {w w' : World}
def CMsg (E : Env) (P MB B D : Nat) (a : Option Addr) (c : Cfg) (s : Cmp.St) (fv : Value) (w : World) (e : Ending) (w' : World) : Prop :=
 ∃ n t sq ev s' sc', e = .returned (.tuple #[.string n, .int .i32 t, .int .i32 sq, ev]) ∧ ErrAt E w.heap.size w' ev (cmK c s) ∧ CmpP E P MB B D a c s' fv sc' w' ∧ Keep (MB2 P B) w w' ∧
  (cmK c s = 0 → n = ⟨(cmB s).toArray⟩ ∧ t = cmT s ∧ sq = cmN s ∧ s' = cmS s)
set_option maxRecDepth 100000 in
theorem cmp_msgBegin (h : CmpP E P MB B D a c s fv sc w) :
  Calls Tryz.prog 232 #[.pointer (some ⟨P, 0, none⟩), ctxV] w (CMsg E P MB B D a c s fv w) := by
 go_enter Tryz.func232, Tryz.ntmps232
 go_wp2_with fail
 refine (ctx_deadline _).mono ?_
 rintro e w1 ⟨rfl, hk1⟩
 go_wp2_with fail
 generalize hw2 : w1.alloc (.cells #[] 419) = w2
 have hk2 : Keep (fun _ => False) w w2 := hw2 ▸ hk1.alloc _
 clear hw2 hk1
 have h2 := h.fresh hk2
 have HK2 := hdd hk2
 clear hk2
 refine wp_loop_rounds 1 ?_
 rw [rounds_succ]
 go_wp2_with fail
 refine (cmp_byte h2).mono ?_
 rintro e w3 ⟨n, ev, rfl, he, hp, hk, hn, hv⟩
 have HK3 := hdd ((HK2.out.weak (fun _ _ x => x.elim) : Keep (MB2 P B) w w2).then (hk.weak (fun _ _ x => .inl x)))
 obtain ⟨rem, last, outer, pend, val⟩ := s
 cases rem with
 | nil =>
  have HE := hdd (he.mono HK2.out.size)
  obtain ⟨t, x, rfl⟩ := he.held (show (1 : Int) ≠ 0 by decide)
  clear hv he
  go_wp2_with fail
  go_returns
  exact ⟨_, _, _, _, _, _, rfl, HE.out, hp, HK3.out, fun hh => by cases hh⟩
 | cons b r =>
  have hev : ev = .nilIface := by rw [endK, if_pos (by simp)] at he; exact he.isNil
  subst hev
  have hnb := hv b r rfl
  subst hnb
  have HP1 : Hid (CmpP E P MB B D a c ⟨r, last, outer, pend, val⟩ fv sc w3) := hdd hp
  clear hv he hp hk hn h2
  by_cases hid : b.toNat = 130
  ·have hidi : (b.toNat : Int) = 130 := by omega
   rw [hidi]
   go_wp2_with fail
   refine (cmp_byte HP1.out).mono ?_
   rintro e w4 ⟨n, ev, rfl, he, hp, hk, hn, hv⟩
   have HK4 := hdd (HK3.out.then (hk.weak (fun _ _ x => .inl x)))
   cases r with
   | nil =>
    have HE := hdd (he.mono HK3.out.size)
    have HKK : Hid (cmK c ⟨[b], last, outer, pend, val⟩ = 1) := hdd (by simp only [cmK]; rw [if_pos hid])
    obtain ⟨t, x, rfl⟩ := he.held (show (1 : Int) ≠ 0 by decide)
    clear hv he
    go_wp2_with fail
    go_returns
    exact ⟨_, _, _, _, _, _, rfl, by rw [HKK.out]; exact HE.out, hp, HK4.out, fun hh => by rw [HKK.out] at hh; omega⟩
   | cons b1 r1 =>
    have hev : ev = .nilIface := by rw [endK, if_pos (by simp)] at he; exact he.isNil
    subst hev
    have hnb := hv b1 r1 rfl
    subst hnb
    have HP2 : Hid (CmpP E P MB B D a c ⟨r1, last, outer, pend, val⟩ fv sc w4) := hdd hp
    have h31 := u8_and31 b1
    have h7 := shr5_and b1
    have hb8 := b1.toNat_lt
    clear hv he hp hk hn
    by_cases hver : b1.toNat % 32 = 1
    ·have hveri : ((b1.toNat % 32 : Nat) : Int) = 1 := by omega
     rw [hveri] at h31
     have HKA : Hid (cmK c ⟨b :: b1 :: r1, last, outer, pend, val⟩ = if vK r1 = 0 then cstrK (vR r1) c else pk (vK r1)) := hdd (by simp only [cmK]; rw [if_pos hid, if_pos hver])
     go_wp2_with fail
     refine (cmp_varint32 HP2.out).mono ?_
     rintro e w5 ⟨sq, ev, rfl, he5, hp5, hk5, hv5, hlo5, hhi5⟩
     have HK5 := hdd (HK4.out.then (hk5.weak (fun _ _ x => .inl x)))
     by_cases hz : vK r1 = 0
     ·have hev : ev = .nilIface := by
       have he2 : ErrAt E w4.heap.size w5 ev (vK r1) := he5
       rw [hz] at he2; exact he2.isNil
      subst hev
      have HSQ : Hid (sq = v32 r1) := hdd (hv5 hz)
      have HKB : Hid (cmK c ⟨b :: b1 :: r1, last, outer, pend, val⟩ = cstrK (vR r1) c) := hdd (HKA.out.trans (if_pos hz))
      clear he5 hv5 hz
      go_wp2_with fail
      refine (cmp_readString hp5).mono ?_
      rintro e w6 ⟨l, ev, r', sc', rfl, he6, hp6, hl6, hk6, hv6⟩
      have HK6 := hdd (HK5.out.then hk6)
      have HE6 := hdd (he6.mono HK5.out.size)
      have HV6 := hdd hv6
      clear he6 hv6
      go_wp2_with fail
      go_returns
      refine ⟨_, _, _, _, _, _, rfl, by rw [HKB.out]; exact HE6.out, hp6, HK6.out, fun hh => ?_⟩
      rw [HKB.out] at hh
      obtain ⟨q1, q2⟩ := HV6.out hh
      refine ⟨by rw [q1]; rfl, ?_, by rw [HSQ.out]; rfl, by rw [q2]; rfl⟩
      simp [cmT]
     ·have he2 : ErrAt E w4.heap.size w5 ev (vK r1) := he5
      have HE := hdd (he2.mono HK4.out.size)
      obtain ⟨t, x, rfl⟩ := he2.held hz
      have HKB : Hid (cmK c ⟨b :: b1 :: r1, last, outer, pend, val⟩ = pk (vK r1)) := hdd (HKA.out.trans (if_neg hz))
      have HZ := hdd hz
      have hlt := vK_lt r1
      clear he5 he2 hv5 hz
      go_wp2_with fail
      refine (newPExc hp5.glob HK5.out.size HE.out hlt).mono ?_
      rintro e w6 ⟨ev', rfl, he6, hk6⟩
      go_wp2_with fail
      go_returns
      exact ⟨_, _, _, _, _, _, rfl, by rw [HKB.out]; exact he6, hp5.fresh hk6, HK5.out.then (hk6.weak (fun _ _ x => x.elim)), fun hh => absurd (HKB.out ▸ hh) (pk_ne HZ.out)⟩
    ·have hveri : ¬ ((b1.toNat % 32 : Nat) : Int) = 1 := by omega
     have HKA : Hid (cmK c ⟨b :: b1 :: r1, last, outer, pend, val⟩ = 14) := hdd (by simp only [cmK]; rw [if_pos hid, if_neg hver])
     obtain ⟨m, hm⟩ : ∃ m : Int, ((b1.toNat % 32 : Nat) : Int) = m := ⟨_, rfl⟩
     rw [hm] at h31 hveri
     have hm0 : 0 ≤ m := by omega
     have hm1 : m < 32 := by omega
     clear hm hver
     go_wp2_with fail
     refine (errNew _ _).mono ?_
     rintro e w8 ⟨q, rfl, hb, _, hk8⟩
     go_wp2_with fail
     refine (newPExcT' (E := E) (n0 := w.heap.size) 4 (by omega) q 0 _ _ hb (hk8.lt HK4.out.size)).mono ?_
     rintro e w9 ⟨v, rfl, hv, hk9⟩
     go_wp2_with fail
     go_returns
     exact ⟨_, _, _, _, _, _, rfl, by rw [HKA.out]; exact hv, HP2.out.fresh (hk8.then hk9), HK4.out.then ((hk8.then hk9).weak (fun _ _ x => x.elim)), fun hh => by rw [HKA.out] at hh; omega⟩
  ·have hidi : ¬ (b.toNat : Int) = 130 := by omega
   have HKA : Hid (cmK c ⟨b :: r, last, outer, pend, val⟩ = 14) := hdd (by simp only [cmK]; rw [if_neg hid])
   have hb8 := b.toNat_lt
   clear hid
   go_wp2_with fail
   refine (errNew _ _).mono ?_
   rintro e w8 ⟨q, rfl, hb, _, hk8⟩
   go_wp2_with fail
   refine (newPExcT' (E := E) (n0 := w.heap.size) 4 (by omega) q 0 _ _ hb (hk8.lt HK3.out.size)).mono ?_
   rintro e w9 ⟨v, rfl, hv, hk9⟩
   go_wp2_with fail
   go_returns
   exact ⟨_, _, _, _, _, _, rfl, by rw [HKA.out]; exact hv, HP1.out.fresh (hk8.then hk9), HK3.out.then ((hk8.then hk9).weak (fun _ _ x => x.elim)), fun hh => by rw [HKA.out] at hh; omega⟩
end
section
variable {R TB DT : Nat} {c : Cfg} {n : Int} {s s2 s' : Cmp.St} {fv : Value} {v v2 : Int} {w w1 w' : World}
variable {a1 a2 a3 a4 a5 : Int} {sv : Value}
set_option maxRecDepth 100000 in
theorem c_msg (h : RdC R TB DT c n s fv v w) :
  Calls Tryz.prog 111 #[.pointer (some ⟨R, 0, none⟩)] w (GC R TB DT c n s fv w (cmK c s) (cmS s) (cmT s) 0 0 0 (cmN s) (cmB s)) := by
 obtain ⟨rem, last, outer, pend, val⟩ := s
 have hk0 : Keep (fun _ => False) w (w.alloc (.cells zGot 75)) := (Keep.refl _ w).alloc _
 have hU0 := heap_alloc_new w (.cells zGot 75)
 have hTU := h.ltT
 have hRU := h.ltR
 have HH := hdd h
 go_enter Tryz.func111, Tryz.ntmps111
 go_wp2_with fail
 have hsA : (w.alloc (.cells zGot 75)).heap.size = w.heap.size + 1 := by simp
 generalize w.alloc (.cells zGot 75) = wA at *
 obtain ⟨U, hU⟩ : ∃ U, w.heap.size = U := ⟨_, rfl⟩
 rw [hU] at hU0 hTU hRU hsA ⊢
 have HUS := hdd hU
 clear hU
 have hA := h.fresh hk0
 refine (rd_byte hA.p).mono ?_
 rintro e w1 ⟨b0, x, rfl, hx, hp1, hk1, hb⟩
 have hs1 : U + 1 ≤ w1.heap.size := by have := hk1.size; omega
 have HU := hdd ((hk1.block U (lt_of_heap hU0) (by omega)).trans hU0)
 have HK := hdd ((hk0.weak (fun _ _ x => x.elim) : Keep (RT R TB) w wA).then (hk1.weak (fun _ _ x => .inr x)))
 have H1 := hdd (hA.took hp1 hk1)
 obtain ⟨u0, u1, u2, u3, u4, u5, u6⟩ := got_cells HU.out
 obtain ⟨f0, f1, f2, f3, f4, f5, f6⟩ := got_free HU.out
 clear hU0 hp1 hk1
 cases rem with
 | nil =>
  have hx1 : x = -1 := by rcases hx with ⟨hx, _⟩ | ⟨_, hx⟩; exact hx; exact absurd rfl hx
  subst hx1
  clear hx hb
  go_wp2_with fail
  exact gc_ret (U := U) Tryz.results111 rfl rfl (Nat.le_of_eq HUS.out) HH.out H1.out HK.out HU.out ⟨_, _, _, rfl⟩ (.inr (.inl ⟨rfl, by simp [cmK], cmK_lt _ _⟩)) (fun hz => by cases hz)
 | cons b r =>
  have hx1 : x = 0 := by rcases hx with ⟨_, hx⟩ | ⟨hx, _⟩; cases hx; exact hx
  subst hx1
  have hb0 := hb b r rfl
  subst hb0
  have hb8 := b.toNat_lt
  clear hx hb
  by_cases hid : b.toNat = 130
  ·have hidi : (b.toNat : Int) = 130 := by omega
   rw [hidi]
   go_wp2_with fail
   refine (rd_byte H1.out.p).mono ?_
   rintro e w2 ⟨b0, x, rfl, hx, hp2, hk2, hb⟩
   have hs2 : U + 1 ≤ w2.heap.size := by have := hk2.size; omega
   have HU2 := hdd ((hk2.block U (lt_of_heap HU.out) (by omega)).trans HU.out)
   have HK2 := hdd (HK.out.then (hk2.weak (fun _ _ x => .inr x)))
   have H2 := hdd (H1.out.took hp2 hk2)
   clear u0 u1 u2 u3 u4 u5 u6 f0 f1 f2 f3 f4 f5 f6 hp2 hk2
   obtain ⟨u0, u1, u2, u3, u4, u5, u6⟩ := got_cells HU2.out
   obtain ⟨f0, f1, f2, f3, f4, f5, f6⟩ := got_free HU2.out
   cases r with
   | nil =>
    have hx1 : x = -1 := by rcases hx with ⟨hx, _⟩ | ⟨_, hx⟩; exact hx; exact absurd rfl hx
    subst hx1
    have HKK : Hid (cmK c ⟨[b], last, outer, pend, val⟩ = 1) := hdd (by simp only [cmK]; rw [if_pos hid])
    clear hx hb
    go_wp2_with fail
    exact gc_ret (U := U) Tryz.results111 rfl rfl (Nat.le_of_eq HUS.out) HH.out H2.out HK2.out HU2.out ⟨_, _, _, rfl⟩ (.inr (.inl ⟨rfl, by rw [HKK.out]; decide, cmK_lt _ _⟩)) (fun hz => by cases hz)
   | cons b1 r1 =>
    have hx1 : x = 0 := by rcases hx with ⟨_, hx⟩ | ⟨hx, _⟩; cases hx; exact hx
    subst hx1
    have hb0 := hb b1 r1 rfl
    subst hb0
    have h31 := u8_and31 b1
    have hb18 := b1.toNat_lt
    clear hx hb
    by_cases hver : b1.toNat % 32 = 1
    ·have hveri : ((b1.toNat % 32 : Nat) : Int) = 1 := by omega
     rw [hveri] at h31
     have HKA : Hid (cmK c ⟨b :: b1 :: r1, last, outer, pend, val⟩ = if vK r1 = 0 then cstrK (vR r1) c else pk (vK r1)) := hdd (by simp only [cmK]; rw [if_pos hid, if_pos hver])
     go_wp2_with fail
     refine (rd_varint H2.out.p 32 (.inl rfl)).mono ?_
     rintro e w3 ⟨N, x, r', rfl, hp3, hl3, hk3, hx, hN⟩
     have hs3 : U + 1 ≤ w3.heap.size := by have := hk3.size; omega
     have HU3 := hdd ((hk3.block U (lt_of_heap HU2.out) (by omega)).trans HU2.out)
     have HK3 := hdd (HK2.out.then (hk3.weak (fun _ _ x => .inr x)))
     have H3 := hdd (H2.out.took hp3 hk3)
     clear u0 u1 u2 u3 u4 u5 u6 f0 f1 f2 f3 f4 f5 f6 hp3 hk3
     obtain ⟨u0, u1, u2, u3, u4, u5, u6⟩ := got_cells HU3.out
     obtain ⟨f0, f1, f2, f3, f4, f5, f6⟩ := got_free HU3.out
     rcases hx with ⟨rfl, rfl⟩ | ⟨rfl, rfl, hvv⟩ | ⟨rfl, hvv, hnn, hr⟩
     ·go_wp2_with fail
      exact gc_ret (U := U) Tryz.results111 rfl rfl (Nat.le_of_eq HUS.out) HH.out H3.out HK3.out HU3.out ⟨_, _, _, rfl⟩ (.inl rfl) (fun hz => by cases hz)
     ·have HV : Hid (¬ vK r1 = 0) := hdd hvv
      clear hvv
      go_wp2_with fail
      exact gc_ret (U := U) Tryz.results111 rfl rfl (Nat.le_of_eq HUS.out) HH.out H3.out HK3.out HU3.out ⟨_, _, _, rfl⟩ (.inr (.inl ⟨rfl, by rw [HKA.out, if_neg HV.out]; exact pk_ne HV.out, cmK_lt _ _⟩)) (fun hz => by cases hz)
     ·have HV : Hid (vK r1 = 0) := hdd hvv
      have HKB : Hid (cmK c ⟨b :: b1 :: r1, last, outer, pend, val⟩ = cstrK (vR r1) c) := hdd (HKA.out.trans (if_pos hvv))
      have hr2 : r' = vR r1 := hr
      subst hr2
      have HNN : Hid (N = vN r1) := hdd hnn
      have hN2 : N < 4294967296 := by simpa using hN
      clear hvv hnn hr hN
      go_wp2_with fail
      refine (rd_text H3.out.p).mono ?_
      rintro e w4 ⟨S, x, r', rfl, hx, hp4, hl4, hr, hk4, hb, Sa, Sm, Sc, rfl⟩
      have HU4 := hdd ((hk4.block U (lt_of_heap HU3.out) (by omega)).trans HU3.out)
      have HK4 := hdd (HK3.out.then (hk4.weak (fun _ _ x => .inr x)))
      have H4 := hdd (H3.out.took hp4 hk4)
      have HX := hdd hx
      have HR := hdd hr
      have HB := hdd hb
      clear u0 u1 u2 u3 u4 u5 u6 f0 f1 f2 f3 f4 f5 f6 hp4 hk4 hx hr hb
      obtain ⟨u0, u1, u2, u3, u4, u5, u6⟩ := got_cells HU4.out
      obtain ⟨f0, f1, f2, f3, f4, f5, f6⟩ := got_free HU4.out
      by_cases hx0 : x = 0
      ·subst hx0
       have HSH : Hid (IntKind.i32.wrap (N : Int) = v32 r1) := hdd (by rw [i32_w32, HNN.out, v32_eq])
       obtain ⟨sq, hsq⟩ : ∃ sq, IntKind.i32.wrap (N : Int) = sq := ⟨_, rfl⟩
       have hsb := v32_bd r1
       rw [← HSH.out, hsq] at hsb
       obtain ⟨hsb1, hsb2⟩ := hsb
       go_wp2_with fail
       refine gc_ret (U := U) Tryz.results111 rfl rfl (Nat.le_of_eq HUS.out) HH.out H4.out HK4.out HU4.out ⟨_, _, _, rfl⟩ (by rw [HKB.out]; exact HX.out) (fun _ => ⟨?_, rfl, rfl, rfl, rfl, hsq.symm.trans HSH.out, ?_⟩)
       ·rw [HR.out (by trivial)]
        rfl
       ·exact (HB.out (by trivial)).weak (fun i _ hi => by omega)
      ·have hxb : (x == 0) = false := by simpa using hx0
       have HX0 := hdd hx0
       go_wp2_with fail
       exact gc_ret (U := U) Tryz.results111 rfl rfl (Nat.le_of_eq HUS.out) HH.out H4.out HK4.out HU4.out ⟨_, _, _, rfl⟩ (by rw [HKB.out]; exact HX.out) (fun hz => absurd hz HX0.out)
    ·have hveri : ¬ ((b1.toNat % 32 : Nat) : Int) = 1 := by omega
     have HKA : Hid (cmK c ⟨b :: b1 :: r1, last, outer, pend, val⟩ = 14) := hdd (by simp only [cmK]; rw [if_pos hid, if_neg hver])
     obtain ⟨m, hm⟩ : ∃ m : Int, ((b1.toNat % 32 : Nat) : Int) = m := ⟨_, rfl⟩
     rw [hm] at h31 hveri
     clear hm hver
     go_wp2_with fail
     exact gc_ret (U := U) Tryz.results111 rfl rfl (Nat.le_of_eq HUS.out) HH.out H2.out HK2.out HU2.out ⟨_, _, _, rfl⟩ (.inr (.inl ⟨rfl, by rw [HKA.out]; decide, cmK_lt _ _⟩)) (fun hz => by cases hz)
  ·have hidi : ¬ (b.toNat : Int) = 130 := by omega
   have HKA : Hid (cmK c ⟨b :: r, last, outer, pend, val⟩ = 14) := hdd (by simp only [cmK]; rw [if_neg hid])
   clear hid
   go_wp2_with fail
   exact gc_ret (U := U) Tryz.results111 rfl rfl (Nat.le_of_eq HUS.out) HH.out H1.out HK.out HU.out ⟨_, _, _, rfl⟩ (.inr (.inl ⟨rfl, by rw [HKA.out]; decide, cmK_lt _ _⟩)) (fun hz => by cases hz)
set_option maxRecDepth 100000 in
theorem c_d0_false (hp : s.pend = false) (h : RdC R TB DT c n s fv v w) :
  Calls Tryz.prog 82 #[.pointer (some ⟨R, 0, none⟩), .agg (stepG 0 a1 a2 a3 a4 a5 sv)] w (GC R TB DT c n s fv w (cmK c s) (cmS s) (cmT s) 0 0 0 (cmN s) (cmB s)) := by
 have hTU := h.ltT
 have hRU := h.ltR
 have HH := hdd h
 obtain ⟨c9, c10, c11, c12⟩ := h.ccells
 rw [hp] at c11
 have hk0 : Keep (fun _ => False) w ((w.alloc (.cells (stepG 0 a1 a2 a3 a4 a5 sv) 119)).alloc (.cells zGot 75)) := ((Keep.refl _ w).alloc _).alloc _
 have hU0 := heap_alloc_new (w.alloc (.cells (stepG 0 a1 a2 a3 a4 a5 sv) 119)) (.cells zGot 75)
 go_enter Tryz.func82, Tryz.ntmps82
 go_wp2_with fail
 obtain ⟨U, hU⟩ : ∃ U, w.heap.size + 1 = U := ⟨_, rfl⟩
 have hsA : ((w.alloc (.cells (stepG 0 a1 a2 a3 a4 a5 sv) 119)).alloc (.cells zGot 75)).heap.size = U + 1 := by simp [← hU]
 rw [show (w.alloc (.cells (stepG 0 a1 a2 a3 a4 a5 sv) 119)).heap.size = U by simp [← hU]] at hU0
 generalize (w.alloc (.cells (stepG 0 a1 a2 a3 a4 a5 sv) 119)).alloc (.cells zGot 75) = wA at *
 rw [hU]
 have HUS := hdd hU
 clear hU
 have hA := h.fresh hk0
 refine (c_msg hA).mono ?_
 rintro e w1 ⟨x, t, kt, size, id, N', S', rfl, ⟨Sa, Sm, Sc, rfl⟩, hx, h1, hk1, hv⟩
 have HU := hdd ((hk1.block U (lt_of_heap hU0) (by have := HUS.out; rintro (e | e) <;> omega)).trans hU0)
 have HK := hdd hk1
 have H1 := hdd h1
 have HX := hdd hx
 have HV := hdd hv
 have HK0 := hdd hk0
 obtain ⟨u0, u1, u2, u3, u4, u5, u6⟩ := got_cells HU.out
 obtain ⟨f0, f1, f2, f3, f4, f5, f6⟩ := got_free HU.out
 clear hx hv hU0 h1 hk1 hk0
 go_wp2_with fail
 exact gc_thru (U := U) Tryz.results82 rfl rfl (by have := HUS.out; omega) hsA HH.out HK0.out HU.out ⟨_, _, _, rfl⟩ HX.out H1.out HK.out HV.out
set_option maxRecDepth 100000 in
theorem c_d1_false (hp : s.pend = false) (h : RdC R TB DT c n s fv v w) :
  Calls Tryz.prog 82 #[.pointer (some ⟨R, 0, none⟩), .agg (stepG 1 a1 a2 a3 a4 a5 sv)] w (GC R TB DT c n s fv w 0 s 0 0 0 0 0 []) := by
 have hTU := h.ltT
 have hRU := h.ltR
 have HH := hdd h
 obtain ⟨c9, c10, c11, c12⟩ := h.ccells
 rw [hp] at c11
 go_enter Tryz.func82, Tryz.ntmps82
 go_wp2_with fail
 exact gc_ret_new (U := w.heap.size + 1) Tryz.results82 rfl rfl (by simp) HH.out (HH.out.fresh ((Keep.refl _ w).alloc _)) ((Keep.refl _ w).alloc _) ⟨_, _, _, rfl⟩ (.inr (.inr rfl)) (fun _ => ⟨rfl, rfl, rfl, rfl, rfl, rfl, fun w2 => BytesAt.nil _ w2⟩)
end
end Go.Proofs.YtjekbomlpcdojaaGreatDoor
