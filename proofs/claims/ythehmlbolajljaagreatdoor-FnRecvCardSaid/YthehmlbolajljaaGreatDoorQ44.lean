/- Part 44 of the proof: LwRc. -/
import Derived.Test.YthehmlbolajljaaGreatDoorQ25
import Derived.Test.YthehmlbolajljaaGreatDoorQ22
import Derived.Test.YthehmlbolajljaaGreatDoorQ42
import Derived.Test.YthehmlbolajljaaGreatDoorQ24
import Derived.Test.YthehmlbolajljaaGreatDoorQ43
set_option linter.unusedVariables false
set_option linter.unusedSimpArgs false
set_option linter.unusedSectionVars false
set_option maxHeartbeats 16000000
namespace Go.Proofs.YthehmlbolajljaaGreatDoor
open Go Go.RowKit
theorem BytesAt.lenV {A : Nat → Prop} {w : World} {a : Option Addr} {m c : Nat} {l : List UInt8} (h : BytesAt A w (.slice a m c) l) : m = l.length := by
 obtain ⟨a', c', e, _⟩ := h.cellAt'
 injection e
set_option maxRecDepth 100000 in
theorem Pm.recv_at {St : Type} (p : Pm St) {E : Env} {A A2 : Nat → Prop} (seq deep : Int) (hd0 : -9223372036854775808 ≤ deep) (hd1 : deep ≤ 9223372036854775807) (mv : Value) (m : List UInt8) (v : Value) (l : List UInt8) (w : World) (hg : Glob E w) (hm : BytesAt A2 w mv m) (h : BytesAt A w v l) :
  Calls Tryz.prog 7 #[confV p.no p.c, .int .i32 seq, mv, v, .int .i64 deep] w fun e w' => e = .returned (.bool true) ∧ Keep (fun _ => False) w w' := by
 obtain ⟨a, cc, rfl, hlb, _, _⟩ := h.cellAt'
 obtain ⟨ma, mcc, rfl, hmb, _, _⟩ := hm.cellAt'
 obtain ⟨L, hL⟩ : ∃ L, l.length = L := ⟨_, rfl⟩
 obtain ⟨M, hMe⟩ : ∃ M, m.length = M := ⟨_, rfl⟩
 obtain ⟨T, hT⟩ : ∃ T, rcvR p.pr (p.gK (p.st0 l)) (p.gT (p.st0 l)) (p.gN (p.st0 l)) (p.gB (p.st0 l)) (p.gS (p.st0 l)) seq m deep.toNat = T := ⟨_, rfl⟩
 have HT := hdd hT
 have H := hdd h
 have HMV := hdd hm
 clear hT h hm
 rw [hL] at hlb H ⊢
 rw [hMe] at hmb HMV ⊢
 have HL := hdd hL
 have HML := hdd hMe
 clear hL hMe
 by_cases hbig : 2147483647 < M ∨ 2147483647 < L
 ·rcases hbig with hM | hM
  ·have hM' : (2147483647 : Int) < (M : Int) := by omega
   go_enter Tryz.func7, Tryz.ntmps7
   go_wp2_with fail
   go_ret
   exact ⟨rfl, (Keep.refl _ w).alloc _⟩
  ·have hM' : (2147483647 : Int) < (L : Int) := by omega
   by_cases hM2 : (2147483647 : Int) < (M : Int)
   ·go_enter Tryz.func7, Tryz.ntmps7
    go_wp2_with fail
    go_ret
    exact ⟨rfl, (Keep.refl _ w).alloc _⟩
   ·go_enter Tryz.func7, Tryz.ntmps7
    go_wp2_with fail
    go_ret
    exact ⟨rfl, (Keep.refl _ w).alloc _⟩
 have hM1 : ¬ (2147483647 : Int) < (M : Int) := by omega
 have hM2 : ¬ (2147483647 : Int) < (L : Int) := by omega
 clear hbig
 have hk0 : Keep (fun _ => False) w (w.alloc (.cells (confC p.no p.c) 23 (0, 0))) := (Keep.refl _ w).alloc _
 by_cases hmid : 65536 < L ∨ 65536 < M
 ·rcases hmid with hm | hm
  ·have hm' : (65536 : Int) < (L : Int) := by omega
   go_enter Tryz.func7, Tryz.ntmps7
   go_wp2_with fail
   refine (known_at _ (hg.keep hk0 (fun _ x => x.elim))).mono ?_
   rintro e w1 ⟨rfl, hk1⟩
   go_wp2_with fail
   go_ret
   exact ⟨rfl, hk0.then hk1⟩
  ·have hm' : (65536 : Int) < (M : Int) := by omega
   by_cases hm2 : (65536 : Int) < (L : Int)
   ·go_enter Tryz.func7, Tryz.ntmps7
    go_wp2_with fail
    refine (known_at _ (hg.keep hk0 (fun _ x => x.elim))).mono ?_
    rintro e w1 ⟨rfl, hk1⟩
    go_wp2_with fail
    go_ret
    exact ⟨rfl, hk0.then hk1⟩
   ·go_enter Tryz.func7, Tryz.ntmps7
    go_wp2_with fail
    refine (known_at _ (hg.keep hk0 (fun _ x => x.elim))).mono ?_
    rintro e w1 ⟨rfl, hk1⟩
    go_wp2_with fail
    go_ret
    exact ⟨rfl, hk0.then hk1⟩
 have hm1 : ¬ (65536 : Int) < (L : Int) := by omega
 have hm2 : ¬ (65536 : Int) < (M : Int) := by omega
 have hp0 := heap_alloc_new w (.cells (confC p.no p.c) 23 (0, 0))
 have HLM : Hid (l.length ≤ 1099511627775 ∧ m.length ≤ 1099511627775) := hdd ⟨by rw [HL.out]; omega, by rw [HML.out]; omega⟩
 clear hmid
 go_enter Tryz.func7, Tryz.ntmps7
 go_wp2_with fail
 obtain ⟨n, hn⟩ : ∃ n, w.heap.size = n := ⟨_, rfl⟩
 rw [hn] at hp0 ⊢
 generalize w.alloc (.cells (confC p.no p.c) 23 (0, 0)) = w1 at *
 have HP := hdd hp0
 clear hn hp0
 have hb1 := H.out.keep hk0 (fun _ _ => id)
 have hmb1 := HMV.out.keep hk0 (fun _ _ => id)
 refine (p.impl_recv (E := E) seq deep hd0 hd1 _ m _ l w1 (hg.keep hk0 (fun _ x => x.elim)) hmb1 HLM.out.2 hb1 HLM.out.1 T HT.out).mono ?_
 rintro e w2 ⟨ty, N, Sa, Sm, Sc, KT, E', Ia, Im, Ic, La, Lm, Lc, va, vm, vc, left, rfl, hleft, htext, hval, hk2⟩
 have HLE := hdd hleft
 have HTE := hdd htext
 have HVA := hdd hval
 have hc2 := (hk2.block n (lt_of_heap HP.out) id).trans HP.out
 have hlt2 := lt_of_heap hc2
 obtain ⟨c0, c1, c2, c3, c4, c5, c6⟩ := conf_cells7 hc2
 clear hleft htext hval hc2
 go_wp2_with fail
 have hkv : Keep (fun _ => False) w2 (w2.alloc (.cells (valC ty N (.slice Sa Sm Sc) KT E' (.slice Ia Im Ic) (.slice La Lm Lc)) 29 (0, 0))) := (Keep.refl _ w2).alloc _
 have hV1 := heap_alloc_new w2 (.cells (valC ty N (.slice Sa Sm Sc) KT E' (.slice Ia Im Ic) (.slice La Lm Lc)) 29 (0, 0))
 obtain ⟨U1, hU1⟩ : ∃ U1, w2.heap.size = U1 := ⟨_, rfl⟩
 rw [hU1] at hV1 ⊢
 generalize w2.alloc (.cells (valC ty N (.slice Sa Sm Sc) KT E' (.slice Ia Im Ic) (.slice La Lm Lc)) 29 (0, 0)) = w3 at *
 have HV1 := hdd hV1
 have hb3 := hb1.keep (hk2.then hkv) (fun _ _ => id)
 have hmb3 := hmb1.keep (hk2.then hkv) (fun _ _ => id)
 clear c0 c1 c2 c3 c4 c5 c6 hU1 hV1 hlt2
 refine (p.spec_recv seq deep hd0 hd1 _ m _ l w3 hmb3 HLM.out.2 hb3 HLM.out.1 T HT.out).mono ?_
 rintro e w4 ⟨ty2, N2, Sa2, Sm2, Sc2, KT2, E2', Ia2, Im2, Ic2, La2, Lm2, Lc2, va2, vm2, vc2, x, rest, rfl, hx, htx2, hv2, hk4⟩
 have HX := hdd hx
 have HT2 := hdd htx2
 have HV2 := hdd hv2
 have hk15 : Keep (fun _ => False) w w4 := hk0.then (hk2.then (hkv.then hk4))
 have HV4 := hdd ((hk4.block U1 (lt_of_heap HV1.out) id).trans HV1.out)
 have HKV4 := hdd (hkv.then hk4)
 have HK15 := hdd hk15
 clear hx htx2 hv2 hb1 hb3 hmb1 hmb3 hkv hk4 hk2 hk15
 have hkw : Keep (fun _ => False) w4 (w4.alloc (.cells (valC ty2 N2 (.slice Sa2 Sm2 Sc2) KT2 E2' (.slice Ia2 Im2 Ic2) (.slice La2 Lm2 Lc2)) 34 (0, 0))) := (Keep.refl _ w4).alloc _
 have hV2 := heap_alloc_new w4 (.cells (valC ty2 N2 (.slice Sa2 Sm2 Sc2) KT2 E2' (.slice Ia2 Im2 Ic2) (.slice La2 Lm2 Lc2)) 34 (0, 0))
 obtain ⟨U2, hU2⟩ : ∃ U2, w4.heap.size = U2 := ⟨_, rfl⟩
 have hlt1 := lt_of_heap HV4.out
 by_cases hz : x = 0
 ·have e0 : T.1 = 0 := Sk.zero (hz ▸ HX.out)
  obtain ⟨hl2, htn, A2', hv2⟩ := HV2.out hz
  have hl1 := HLE.out (.inl e0)
  have e1 : left = rest := hl1.trans hl2.symm
  obtain ⟨A1', hb1⟩ := HTE.out
  obtain ⟨A1v, hv1⟩ := HVA.out e0
  have hvm : vm = 0 := by rw [hb1.lenV, htn]; rfl
  have hvm2 : vm2 = 0 := by
   by_cases h0 : vm2 = 0
   ·exact h0
   ·obtain ⟨_, A'', hb⟩ := HT2.out h0
    rw [hb.lenV, htn]; rfl
  subst e1 hvm hvm2
  have hzb : (x != 0) = false := by simp [hz]
  have HZ := hdd hz
  have HV := hdd (And.intro hv1 hv2)
  clear hz e0 hl1 hl2 hv1 hv2 hb1 htn
  go_wp2_with fail
  rw [hU2] at hV2
  generalize w4.alloc (.cells (valC ty2 N2 (.slice Sa2 Sm2 Sc2) KT2 E2' (.slice Ia2 Im2 Ic2) (.slice La2 Lm2 Lc2)) 34 (0, 0)) = w5 at *
  have hV1 := (hkw.block U1 hlt1 id).trans HV4.out
  have hg5 : Glob E w5 := hg.keep (HK15.out.then hkw) (fun _ x => x.elim)
  have HIV := hdd (isVal_same deep.toNat A1v A2' _ _ _ w5 (HV.out.1.keep (HKV4.out.then hkw) (fun _ _ => id)) (HV.out.2.keep hkw (fun _ _ => id)))
  refine (sameKind_at _ _ HX.out _).mono ?_
  rintro e w6 ⟨rfl, rfl⟩
  obtain ⟨x0, x1, x2, x3, x4, x5, x6⟩ := got_cells hV1
  obtain ⟨y0, y1, y2, y3, y4, y5, y6⟩ := got_cells hV2
  clear hV1 hV2 hU2
  go_wp2_with fail
  refine HIV.out.mono ?_
  rintro e w7 ⟨rfl, hk7⟩
  go_wp2_with fail
  refine (known_at _ (hg5.keep hk7 (fun _ x => x.elim))).mono ?_
  rintro e w8 ⟨rfl, hk8⟩
  go_wp2_with fail
  go_ret
  exact ⟨rfl, HK15.out.then (hkw.then (hk7.then hk8))⟩
 ·have hzb : (x != 0) = true := by simpa using hz
  have HZ := hdd hz
  clear hz
  by_cases hvm2 : vm2 = 0
  ·subst hvm2
   go_wp2_with fail
   rw [hU2] at hV2
   generalize w4.alloc (.cells (valC ty2 N2 (.slice Sa2 Sm2 Sc2) KT2 E2' (.slice Ia2 Im2 Ic2) (.slice La2 Lm2 Lc2)) 34 (0, 0)) = w5 at *
   have hg5 : Glob E w5 := hg.keep (HK15.out.then hkw) (fun _ x => x.elim)
   refine (sameKind_at _ _ HX.out _).mono ?_
   rintro e w6 ⟨rfl, rfl⟩
   go_wp2_with fail
   refine (known_at _ hg5).mono ?_
   rintro e w8 ⟨rfl, hk8⟩
   go_wp2_with fail
   go_ret
   exact ⟨rfl, HK15.out.then (hkw.then hk8)⟩
  ·obtain ⟨hl2, A2', hb2⟩ := HT2.out hvm2
   have htn : T.2.2.1 ≠ [] := fun e => hvm2 (by rw [hb2.lenV, e]; rfl)
   have hl1 := HLE.out (.inr htn)
   have e1 : left = rest := hl1.trans hl2.symm
   obtain ⟨A1', hb1⟩ := HTE.out
   subst e1
   have hpos : (0 : Int) < (vm2 : Int) := by omega
   have HBB := hdd (And.intro hb1 hb2)
   clear hl1 hl2 hb1 hb2 htn hvm2
   go_wp2_with fail
   rw [hU2] at hV2
   generalize w4.alloc (.cells (valC ty2 N2 (.slice Sa2 Sm2 Sc2) KT2 E2' (.slice Ia2 Im2 Ic2) (.slice La2 Lm2 Lc2)) 34 (0, 0)) = w5 at *
   have hg5 : Glob E w5 := hg.keep (HK15.out.then hkw) (fun _ x => x.elim)
   refine (equal_same (HBB.out.1.keep (HKV4.out.then hkw) (fun _ _ => id)) (HBB.out.2.keep hkw (fun _ _ => id))).mono ?_
   rintro e w6 ⟨rfl, nn, rfl⟩
   go_wp2_with fail
   refine (sameKind_at _ _ HX.out _).mono ?_
   rintro e w6 ⟨rfl, rfl⟩
   go_wp2_with fail
   refine (known_at _ (hg5.keep ((Keep.refl (fun _ => False) w5).drewN nn) (fun _ x => x.elim))).mono ?_
   rintro e w8 ⟨rfl, hk8⟩
   go_wp2_with fail
   go_ret
   exact ⟨rfl, HK15.out.then (hkw.then (((Keep.refl _ w5).drewN nn).then hk8))⟩
theorem law_recv {E : Env} {A A2 : Nat → Prop} (pr : Int) (c : Cfg) (hp : c.p = pr) (hc : c.ok) (seq deep : Int) (hd0 : -9223372036854775808 ≤ deep) (hd1 : deep ≤ 9223372036854775807) (mv : Value) (m : List UInt8) (v : Value) (l : List UInt8) (w : World) (hg : Glob E w) (hm : BytesAt A2 w mv m) (h : BytesAt A w v l) :
  Calls Tryz.prog 7 #[confV pr c, .int .i32 seq, mv, v, .int .i64 deep] w fun e w' => e = .returned (.bool true) ∧ Keep (fun _ => False) w w' := by
 by_cases h1 : pr = 1
 ·subst h1
  exact (Cmp.pm c hc).recv_at seq deep hd0 hd1 mv m v l w hg hm h
 ·have e : Bin.no c = pr := (Cfg.b_eq (by rw [hp]; exact h1)).trans hp
  rw [← e]
  exact (Bin.pm c hc).recv_at seq deep hd0 hd1 mv m v l w hg hm h
end Go.Proofs.YthehmlbolajljaaGreatDoor
