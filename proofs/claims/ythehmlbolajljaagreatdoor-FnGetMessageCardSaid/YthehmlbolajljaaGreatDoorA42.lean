/- Part 42 of the proof: LwMR, LwM. -/
import Derived.Test.YthehmlbolajljaaGreatDoorA23
import Derived.Test.YthehmlbolajljaaGreatDoorA20
import Derived.Test.YthehmlbolajljaaGreatDoorA25
import Derived.Test.YthehmlbolajljaaGreatDoorA38
import Derived.Test.YthehmlbolajljaaGreatDoorA39
import Derived.Test.YthehmlbolajljaaGreatDoorA22
import Derived.Test.YthehmlbolajljaaGreatDoorA41
set_option linter.unusedVariables false
set_option linter.unusedSimpArgs false
set_option linter.unusedSectionVars false
namespace Go.Proofs.YthehmlbolajljaaGreatDoor
open Go Go.RowKit
set_option maxRecDepth 100000 in
set_option maxHeartbeats 4000000 in
theorem Pm.message_at {St : Type} (p : Pm St) {E : Env} {A : Nat → Prop} (deep : Int) (hd0 : -9223372036854775808 ≤ deep) (hd1 : deep ≤ 9223372036854775807) (v : Value) (l : List UInt8) (w : World) (hg : Glob E w) (h : BytesAt A w v l) :
    Calls Tryz.prog 3 #[confV p.no p.c, v, .int .i64 deep] w fun e w' => e = .returned (.bool true) ∧ Keep (fun _ => False) w w' := by
  obtain ⟨a, cc, rfl, hlb, _, _⟩ := h.cellAt'
  obtain ⟨L, hL⟩ : ∃ L, l.length = L := ⟨_, rfl⟩
  obtain ⟨r, hr⟩ : ∃ r, msgR p.pr (p.gK (p.st0 l)) deep.toNat (p.gS (p.st0 l)) = r := ⟨_, rfl⟩
  have HR := Lib.hid hr
  have H := Lib.hid h
  clear hr h
  rw [hL] at hlb H ⊢
  have HL := Lib.hid hL
  clear hL
  by_cases hM : 2147483647 < L
  · have hM' : (2147483647 : Int) < (L : Int) := by omega
    go_enter Tryz.func3, Tryz.ntmps3
    go_wp2_with fail
    go_ret
    exact ⟨rfl, (Keep.refl _ w).alloc _⟩
  have hM' : ¬ (2147483647 : Int) < (L : Int) := by omega
  by_cases hm : 65536 < L
  · have hm' : (65536 : Int) < (L : Int) := by omega
    go_enter Tryz.func3, Tryz.ntmps3
    go_wp2_with fail
    have hk0 : Keep (fun _ => False) w (w.alloc (.cells (confC p.no p.c) 23 (0, 0))) := (Keep.refl _ w).alloc _
    refine (known_at _ (hg.keep hk0 (fun _ x => x.elim))).mono ?_
    rintro e w1 ⟨rfl, hk1⟩
    go_wp2_with fail
    go_ret
    exact ⟨rfl, hk0.then hk1⟩
  · have hm' : ¬ (65536 : Int) < (L : Int) := by omega
    have hk0 : Keep (fun _ => False) w (w.alloc (.cells (confC p.no p.c) 23 (0, 0))) := (Keep.refl _ w).alloc _
    have hp0 := heap_alloc_new w (.cells (confC p.no p.c) 23 (0, 0))
    go_enter Tryz.func3, Tryz.ntmps3
    go_wp2_with fail
    obtain ⟨n, hn⟩ : ∃ n, w.heap.size = n := ⟨_, rfl⟩
    rw [hn] at hp0 ⊢
    generalize w.alloc (.cells (confC p.no p.c) 23 (0, 0)) = w1 at *
    have HP := Lib.hid hp0
    clear hn hp0
    have hb1 := H.out.keep hk0 (fun _ _ => id)
    refine (p.impl_msg (E := E) Rp.gets deep hd0 hd1 _ l w1 (hg.keep hk0 (fun _ x => x.elim)) hb1 (by rw [HL.out]; omega) r HR.out).mono ?_
    rintro e w2 ⟨na, nm, nc, kd, sq, T, N, Sa, Sm, Sc, KT, E', Ia, Im, Ic, La, Lm, Lc, left, rfl, hres, hk2⟩
    have HRES := Lib.hid hres
    have hc2 := (hk2.block n (lt_of_heap HP.out) id).trans HP.out
    have hlt2 := lt_of_heap hc2
    obtain ⟨c0, c1, c2, c3, c4, c5, c6⟩ := conf_cells7 hc2
    clear hres hc2
    go_wp2_with fail
    have hkv : Keep (fun _ => False) w2 (w2.alloc (.cells (valC T N (.slice Sa Sm Sc) KT E' (.slice Ia Im Ic) (.slice La Lm Lc)) 29 (0, 0))) := (Keep.refl _ w2).alloc _
    have hV1 := heap_alloc_new w2 (.cells (valC T N (.slice Sa Sm Sc) KT E' (.slice Ia Im Ic) (.slice La Lm Lc)) 29 (0, 0))
    obtain ⟨U1, hU1⟩ : ∃ U1, w2.heap.size = U1 := ⟨_, rfl⟩
    rw [hU1] at hV1 ⊢
    generalize w2.alloc (.cells (valC T N (.slice Sa Sm Sc) KT E' (.slice Ia Im Ic) (.slice La Lm Lc)) 29 (0, 0)) = w3 at *
    have HV1 := Lib.hid hV1
    have hb3 := hb1.keep (hk2.then hkv) (fun _ _ => id)
    clear c0 c1 c2 c3 c4 c5 c6 hU1 hV1 hlt2
    refine (p.spec_msg deep hd0 hd1 _ l w3 hb3 (by rw [HL.out]; omega) r HR.out).mono ?_
    rintro e w4 ⟨na2, nm2, nc2, kd2, sq2, T2, N2, Sa2, Sm2, Sc2, KT2, E2', Ia2, Im2, Ic2, La2, Lm2, Lc2, x, rest, rfl, hx, hres2, hk4⟩
    have HX := Lib.hid hx
    have HRES2 := Lib.hid hres2
    have hk15 : Keep (fun _ => False) w w4 := hk0.then (hk2.then (hkv.then hk4))
    have hV1 := (hk4.block U1 (lt_of_heap HV1.out) id).trans HV1.out
    have hlt1 := lt_of_heap hV1
    have HV4 := Lib.hid hV1
    clear hx hres2 hb1 hb3 hV1
    have hkw : Keep (fun _ => False) w4 (w4.alloc (.cells (valC T2 N2 (.slice Sa2 Sm2 Sc2) KT2 E2' (.slice Ia2 Im2 Ic2) (.slice La2 Lm2 Lc2)) 34 (0, 0))) := (Keep.refl _ w4).alloc _
    have hV2 := heap_alloc_new w4 (.cells (valC T2 N2 (.slice Sa2 Sm2 Sc2) KT2 E2' (.slice Ia2 Im2 Ic2) (.slice La2 Lm2 Lc2)) 34 (0, 0))
    obtain ⟨U2, hU2⟩ : ∃ U2, w4.heap.size = U2 := ⟨_, rfl⟩
    by_cases hz : x = 0
    · have e0 : r.1 = 0 := Sk.zero (hz ▸ HX.out)
      obtain ⟨hl1, hkd1, hsq1, ⟨B1, hn1⟩, A1, hv1⟩ := HRES.out e0
      obtain ⟨hl2, hkd2, hsq2, ⟨B2, hn2⟩, A2, hv2⟩ := HRES2.out hz
      have e1 : left = rest := hl1.trans hl2.symm
      have e2 : kd = kd2 := hkd1.trans hkd2.symm
      have e3 : sq = sq2 := hsq1.trans hsq2.symm
      subst e1 e2 e3
      have HNN := Lib.hid (And.intro hn1 hn2)
      have hzb : (x != 0) = false := by simp [hz]
      have HZ := Lib.hid hz
      have HV := Lib.hid (And.intro hv1 hv2)
      clear hz e0 hl1 hl2 hv1 hv2 hkd1 hkd2 hsq1 hsq2 hn1 hn2
      go_wp2_with fail
      rw [hU2] at hV2
      generalize w4.alloc (.cells (valC T2 N2 (.slice Sa2 Sm2 Sc2) KT2 E2' (.slice Ia2 Im2 Ic2) (.slice La2 Lm2 Lc2)) 34 (0, 0)) = w5 at *
      have hV1 := (hkw.block U1 hlt1 id).trans HV4.out
      have hg5 : Glob E w5 := hg.keep (hk15.then hkw) (fun _ x => x.elim)
      have HIV := Lib.hid (fun m => isVal_same deep.toNat A1 A2 _ _ _ (w5.drewN m) ((HV.out.1.keep (hkv.then (hk4.then hkw)) (fun _ _ => id)).keep ((Keep.refl (fun _ => False) w5).drewN m) (fun _ _ => id)) ((HV.out.2.keep hkw (fun _ _ => id)).keep ((Keep.refl (fun _ => False) w5).drewN m) (fun _ _ => id)))
      have HEQ := Lib.hid (equal_same (HNN.out.1.keep (hkv.then (hk4.then hkw)) (fun _ _ => id)) (HNN.out.2.keep hkw (fun _ _ => id)))
      refine (sameKind_at _ _ HX.out _).mono ?_
      rintro e w6 ⟨rfl, rfl⟩
      go_wp2_with fail
      refine HEQ.out.mono ?_
      rintro e w6 ⟨rfl, m, rfl⟩
      have hV1m := (((Keep.refl (fun _ => False) w5).drewN m).block U1 (lt_of_heap hV1) id).trans hV1
      have hV2m := (((Keep.refl (fun _ => False) w5).drewN m).block U2 (lt_of_heap hV2) id).trans hV2
      obtain ⟨x0, x1, x2, x3, x4, x5, x6⟩ := got_cells hV1m
      obtain ⟨y0, y1, y2, y3, y4, y5, y6⟩ := got_cells hV2m
      clear hV1 hV2 hU2 hV1m hV2m
      go_wp2_with fail
      refine (HIV.out m).mono ?_
      rintro e w7 ⟨rfl, hk7⟩
      go_wp2_with fail
      refine (known_at _ (hg5.keep (((Keep.refl _ w5).drewN m).then hk7) (fun _ x => x.elim))).mono ?_
      rintro e w8 ⟨rfl, hk8⟩
      go_wp2_with fail
      go_ret
      exact ⟨rfl, hk15.then (hkw.then (((Keep.refl _ w5).drewN m).then (hk7.then hk8)))⟩
    · have hzb : (x != 0) = true := by simpa using hz
      have HZ := Lib.hid hz
      clear hz
      go_wp2_with fail
      rw [hU2] at hV2
      generalize w4.alloc (.cells (valC T2 N2 (.slice Sa2 Sm2 Sc2) KT2 E2' (.slice Ia2 Im2 Ic2) (.slice La2 Lm2 Lc2)) 34 (0, 0)) = w5 at *
      have hg5 : Glob E w5 := hg.keep (hk15.then hkw) (fun _ x => x.elim)
      refine (sameKind_at _ _ HX.out _).mono ?_
      rintro e w6 ⟨rfl, rfl⟩
      go_wp2_with fail
      refine (known_at _ hg5).mono ?_
      rintro e w8 ⟨rfl, hk8⟩
      go_wp2_with fail
      go_ret
      exact ⟨rfl, hk15.then (hkw.then hk8)⟩
end Go.Proofs.YthehmlbolajljaaGreatDoor

namespace Go.Proofs.YthehmlbolajljaaGreatDoor
open Go Go.RowKit
theorem law_message {E : Env} {A : Nat → Prop} (pr : Int) (c : Cfg) (hp : c.p = pr) (hc : c.ok) (deep : Int) (hd0 : -9223372036854775808 ≤ deep) (hd1 : deep ≤ 9223372036854775807) (v : Value) (l : List UInt8) (w : World) (hg : Glob E w) (h : BytesAt A w v l) :
    Calls Tryz.prog 3 #[confV pr c, v, .int .i64 deep] w fun e w' => e = .returned (.bool true) ∧ Keep (fun _ => False) w w' := by
  by_cases h1 : pr = 1
  · subst h1
    exact (Cmp.pm c hc).message_at deep hd0 hd1 v l w hg h
  · have e : Bin.no c = pr := (Cfg.b_eq (by rw [hp]; exact h1)).trans hp
    rw [← e]
    exact (Bin.pm c hc).message_at deep hd0 hd1 v l w hg h
end Go.Proofs.YthehmlbolajljaaGreatDoor
