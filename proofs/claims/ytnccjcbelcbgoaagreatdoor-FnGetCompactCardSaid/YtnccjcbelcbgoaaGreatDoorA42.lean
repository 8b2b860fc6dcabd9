/- Part 42 of the proof: LwGCmp. -/
import Derived.Test.YtnccjcbelcbgoaaGreatDoorA25
import Derived.Test.YtnccjcbelcbgoaaGreatDoorA19
import Derived.Test.YtnccjcbelcbgoaaGreatDoorA41
set_option linter.unusedVariables false
set_option linter.unusedSimpArgs false
set_option linter.unusedSectionVars false
/- The law of reading a value by the compact protocol. -/
namespace Go.Proofs.YtnccjcbelcbgoaaGreatDoor
open Go Go.RowKit

set_option maxRecDepth 100000 in
set_option maxHeartbeats 4000000 in
theorem Cmp.gets_at {E : Env} {A : Nat → Prop} (c : Cfg) (hc : c.ok) (t deep : Int) (hd0 : -9223372036854775808 ≤ deep) (hd1 : deep ≤ 9223372036854775807) (v : Value) (l : List UInt8) (w : World) (hg : Glob E w) (h : BytesAt A w v l) :
    Calls Tryz.prog 6 #[confV Cmp.no c, .int .i64 t, v, .int .i64 deep] w fun e w' => e = .returned (.bool true) ∧ Keep (fun _ => False) w w' := by
  obtain ⟨a, cc, rfl, hlb, _, _⟩ := h.cellAt'
  obtain ⟨L, hL⟩ : ∃ L, l.length = L := ⟨_, rfl⟩
  obtain ⟨r, hr⟩ : ∃ r, gt (Cmp.pr (Cmp.K0 c)) deep.toNat (ty8 t) (Cmp.st0 l) = r := ⟨_, rfl⟩
  have HR := Lib.hid hr
  have H := Lib.hid h
  clear hr h
  rw [hL] at hlb H ⊢
  have HL := Lib.hid hL
  clear hL
  by_cases hm : 65536 < L
  · have hm' : (65536 : Int) < (L : Int) := by omega
    go_enter Tryz.func6, Tryz.ntmps6
    go_wp2_with fail
    have hk0 : Keep (fun _ => False) w (w.alloc (.cells (confC Cmp.no c) 23 (0, 0))) := (Keep.refl _ w).alloc _
    refine (known_at _ (hg.keep hk0 (fun _ x => x.elim))).mono ?_
    rintro e w1 ⟨rfl, hk1⟩
    go_wp2_with fail
    go_ret
    exact ⟨rfl, hk0.then hk1⟩
  · have hm' : ¬ (65536 : Int) < (L : Int) := by omega
    have hk0 : Keep (fun _ => False) w (w.alloc (.cells (confC Cmp.no c) 23 (0, 0))) := (Keep.refl _ w).alloc _
    have hp0 := heap_alloc_new w (.cells (confC Cmp.no c) 23 (0, 0))
    go_enter Tryz.func6, Tryz.ntmps6
    go_wp2_with fail
    obtain ⟨n, hn⟩ : ∃ n, w.heap.size = n := ⟨_, rfl⟩
    rw [hn] at hp0 ⊢
    generalize w.alloc (.cells (confC Cmp.no c) 23 (0, 0)) = w1 at *
    have HP := Lib.hid hp0
    clear hn hp0
    have hb1 := H.out.keep hk0 (fun _ _ => id)
    refine (Cmp.impl_get (E := E) c hc t deep hd0 hd1 _ l w1 (hg.keep hk0 (fun _ x => x.elim)) hb1 (by rw [HL.out]; omega) r HR.out).mono ?_
    rintro e w2 ⟨T, N, Sa, Sm, Sc, KT, E', Ia, Im, Ic, La, Lm, Lc, left, rfl, hres, hk2⟩
    have HRES := Lib.hid hres
    have hc2 := (hk2.block n (lt_of_heap HP.out) id).trans HP.out
    have hlt2 := lt_of_heap hc2
    obtain ⟨c0, c1, c2, c3, c4, c5, c6⟩ := conf_cells7 hc2
    clear hres hc2
    go_wp2_with fail
    have hkv : Keep (fun _ => False) w2 (w2.alloc (.cells (valC T N (.slice Sa Sm Sc) KT E' (.slice Ia Im Ic) (.slice La Lm Lc)) 38 (0, 0))) := (Keep.refl _ w2).alloc _
    have hV1 := heap_alloc_new w2 (.cells (valC T N (.slice Sa Sm Sc) KT E' (.slice Ia Im Ic) (.slice La Lm Lc)) 38 (0, 0))
    obtain ⟨U1, hU1⟩ : ∃ U1, w2.heap.size = U1 := ⟨_, rfl⟩
    rw [hU1] at hV1 ⊢
    generalize w2.alloc (.cells (valC T N (.slice Sa Sm Sc) KT E' (.slice Ia Im Ic) (.slice La Lm Lc)) 38 (0, 0)) = w3 at *
    have HV1 := Lib.hid hV1
    have hb3 := hb1.keep (hk2.then hkv) (fun _ _ => id)
    clear c0 c1 c2 c3 c4 c5 c6 hU1 hV1 hlt2
    refine (Cmp.spec_get c hc t deep hd0 hd1 _ l w3 hb3 (by rw [HL.out]; omega) r HR.out).mono ?_
    rintro e w4 ⟨T2, N2, Sa2, Sm2, Sc2, KT2, E2', Ia2, Im2, Ic2, La2, Lm2, Lc2, x, rest, rfl, hx, hres2, hk4⟩
    have HX := Lib.hid hx
    have HRES2 := Lib.hid hres2
    have hk15 : Keep (fun _ => False) w w4 := hk0.then (hk2.then (hkv.then hk4))
    have hV1 := (hk4.block U1 (lt_of_heap HV1.out) id).trans HV1.out
    have hlt1 := lt_of_heap hV1
    have HV4 := Lib.hid hV1
    clear hx hres2 hb1 hb3 hV1
    have hkw : Keep (fun _ => False) w4 (w4.alloc (.cells (valC T2 N2 (.slice Sa2 Sm2 Sc2) KT2 E2' (.slice Ia2 Im2 Ic2) (.slice La2 Lm2 Lc2)) 43 (0, 0))) := (Keep.refl _ w4).alloc _
    have hV2 := heap_alloc_new w4 (.cells (valC T2 N2 (.slice Sa2 Sm2 Sc2) KT2 E2' (.slice Ia2 Im2 Ic2) (.slice La2 Lm2 Lc2)) 43 (0, 0))
    obtain ⟨U2, hU2⟩ : ∃ U2, w4.heap.size = U2 := ⟨_, rfl⟩
    by_cases hz : x = 0
    · have e0 : r.1 = 0 := Sk.zero (hz ▸ HX.out)
      obtain ⟨hl1, A1, hv1⟩ := HRES.out e0
      obtain ⟨hl2, A2, hv2⟩ := HRES2.out hz
      have e1 : left = rest := hl1.trans hl2.symm
      subst e1
      have hzb : (x != 0) = false := by simp [hz]
      have HZ := Lib.hid hz
      have HV := Lib.hid (And.intro hv1 hv2)
      clear hz e0 hl1 hl2 hv1 hv2
      go_wp2_with fail
      rw [hU2] at hV2
      generalize w4.alloc (.cells (valC T2 N2 (.slice Sa2 Sm2 Sc2) KT2 E2' (.slice Ia2 Im2 Ic2) (.slice La2 Lm2 Lc2)) 43 (0, 0)) = w5 at *
      have hV1 := (hkw.block U1 hlt1 id).trans HV4.out
      have hg5 : Glob E w5 := hg.keep (hk15.then hkw) (fun _ x => x.elim)
      have hiv := isVal_same deep.toNat A1 A2 _ _ _ w5 ((HV.out.1.keep (hkv.then (hk4.then hkw)) (fun _ _ => id))) (HV.out.2.keep hkw (fun _ _ => id))
      have HIV := Lib.hid hiv
      refine (sameKind_at _ _ HX.out _).mono ?_
      rintro e w6 ⟨rfl, rfl⟩
      obtain ⟨x0, x1, x2, x3, x4, x5, x6⟩ := got_cells hV1
      obtain ⟨y0, y1, y2, y3, y4, y5, y6⟩ := got_cells hV2
      clear hiv hV1 hV2 hU2
      go_wp2_with fail
      refine HIV.out.mono ?_
      rintro e w7 ⟨rfl, hk7⟩
      go_wp2_with fail
      refine (known_at _ (hg5.keep hk7 (fun _ x => x.elim))).mono ?_
      rintro e w8 ⟨rfl, hk8⟩
      go_wp2_with fail
      go_ret
      exact ⟨rfl, hk15.then (hkw.then (hk7.then hk8))⟩
    · have hzb : (x != 0) = true := by simpa using hz
      have HZ := Lib.hid hz
      clear hz
      go_wp2_with fail
      rw [hU2] at hV2
      generalize w4.alloc (.cells (valC T2 N2 (.slice Sa2 Sm2 Sc2) KT2 E2' (.slice Ia2 Im2 Ic2) (.slice La2 Lm2 Lc2)) 43 (0, 0)) = w5 at *
      have hg5 : Glob E w5 := hg.keep (hk15.then hkw) (fun _ x => x.elim)
      refine (sameKind_at _ _ HX.out _).mono ?_
      rintro e w6 ⟨rfl, rfl⟩
      go_wp2_with fail
      refine (known_at _ hg5).mono ?_
      rintro e w8 ⟨rfl, hk8⟩
      go_wp2_with fail
      go_ret
      exact ⟨rfl, hk15.then (hkw.then hk8)⟩

set_option maxRecDepth 100000 in
set_option maxHeartbeats 4000000 in
/-- The law: whatever is read by the compact protocol. -/
theorem Cmp.law_get {E : Env} {A : Nat → Prop} (p0 : Int) (c : Cfg) (hc : c.ok) (t deep : Int) (hd0 : -9223372036854775808 ≤ deep) (hd1 : deep ≤ 9223372036854775807) (v : Value) (l : List UInt8) (w : World) (hg : Glob E w) (h : BytesAt A w v l) :
    Calls Tryz.prog 3 #[confV p0 c, .int .i64 t, v, .int .i64 deep] w fun e w' => e = .returned (.bool true) ∧ Keep (fun _ => False) w w' := by
  obtain ⟨a, cc, rfl, hlb, _, _⟩ := h.cellAt'
  obtain ⟨L, hL⟩ : ∃ L, l.length = L := ⟨_, rfl⟩
  have H := Lib.hid h
  clear h
  rw [hL] at hlb H ⊢
  clear hL
  have hk0 : Keep (fun _ => False) w (w.alloc (.cells (confC p0 c) 23 (0, 0))) := (Keep.refl _ w).alloc _
  by_cases hm : 2147483647 < L
  · have hm' : (2147483647 : Int) < (L : Int) := by omega
    go_enter Tryz.func3, Tryz.ntmps3
    go_wp2_with fail
    go_ret
    exact ⟨rfl, hk0⟩
  · have hm' : ¬ (2147483647 : Int) < (L : Int) := by omega
    go_enter Tryz.func3, Tryz.ntmps3
    go_wp2_with fail
    refine (by_at Cmp.no p0 c _).mono ?_
    rintro e w1 ⟨rfl, hk1⟩
    have hk := hk0.then hk1
    go_wp2_with fail
    refine (Cmp.gets_at (E := E) c hc t deep hd0 hd1 _ l w1 (hg.keep hk (fun _ x => x.elim)) (H.out.keep hk (fun _ _ => id))).mono ?_
    rintro e w2 ⟨rfl, hk2⟩
    go_wp2_with fail
    go_ret
    exact ⟨rfl, hk.then hk2⟩

end Go.Proofs.YtnccjcbelcbgoaaGreatDoor
