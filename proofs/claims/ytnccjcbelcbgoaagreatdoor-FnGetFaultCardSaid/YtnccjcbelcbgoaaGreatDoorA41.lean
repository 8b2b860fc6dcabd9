/- Part 41 of the proof: SpFBin, SpFCmp. -/
import Derived.Test.YtnccjcbelcbgoaaGreatDoorA21
import Derived.Test.YtnccjcbelcbgoaaGreatDoorA27
import Derived.Test.YtnccjcbelcbgoaaGreatDoorA38
import Derived.Test.YtnccjcbelcbgoaaGreatDoorA15
import Derived.Test.YtnccjcbelcbgoaaGreatDoorA40
set_option linter.unusedVariables false
set_option linter.unusedSimpArgs false
set_option linter.unusedSectionVars false
/- The reference: GetFault. -/
namespace Go.Proofs.YtnccjcbelcbgoaaGreatDoor
open Go Go.RowKit

theorem Bin.fault_kinds (K : Bin.Ctx) (s : Bin.St) (R : Int × Bin.St × (List UInt8 × Int)) (hR : flt (Bin.pr K) ((Bin.pr K).len ((Bin.pr K).sbS s) + 1) ((Bin.pr K).sbS s) ([], 0) = R) (x : Int) (hx : Sk (gt (Bin.pr K) 30 12 s).1 x) :
    (x = 0 → ∃ ids l, (gt (Bin.pr K) 30 12 s).2.2 = .mk 12 0 [] 0 0 ids l ∧ ids.length = l.length ∧ R = (0, (gt (Bin.pr K) 30 12 s).2.1, ofF ids l ([], 0))) ∧ (¬ (x = 50 ∨ x = 51 ∨ x = 52) → Sk R.1 x) :=
  fault_agree (Bin.pr K) (fun t s => Bin.lt_sc K t s) (fun s => Bin.lt_f K s) (fun s => Bin.lt_m K s) (fun s => Bin.lt_l K s) 28 (by decide) s R hR x hx

def Bin.SFltP (c : Cfg) (R : Int × Bin.St × (List UInt8 × Int)) (w : World) (e : Ending) (w' : World) : Prop :=
  ∃ q va vm vc x left, e = .returned (.tuple #[.int .i32 q, .slice va vm vc, .int .i64 x, .int .i64 left]) ∧ Sk R.1 x ∧ (x = 0 → left = (Bin.pr (Bin.K0 c)).len R.2.1 ∧ q = R.2.2.2 ∧ ∃ A', BytesAt A' w' (.slice va vm vc) (fltTxt R.2.2)) ∧ Keep (fun _ => False) w w'

set_option maxRecDepth 100000 in
set_option maxHeartbeats 8000000 in
theorem Bin.spec_getFault {A : Nat → Prop} (c : Cfg) (hc : c.ok) (v : Value) (l : List UInt8) (w : World) (h : BytesAt A w v l) (hl : l.length ≤ 1099511627775) (R : Int × Bin.St × (List UInt8 × Int)) (hR : flt (Bin.pr (Bin.K0 c)) ((Bin.pr (Bin.K0 c)).len ((Bin.pr (Bin.K0 c)).sbS (Bin.st0 l)) + 1) ((Bin.pr (Bin.K0 c)).sbS (Bin.st0 l)) ([], 0) = R) :
    Calls Tryz.prog 10 #[confV (Bin.no c) c, v] w (Bin.SFltP c R w) := by
  have HR := Lib.hid hR
  clear hR
  have hk0 : Keep (fun _ => False) w (w.alloc (.cells (confC (Bin.no c) c) 31 (0, 0))) := (Keep.refl _ w).alloc _
  go_enter Tryz.func10, Tryz.ntmps10
  go_wp2_with fail
  generalize w.alloc (.cells (confC (Bin.no c) c) 31 (0, 0)) = w1 at *
  refine (Bin.newReader c hc v l w1 (h.keep hk0 (fun _ _ => id)) (by omega)).mono ?_
  rintro e w2 ⟨r, rfl, ok, hpr, hi, hk2, hM, hleft⟩
  have HL := Lib.hid hleft
  have HM := Lib.hid hM
  clear hleft hM
  go_wp2_with fail
  refine (Rdr.gets ok 30 30 12 (Bin.st0 l) w2 rfl (by decide) (by decide) hi (by rw [hpr]; exact Bin.room0 _ l hl)).mono ?_
  rintro e w4 ⟨T, N, Sa, Sm, Sc, KT, E', Ia, Im, Ic, La, Lm, Lc, x, rfl, hx, ⟨s2, h4, hr4⟩, hk4, hval⟩
  rw [hpr] at hx hr4 hval
  obtain ⟨f1, f2⟩ := Bin.fault_kinds (Bin.K0 c) (Bin.st0 l) R HR.out x hx
  have HF1 := Lib.hid f1
  have HF2 := Lib.hid f2
  have H4 := Lib.hid hr4
  have HVAL := Lib.hid hval
  have HK4 : Hid (Keep (fun _ => False) w w4) := Lib.hid ((hk0.then hk2).trans hk4.keep (fun i hi y => by have := HM.out i y; have := hk0.size; omega))
  clear hx f1 f2 hr4 hval hk4
  go_wp2_with fail
  have hk5 : Keep (fun _ => False) w4 (w4.alloc (.cells (valC T N (.slice Sa Sm Sc) KT E' (.slice Ia Im Ic) (.slice La Lm Lc)) 43 (0, 0))) := (Keep.refl _ w4).alloc _
  have hV5 := heap_alloc_new w4 (.cells (valC T N (.slice Sa Sm Sc) KT E' (.slice Ia Im Ic) (.slice La Lm Lc)) 43 (0, 0))
  obtain ⟨V, hV⟩ : ∃ V, w4.heap.size = V := ⟨_, rfl⟩
  rw [hV] at hV5 ⊢
  generalize w4.alloc (.cells (valC T N (.slice Sa Sm Sc) KT E' (.slice Ia Im Ic) (.slice La Lm Lc)) 43 (0, 0)) = w5 at *
  have HV5 := Lib.hid hV5
  have HK5 := Lib.hid hk5
  have H5 := Lib.hid (ok.fresh h4 hk5)
  clear hV5 hk5 hV
  refine (spec_own x w5).mono ?_
  rintro e w6 ⟨rfl, rfl⟩
  by_cases ho : x = 50 ∨ x = 51 ∨ x = 52
  · have hob : (x == 50 || x == 51 || x == 52) = true := by simp; omega
    rw [hob]
    go_wp2_with fail
    refine (HL.out s2 w5 H5.out).mono ?_
    rintro e w6 ⟨rfl, rfl⟩
    go_wp2_with fail
    go_returns
    exact ⟨0, none, 0, 0, -2, _, rfl, .inl rfl, (fun hz => absurd hz (by decide)), HK4.out.then HK5.out⟩
  · have hob : (x == 50 || x == 51 || x == 52) = false := by simp; omega
    rw [hob]
    by_cases hz : x = 0
    · subst hz
      obtain ⟨ids, ls, e1, e2, e3⟩ := HF1.out rfl
      have hs2 := H4.out rfl
      subst e3
      have HV6 := (HVAL.out rfl).keep HK5.out (fun _ _ => id)
      rw [e1] at HV6
      have HV6 := Lib.hid HV6
      have HS2 := Lib.hid hs2
      obtain ⟨x0, x1, x2, x3, x4, x5, x6⟩ := got_cells HV5.out
      clear e1 hs2
      go_wp2_with fail
      refine (spec_ofFault _ ids ls w5 HV6.out e2).mono ?_
      rintro e w6 ⟨q, ta, tm, tc, rfl, hq, hb, hk6⟩
      have HQ := Lib.hid hq
      have HK6 := Lib.hid hk6
      clear hq hk6
      go_wp2_with fail
      refine (spec_faultText q _ _ w6 hb).mono ?_
      rintro e w7 ⟨va, vm, vc, rfl, ⟨A', hb7⟩, hk7⟩
      have HB7 := Lib.hid hb7
      clear hb7
      go_wp2_with fail
      refine (HL.out s2 w7 (ok.fresh H5.out (HK6.out.then hk7))).mono ?_
      rintro e w8 ⟨rfl, rfl⟩
      go_wp2_with fail
      go_returns
      refine ⟨q, va, vm, vc, 0, _, rfl, .inr (.inr rfl), fun _ => ⟨by rw [HS2.out], HQ.out, A', ?_⟩, (HK4.out.then HK5.out).then (HK6.out.then hk7)⟩
      have hb7 := HB7.out
      rw [HQ.out] at hb7
      exact hb7
    · have hzb : (x != 0) = true := by simpa using hz
      have HZ := Lib.hid hz
      go_wp2_with fail
      refine (HL.out s2 w5 H5.out).mono ?_
      rintro e w6 ⟨rfl, rfl⟩
      go_wp2_with fail
      go_returns
      exact ⟨0, none, 0, 0, x, _, rfl, HF2.out ho, (fun hh => absurd hh HZ.out), HK4.out.then HK5.out⟩

end Go.Proofs.YtnccjcbelcbgoaaGreatDoor

/- The reference: GetFault. -/
namespace Go.Proofs.YtnccjcbelcbgoaaGreatDoor
open Go Go.RowKit

theorem Cmp.fault_kinds (K : Cmp.Ctx) (s : Cmp.St) (R : Int × Cmp.St × (List UInt8 × Int)) (hR : flt (Cmp.pr K) ((Cmp.pr K).len ((Cmp.pr K).sbS s) + 1) ((Cmp.pr K).sbS s) ([], 0) = R) (x : Int) (hx : Sk (gt (Cmp.pr K) 30 12 s).1 x) :
    (x = 0 → ∃ ids l, (gt (Cmp.pr K) 30 12 s).2.2 = .mk 12 0 [] 0 0 ids l ∧ ids.length = l.length ∧ R = (0, (gt (Cmp.pr K) 30 12 s).2.1, ofF ids l ([], 0))) ∧ (¬ (x = 50 ∨ x = 51 ∨ x = 52) → Sk R.1 x) :=
  fault_agree (Cmp.pr K) (fun t s => Cmp.lt_sc K t s) (fun s => Cmp.lt_f K s) (fun s => Cmp.lt_m K s) (fun s => Cmp.lt_l K s) 28 (by decide) s R hR x hx

def Cmp.SFltP (c : Cfg) (R : Int × Cmp.St × (List UInt8 × Int)) (w : World) (e : Ending) (w' : World) : Prop :=
  ∃ q va vm vc x left, e = .returned (.tuple #[.int .i32 q, .slice va vm vc, .int .i64 x, .int .i64 left]) ∧ Sk R.1 x ∧ (x = 0 → left = (Cmp.pr (Cmp.K0 c)).len R.2.1 ∧ q = R.2.2.2 ∧ ∃ A', BytesAt A' w' (.slice va vm vc) (fltTxt R.2.2)) ∧ Keep (fun _ => False) w w'

set_option maxRecDepth 100000 in
set_option maxHeartbeats 8000000 in
theorem Cmp.spec_getFault {A : Nat → Prop} (c : Cfg) (hc : c.ok) (v : Value) (l : List UInt8) (w : World) (h : BytesAt A w v l) (hl : l.length ≤ 1099511627775) (R : Int × Cmp.St × (List UInt8 × Int)) (hR : flt (Cmp.pr (Cmp.K0 c)) ((Cmp.pr (Cmp.K0 c)).len ((Cmp.pr (Cmp.K0 c)).sbS (Cmp.st0 l)) + 1) ((Cmp.pr (Cmp.K0 c)).sbS (Cmp.st0 l)) ([], 0) = R) :
    Calls Tryz.prog 10 #[confV (Cmp.no c) c, v] w (Cmp.SFltP c R w) := by
  have HR := Lib.hid hR
  clear hR
  have hk0 : Keep (fun _ => False) w (w.alloc (.cells (confC (Cmp.no c) c) 31 (0, 0))) := (Keep.refl _ w).alloc _
  go_enter Tryz.func10, Tryz.ntmps10
  go_wp2_with fail
  generalize w.alloc (.cells (confC (Cmp.no c) c) 31 (0, 0)) = w1 at *
  refine (Cmp.newReader c hc v l w1 (h.keep hk0 (fun _ _ => id)) (by omega)).mono ?_
  rintro e w2 ⟨r, rfl, ok, hpr, hi, hk2, hM, hleft⟩
  have HL := Lib.hid hleft
  have HM := Lib.hid hM
  clear hleft hM
  go_wp2_with fail
  refine (Rdr.gets ok 30 30 12 (Cmp.st0 l) w2 rfl (by decide) (by decide) hi (by rw [hpr]; exact Cmp.room0 _ l hl)).mono ?_
  rintro e w4 ⟨T, N, Sa, Sm, Sc, KT, E', Ia, Im, Ic, La, Lm, Lc, x, rfl, hx, ⟨s2, h4, hr4⟩, hk4, hval⟩
  rw [hpr] at hx hr4 hval
  obtain ⟨f1, f2⟩ := Cmp.fault_kinds (Cmp.K0 c) (Cmp.st0 l) R HR.out x hx
  have HF1 := Lib.hid f1
  have HF2 := Lib.hid f2
  have H4 := Lib.hid hr4
  have HVAL := Lib.hid hval
  have HK4 : Hid (Keep (fun _ => False) w w4) := Lib.hid ((hk0.then hk2).trans hk4.keep (fun i hi y => by have := HM.out i y; have := hk0.size; omega))
  clear hx f1 f2 hr4 hval hk4
  go_wp2_with fail
  have hk5 : Keep (fun _ => False) w4 (w4.alloc (.cells (valC T N (.slice Sa Sm Sc) KT E' (.slice Ia Im Ic) (.slice La Lm Lc)) 43 (0, 0))) := (Keep.refl _ w4).alloc _
  have hV5 := heap_alloc_new w4 (.cells (valC T N (.slice Sa Sm Sc) KT E' (.slice Ia Im Ic) (.slice La Lm Lc)) 43 (0, 0))
  obtain ⟨V, hV⟩ : ∃ V, w4.heap.size = V := ⟨_, rfl⟩
  rw [hV] at hV5 ⊢
  generalize w4.alloc (.cells (valC T N (.slice Sa Sm Sc) KT E' (.slice Ia Im Ic) (.slice La Lm Lc)) 43 (0, 0)) = w5 at *
  have HV5 := Lib.hid hV5
  have HK5 := Lib.hid hk5
  have H5 := Lib.hid (ok.fresh h4 hk5)
  clear hV5 hk5 hV
  refine (spec_own x w5).mono ?_
  rintro e w6 ⟨rfl, rfl⟩
  by_cases ho : x = 50 ∨ x = 51 ∨ x = 52
  · have hob : (x == 50 || x == 51 || x == 52) = true := by simp; omega
    rw [hob]
    go_wp2_with fail
    refine (HL.out s2 w5 H5.out).mono ?_
    rintro e w6 ⟨rfl, rfl⟩
    go_wp2_with fail
    go_returns
    exact ⟨0, none, 0, 0, -2, _, rfl, .inl rfl, (fun hz => absurd hz (by decide)), HK4.out.then HK5.out⟩
  · have hob : (x == 50 || x == 51 || x == 52) = false := by simp; omega
    rw [hob]
    by_cases hz : x = 0
    · subst hz
      obtain ⟨ids, ls, e1, e2, e3⟩ := HF1.out rfl
      have hs2 := H4.out rfl
      subst e3
      have HV6 := (HVAL.out rfl).keep HK5.out (fun _ _ => id)
      rw [e1] at HV6
      have HV6 := Lib.hid HV6
      have HS2 := Lib.hid hs2
      obtain ⟨x0, x1, x2, x3, x4, x5, x6⟩ := got_cells HV5.out
      clear e1 hs2
      go_wp2_with fail
      refine (spec_ofFault _ ids ls w5 HV6.out e2).mono ?_
      rintro e w6 ⟨q, ta, tm, tc, rfl, hq, hb, hk6⟩
      have HQ := Lib.hid hq
      have HK6 := Lib.hid hk6
      clear hq hk6
      go_wp2_with fail
      refine (spec_faultText q _ _ w6 hb).mono ?_
      rintro e w7 ⟨va, vm, vc, rfl, ⟨A', hb7⟩, hk7⟩
      have HB7 := Lib.hid hb7
      clear hb7
      go_wp2_with fail
      refine (HL.out s2 w7 (ok.fresh H5.out (HK6.out.then hk7))).mono ?_
      rintro e w8 ⟨rfl, rfl⟩
      go_wp2_with fail
      go_returns
      refine ⟨q, va, vm, vc, 0, _, rfl, .inr (.inr rfl), fun _ => ⟨by rw [HS2.out], HQ.out, A', ?_⟩, (HK4.out.then HK5.out).then (HK6.out.then hk7)⟩
      have hb7 := HB7.out
      rw [HQ.out] at hb7
      exact hb7
    · have hzb : (x != 0) = true := by simpa using hz
      have HZ := Lib.hid hz
      go_wp2_with fail
      refine (HL.out s2 w5 H5.out).mono ?_
      rintro e w6 ⟨rfl, rfl⟩
      go_wp2_with fail
      go_returns
      exact ⟨0, none, 0, 0, x, _, rfl, HF2.out ho, (fun hh => absurd hh HZ.out), HK4.out.then HK5.out⟩

end Go.Proofs.YtnccjcbelcbgoaaGreatDoor
