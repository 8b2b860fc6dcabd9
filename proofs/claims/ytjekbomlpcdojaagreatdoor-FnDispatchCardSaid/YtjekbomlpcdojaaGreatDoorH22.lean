/- Part 22 of the proof: Rt0, Ds2, Gg1, Bi1, Bi2, RpXBin, Bi3, Val0. -/
import Derived.Test.YtjekbomlpcdojaaGreatDoorH20
import Derived.Test.YtjekbomlpcdojaaGreatDoorH15
import Derived.Test.YtjekbomlpcdojaaGreatDoorH16
import Derived.Test.YtjekbomlpcdojaaGreatDoorH14
set_option linter.unusedVariables false
set_option linter.unusedSimpArgs false
set_option linter.unusedSectionVars false
set_option maxHeartbeats 16000000
namespace Go.Proofs.YtjekbomlpcdojaaGreatDoor
open Go Go.RowKit
theorem ret_cell2 {f : Func} {slot s2 : Nat} {a : Act} {w : World} {U : Nat} {Q : Ending → World → Prop} {T : TypeId} {fs : Array Field} {cs : Array Value} {v2 : Value} (hf : f.results = #[.cell slot T, .tmp s2]) (hd : a.defers = []) (ha : a.tmps[slot]?.getD undef = .pointer (some ⟨U, 0, none⟩)) (hb : a.tmps[s2]?.getD undef = v2)
  (hU : w.heap[U]? = some (.cells cs T (0, 0))) (hu : Tryz.prog.underlying T = some (.struct fs)) (hs : (Tryz.prog.info? T).map (·.size) = some cs.size) (hQ : Q (.returned (.tuple #[.agg cs, v2])) w) : bodyPost Tryz.prog f Q Exit.ret a w := by
 have hl := run_loadVar_row (P := Tryz.prog) w U T T _ (0, 0) _ hU hu rfl hs
 refine bodyPost_ret (v := .tuple #[.agg cs, v2]) ?_ hd hQ
 simp [results, hf, ha, hb, asAddr, hl]
theorem ret_cell3 {f : Func} {slot s2 s3 : Nat} {a : Act} {w : World} {U : Nat} {Q : Ending → World → Prop} {T : TypeId} {fs : Array Field} {cs : Array Value} {v2 v3 : Value} (hf : f.results = #[.cell slot T, .tmp s2, .tmp s3]) (hd : a.defers = []) (ha : a.tmps[slot]?.getD undef = .pointer (some ⟨U, 0, none⟩)) (hb : a.tmps[s2]?.getD undef = v2) (hc : a.tmps[s3]?.getD undef = v3)
  (hU : w.heap[U]? = some (.cells cs T (0, 0))) (hu : Tryz.prog.underlying T = some (.struct fs)) (hs : (Tryz.prog.info? T).map (·.size) = some cs.size) (hQ : Q (.returned (.tuple #[.agg cs, v2, v3])) w) : bodyPost Tryz.prog f Q Exit.ret a w := by
 have hl := run_loadVar_row (P := Tryz.prog) w U T T _ (0, 0) _ hU hu rfl hs
 refine bodyPost_ret (v := .tuple #[.agg cs, v2, v3]) ?_ hd hQ
 simp [results, hf, ha, hb, hc, asAddr, hl]
theorem igot_size : (Tryz.prog.info? 145).map (·.size) = some 7 := by kernel_rfl
theorem ival_size : (Tryz.prog.info? 45).map (·.size) = some 7 := by kernel_rfl
abbrev stepJ (op t k z i n : Int) (sv : Value) : Array Value := #[.int .i64 op, .int .i64 t, .int .i64 k, .int .i64 z, .int .i64 i, .int .i64 n, sv]
def SDspP (gT gN : Int) (q : Int × Int × List UInt8) (w : World) (e : Ending) (w' : World) : Prop :=
 ∃ who na nm nc kd sq f, e = .returned (.tuple #[.int .i64 who, .slice na nm nc, .int .i64 kd, .int .i32 sq, .int .i64 f]) ∧ Sk q.1 f ∧ (f ≠ -2 → who = q.2.1) ∧ (f = 0 → kd = gT ∧ sq = gN ∧ ∃ A', BytesAt A' w' (.slice na nm nc) q.2.2) ∧ Keep (fun _ => False) w w'
theorem SDspP.told (gT gN : Int) {q : Int × Int × List UInt8} (w : World) {w' : World} (hq : q = (10, -2, [])) (hk : Keep (fun _ => False) w w') : SDspP gT gN q w (.returned (.tuple #[.int .i64 (-2), .slice none 0 0, .int .i64 0, .int .i32 0, .int .i64 (-1)])) w' :=
 ⟨-2, none, 0, 0, 0, 0, -1, rfl, by rw [hq]; exact .inr (.inl ⟨rfl, by show (10 : Int) ≠ 0; decide, by show (10 : Int) < 50; decide⟩), fun _ => by rw [hq], fun h => absurd h (by decide), hk⟩
set_option maxRecDepth 100000 in
theorem Pm.spec_dispatch {St : Type} (p : Pm St) {A A2 : Nat → Prop} (v sv : Value) (l : List UInt8) (ls : List (List UInt8)) (fb : Bool) (w : World) (h : BytesAt A w v l) (hs : TextsAt A2 w sv ls) (hl : l.length ≤ 1099511627775) :
  Calls Tryz.prog 19 #[confV p.no p.c, sv, .bool fb, v] w (SDspP (p.gT (p.st0 l)) (p.gN (p.st0 l)) (dspR (p.gK (p.st0 l)) (p.gT (p.st0 l)) (p.gB (p.st0 l)) ls fb) w) := by
 obtain ⟨sa, sc, rfl, _, _, _⟩ := id hs
 have hk0 : Keep (fun _ => False) w (w.alloc (.cells (confC p.no p.c) 40 (0, 0))) := (Keep.refl _ w).alloc _
 have HS := hdd hs
 have HB := hdd (p.gK_bd (p.st0 l))
 have hnw : wrap32 (p.gN (p.st0 l)) = p.gN (p.st0 l) := by
  have := p.gN_w (p.st0 l)
  rwa [show IntKind.i32.wrap (p.gN (p.st0 l)) = wrap32 (p.gN (p.st0 l)) by rw [IntKind.wrap_i32, wrap32]] at this
 have HNW := hdd hnw
 clear hnw
 clear hs
 go_enter Tryz.func19, Tryz.ntmps19
 go_wp2_with fail
 generalize w.alloc (.cells (confC p.no p.c) 40 (0, 0)) = w1 at *
 refine (p.read v l w1 (h.keep hk0 (fun _ _ => id)) (by omega)).mono ?_
 rintro e w2 ⟨r, rfl, ok, hpr, hi, hk2, hM, hleft, hst0, hst1⟩
 have hs2 : Calls _ _ #[_, .agg (stepA 0)] w2 _ := hst0 _ w2 hi
 have HM := hdd hM
 clear hleft hM hst0 hst1
 generalize p.gK (p.st0 l) = gK at *
 generalize p.gT (p.st0 l) = gT at *
 generalize p.gN (p.st0 l) = gN at *
 generalize p.gB (p.st0 l) = gB at *
 go_wp2_with fail
 refine hs2.mono ?_
 rintro e w3 ⟨x, t', kt, size, id', N', S', rfl, ⟨a, m, cc, rfl⟩, hx, ⟨s2, h3, hr3⟩, hk3, hv⟩
 have HX := hdd hx
 have HK3 := hdd (hk0.then (hk2.trans hk3.keep (fun i hi x => by have := HM.out i x; omega)))
 have HV := hdd hv
 clear hx hr3 hk3 hv hs2 hi h3
 have hk4 : Keep (fun _ => False) w3 (w3.alloc (.cells (gotA x t' kt size id' N' (.slice a m cc)) 75 (0, 0))) := (Keep.refl _ w3).alloc _
 have hG4 := heap_alloc_new w3 (.cells (gotA x t' kt size id' N' (.slice a m cc)) 75 (0, 0))
 obtain ⟨U, hU⟩ : ∃ U, w3.heap.size = U := ⟨_, rfl⟩
 by_cases hx0 : x = 0
 ·subst hx0
  have hg0 : gK = 0 := Sk.zero HX.out
  subst hg0
  obtain ⟨rfl, e1, e2, e3, rfl, hbs⟩ := HV.out rfl
  have HBS := hdd hbs
  clear hbs e1 e2 e3 HV HX
  by_cases hT : t' = 1 ∨ t' = 4
  ·have HT := hdd hT
   rcases hT with rfl | rfl
   ·go_wp2_with fail
    rw [hU] at hG4
    generalize w3.alloc (.cells (gotA 0 1 kt size id' N' (.slice a m cc)) 75 (0, 0)) = w4 at *
    have HBS4 := hdd (HBS.out.keep hk4 (fun _ _ => id))
    have HK4 := hdd (HK3.out.then hk4)
    have hcut := cutName_at HBS4.out
    have hs4 := HS.out.keep HK4.out (fun _ _ => id)
    obtain ⟨u0, u1, u2, u3, u4, u5, u6⟩ := got_cells hG4
    clear hG4 hU hk4
    refine hcut.mono ?_
    rintro e w5 ⟨v1, v2, b, rfl, hc, n5, rfl⟩
    rcases hc with ⟨i, hci, rfl, hb1, hb2⟩ | ⟨hci, rfl, rfl⟩
    ·have HW := hdd (dspW_cut (ls := ls) (fb := fb) hci)
     have HB2 := hdd hb2
     obtain ⟨a2, m2, c2, rfl⟩ := hb2.shape
     obtain ⟨a1, m1, c1, rfl⟩ := hb1.shape
     have hkN : Keep (fun _ => False) w4 (w4.drewN n5) := (Keep.refl _ w4).drewN n5
     have hlast := lastOf_at (hs4.keep hkN (fun _ _ => id)) (hb1.keep hkN (fun _ _ => id))
     clear hci hb1 hb2
     go_wp2_with fail
     refine hlast.mono ?_
     rintro e w6 ⟨rfl, n6, rfl⟩
     unfold lastI
     cases hA : lastA ls (gB.take i) ls.length with
     | none =>
      have HD := hdd (dspR_none (fb := fb) (.inl rfl : (1 : Int) = 1 ∨ (1 : Int) = 4) (HW.out.trans (by rw [hA]; rfl)))
      clear hA
      go_wp2_with fail
      go_returns
      exact SDspP.told _ _ _ HD.out (HK4.out.drewN _)
     | some j =>
      have HD := hdd (dspR_some (fb := fb) (.inl rfl : (1 : Int) = 1 ∨ (1 : Int) = 4) (HW.out.trans (by rw [hA]; rfl)))
      have hj0 : ¬ (j : Int) < 0 := by omega
      clear hA
      go_wp2_with fail
      go_quiet (fail)
      go_wp2_with fail
      go_returns
      refine ⟨(j : Int), a2, m2, c2, _, _, 0, rfl, by rw [HD.out]; exact .inr (.inr rfl), fun _ => by rw [HD.out], fun _ => ⟨rfl, HNW.out, _, by rw [HD.out]; exact HB2.out.keep ((((Keep.refl (fun _ => False) w4).drewN _)).drewN _) (fun _ _ => id)⟩, (HK4.out.drewN _).drewN _⟩
    ·have HW := hdd (dspW_all (ls := ls) (fb := fb) hci)
     clear hci
     cases fb
     ·have HD := hdd (dspR_none (.inl rfl : (1 : Int) = 1 ∨ (1 : Int) = 4) (HW.out.trans rfl))
      go_wp2_with fail
      go_returns
      exact SDspP.told _ _ _ HD.out (HK4.out.drewN _)
     ·have HD := hdd (dspR_some (.inl rfl : (1 : Int) = 1 ∨ (1 : Int) = 4) (HW.out.trans rfl))
      go_wp2_with fail
      go_quiet (fail)
      go_wp2_with fail
      go_returns
      refine ⟨-1, a, m, cc, _, _, 0, rfl, by rw [HD.out]; exact .inr (.inr rfl), fun _ => by rw [HD.out], fun _ => ⟨rfl, HNW.out, _, by rw [HD.out]; exact HBS4.out.keep ((((Keep.refl (fun _ => False) w4).drewN _)).drewN _) (fun _ _ => id)⟩, (HK4.out.drewN _).drewN _⟩
   ·go_wp2_with fail
    rw [hU] at hG4
    generalize w3.alloc (.cells (gotA 0 4 kt size id' N' (.slice a m cc)) 75 (0, 0)) = w4 at *
    have HBS4 := hdd (HBS.out.keep hk4 (fun _ _ => id))
    have HK4 := hdd (HK3.out.then hk4)
    have hcut := cutName_at HBS4.out
    have hs4 := HS.out.keep HK4.out (fun _ _ => id)
    obtain ⟨u0, u1, u2, u3, u4, u5, u6⟩ := got_cells hG4
    clear hG4 hU hk4
    refine hcut.mono ?_
    rintro e w5 ⟨v1, v2, b, rfl, hc, n5, rfl⟩
    rcases hc with ⟨i, hci, rfl, hb1, hb2⟩ | ⟨hci, rfl, rfl⟩
    ·have HW := hdd (dspW_cut (ls := ls) (fb := fb) hci)
     have HB2 := hdd hb2
     obtain ⟨a2, m2, c2, rfl⟩ := hb2.shape
     obtain ⟨a1, m1, c1, rfl⟩ := hb1.shape
     have hkN : Keep (fun _ => False) w4 (w4.drewN n5) := (Keep.refl _ w4).drewN n5
     have hlast := lastOf_at (hs4.keep hkN (fun _ _ => id)) (hb1.keep hkN (fun _ _ => id))
     clear hci hb1 hb2
     go_wp2_with fail
     refine hlast.mono ?_
     rintro e w6 ⟨rfl, n6, rfl⟩
     unfold lastI
     cases hA : lastA ls (gB.take i) ls.length with
     | none =>
      have HD := hdd (dspR_none (fb := fb) (.inr rfl : (4 : Int) = 1 ∨ (4 : Int) = 4) (HW.out.trans (by rw [hA]; rfl)))
      clear hA
      go_wp2_with fail
      go_returns
      exact SDspP.told _ _ _ HD.out (HK4.out.drewN _)
     | some j =>
      have HD := hdd (dspR_some (fb := fb) (.inr rfl : (4 : Int) = 1 ∨ (4 : Int) = 4) (HW.out.trans (by rw [hA]; rfl)))
      have hj0 : ¬ (j : Int) < 0 := by omega
      clear hA
      go_wp2_with fail
      go_quiet (fail)
      go_wp2_with fail
      go_returns
      refine ⟨(j : Int), a2, m2, c2, _, _, 0, rfl, by rw [HD.out]; exact .inr (.inr rfl), fun _ => by rw [HD.out], fun _ => ⟨rfl, HNW.out, _, by rw [HD.out]; exact HB2.out.keep ((((Keep.refl (fun _ => False) w4).drewN _)).drewN _) (fun _ _ => id)⟩, (HK4.out.drewN _).drewN _⟩
    ·have HW := hdd (dspW_all (ls := ls) (fb := fb) hci)
     clear hci
     cases fb
     ·have HD := hdd (dspR_none (.inr rfl : (4 : Int) = 1 ∨ (4 : Int) = 4) (HW.out.trans rfl))
      go_wp2_with fail
      go_returns
      exact SDspP.told _ _ _ HD.out (HK4.out.drewN _)
     ·have HD := hdd (dspR_some (.inr rfl : (4 : Int) = 1 ∨ (4 : Int) = 4) (HW.out.trans rfl))
      go_wp2_with fail
      go_quiet (fail)
      go_wp2_with fail
      go_returns
      refine ⟨-1, a, m, cc, _, _, 0, rfl, by rw [HD.out]; exact .inr (.inr rfl), fun _ => by rw [HD.out], fun _ => ⟨rfl, HNW.out, _, by rw [HD.out]; exact HBS4.out.keep ((((Keep.refl (fun _ => False) w4).drewN _)).drewN _) (fun _ _ => id)⟩, (HK4.out.drewN _).drewN _⟩
  ·have hT1 : (t' != 1) = true := by simpa using fun e => hT (.inl e)
   have hT4 : (t' != 4) = true := by simpa using fun e => hT (.inr e)
   have HT := hdd hT
   clear hT
   go_wp2_with fail
   rw [hU] at hG4
   generalize w3.alloc (.cells (gotA 0 t' kt size id' N' (.slice a m cc)) 75 (0, 0)) = w4 at *
   have HK4 := hdd (HK3.out.then hk4)
   go_returns
   exact SDspP.told _ _ _ (dspR_type HT.out) HK4.out
 ·have hxb : (x != 0) = true := by simpa using hx0
  have HX0 := hdd hx0
  clear hx0
  go_wp2_with fail
  rw [hU] at hG4
  generalize w3.alloc (.cells (gotA x t' kt size id' N' (.slice a m cc)) 75 (0, 0)) = w4 at *
  have HK4 := hdd (HK3.out.then hk4)
  obtain ⟨u0, u1, u2, u3, u4, u5, u6⟩ := got_cells hG4
  clear hG4 hU hk4
  go_wp2_with fail
  refine (wrapped_all x _).mono ?_
  rintro e w5 ⟨rfl, rfl⟩
  go_wp2_with fail
  go_returns
  refine ⟨-2, none, 0, 0, 0, 0, wrp x, rfl, ?_, ?_, ?_, HK4.out⟩
  all_goals
   rcases Sk.wrap HX.out HX0.out HB.out with e | ⟨e1, e2, e3, e4⟩
  ·exact .inl e
  ·rw [dspR_bad e1]; exact e2
  ·exact fun h => absurd e h
  ·exact fun _ => by rw [dspR_bad e1]
  ·exact fun h => absurd (h.symm.trans e) (by decide)
  ·exact fun h => absurd h e3
abbrev zVal : Array Value := valC 0 0 nilB 0 0 (.slice none 0 0) (.slice none 0 0)
abbrev getW (w : World) (t : Int) : World := ((w.alloc (.cells zVal 45 (0, 0))).alloc (.cells (valC t 0 nilB 0 0 (.slice none 0 0) (.slice none 0 0)) 45 (0, 0))).alloc (.cells zGot 145 (0, 0))
theorem getW_facts (w : World) (t : Int) : Keep (fun _ => False) w (getW w t) ∧ (getW w t).heap[w.heap.size]? = some (.cells zVal 45 (0, 0)) ∧ (getW w t).heap[w.heap.size + 1]? = some (.cells (valC t 0 nilB 0 0 (.slice none 0 0) (.slice none 0 0)) 45 (0, 0)) ∧
  (getW w t).heap[w.heap.size + 1 + 1]? = some (.cells zGot 145 (0, 0)) ∧ (getW w t).heap.size = w.heap.size + 3 := by
 refine ⟨(((Keep.refl _ w).alloc _).alloc _).alloc _, ?_, ?_, ?_, by simp⟩
 ·exact (Below.heap_alloc _ _ _ (by simp; omega)).trans ((Below.heap_alloc _ _ _ (by simp)).trans (heap_alloc_new w _))
 ·exact (Below.heap_alloc _ _ _ (by simp)).trans (heap_alloc_at (by simp) _)
 ·exact heap_alloc_at (by simp) _
theorem val_set {w : World} {U : Nat} {v0 v1 v2 v3 v4 v5 v6 : Value} {T : TypeId} (h : w.heap[U]? = some (.cells #[v0, v1, v2, v3, v4, v5, v6] T (0, 0))) (x0 x1 x2 x3 x4 x5 x6 : Value) :
  (((((((w.setCell ⟨U, 0, none⟩ x0).setCell ⟨U, 1, none⟩ x1).setCell ⟨U, 2, none⟩ x2).setCell ⟨U, 3, none⟩ x3).setCell ⟨U, 4, none⟩ x4).setCell ⟨U, 5, none⟩ x5).setCell ⟨U, 6, none⟩ x6).heap[U]? = some (.cells #[x0, x1, x2, x3, x4, x5, x6] T (0, 0)) := by
 have h0 := heap_set_same (i := 0) h x0
 have h1 := heap_set_same (i := 1) h0 x1
 have h2 := heap_set_same (i := 2) h1 x2
 have h3 := heap_set_same (i := 3) h2 x3
 have h4 := heap_set_same (i := 4) h3 x4
 have h5 := heap_set_same (i := 5) h4 x5
 have h6 := heap_set_same (i := 6) h5 x6
 simpa using h6
theorem Bin.M_lt {K : Bin.Ctx} {s : Bin.St} {w : World} (h : Bin.Inv K s w) : ∀ i, Bin.M K w i → i < w.heap.size := by
 rintro i (rfl | rfl)
 ·exact h.p.mem.buf.lt
 ·obtain ⟨sc, _, hb⟩ := h.p.blk
  exact lt_of_heap hb
theorem Bin.M_new {K : Bin.Ctx} {s : Bin.St} {w w1 : World} (h : Bin.Inv K s w) (_ : Keep (fun _ => False) w w1) : ∀ i, Bin.M K w1 i → i < w.heap.size := Bin.M_lt h
theorem Bin.Some.lt {K : Bin.Ctx} {w : World} (h : Bin.Some K w) : ∀ i, Bin.M K w i → i < w.heap.size := by
 obtain ⟨s, h⟩ := h
 rintro i (rfl | rfl)
 ·exact h.mem.buf.lt
 ·obtain ⟨sc, _, hb⟩ := h.blk
  exact lt_of_heap hb
theorem Bin.kept {K : Bin.Ctx} {s : Bin.St} {w w1 : World} (_ : Bin.Inv K s w) (k : Keep (fun _ => False) w w1) : Kpt (Bin.M K) w w1 := ⟨k.weak (fun _ _ x => x.elim), fun _ _ x => x⟩
theorem Bin.b2 (K : Bin.Ctx) (s : Bin.St) : (Bin.pr K).scB 2 s = [] := by simp [Bin.pr, Bin.scB]
theorem Bin.b3 (K : Bin.Ctx) (s : Bin.St) : (Bin.pr K).scB 3 s = [] := by simp [Bin.pr, Bin.scB]
theorem Bin.b4 (K : Bin.Ctx) (s : Bin.St) : (Bin.pr K).scB 4 s = [] := by simp [Bin.pr, Bin.scB]
theorem Bin.b6 (K : Bin.Ctx) (s : Bin.St) : (Bin.pr K).scB 6 s = [] := by simp [Bin.pr, Bin.scB]
theorem Bin.b8 (K : Bin.Ctx) (s : Bin.St) : (Bin.pr K).scB 8 s = [] := by simp [Bin.pr, Bin.scB]
theorem Bin.n11 (K : Bin.Ctx) (s : Bin.St) : (Bin.pr K).scN 11 s = 0 := by simp [Bin.pr, Bin.scN]
theorem Bin.n16 (K : Bin.Ctx) (s : Bin.St) : (Bin.pr K).scN 16 s = 0 := by simp [Bin.pr, Bin.scN]
theorem Bin.b_le {K : Bin.Ctx} {s : Bin.St} {w : World} (h : Bin.Inv K s w) (t : Int) : ((Bin.pr K).scB t s).length ≤ 140737488355328 := by
 have hl := h.len
 show (Bin.scB t s).length ≤ _
 unfold Bin.scB
 split
 ·simp [strS]; omega
 ·split
  ·simp; omega
  ·simp
theorem Bin.lT_bd (K : Bin.Ctx) (s : Bin.St) : 0 ≤ (Bin.pr K).lT s ∧ (Bin.pr K).lT s ≤ 255 := by
 show 0 ≤ listT s ∧ listT s ≤ 255
 cases s with
 | nil => simp [listT]
 | cons b r => have := b.toNat_lt; simp only [listT]; omega
theorem Bin.fT_bd (K : Bin.Ctx) (s : Bin.St) : 0 ≤ (Bin.pr K).fT s ∧ (Bin.pr K).fT s ≤ 255 := by
 show 0 ≤ fieldT s ∧ fieldT s ≤ 255
 cases s with
 | nil => simp [fieldT]
 | cons b r => have := b.toNat_lt; simp only [fieldT]; omega
theorem Bin.mT_bd (K : Bin.Ctx) (s : Bin.St) : (0 ≤ (Bin.pr K).mT s ∧ (Bin.pr K).mT s ≤ 255) ∧ 0 ≤ (Bin.pr K).mKT s ∧ (Bin.pr K).mKT s ≤ 255 := by
 show (0 ≤ mapT s ∧ mapT s ≤ 255) ∧ 0 ≤ mapKT s ∧ mapKT s ≤ 255
 match s with
 | [] => simp [mapT, mapKT]
 | [_] => simp [mapT, mapKT]
 | k :: t :: _ => have := k.toNat_lt; have := t.toNat_lt; simp only [mapT, mapKT]; omega
theorem BinP.over {E : Env} {P MB B D : Nat} {a : Option Addr} {c : Cfg} {s s' : List UInt8} {w w2 w3 : World} {N : Nat → Prop} (h : BinP E P MB B D a c s w) (h2 : BinP E P MB B D a c s' w2) (k2 : Keep (MB2 P B) w w2) (k : Keep N w2 w3) (hN : ∀ i, N i → w.heap.size ≤ i) : BinP E P MB B D a c s' w3 := by
 have hP : P < w.heap.size := by obtain ⟨sc, _, hb⟩ := h.blk; exact lt_of_heap hb
 have hM : MB < w.heap.size := lt_of_cell h.mem.mb
 have hB : B < w.heap.size := h.mem.buf.lt
 have hD := h.mem.ltD
 have hE := h.glob.size
 have n1 : ∀ i, i < w.heap.size → ¬ N i := fun i hi x => by have := hN i x; omega
 refine h2.keep k (n1 _ hP) (n1 _ hM) (n1 _ hB) (n1 _ hD) (fun i x => by have := hN i x; omega) ?_
 have hc := h.cfg.weak (N := fun i => MB2 P B i ∨ N i) (fun i hi x => x.elim id (fun y => absurd y (n1 i hi)))
 exact ((hc.keep k2 (fun i x => .inl x)).keep k (fun i x => .inr x)).weak (fun i _ x => .inl x)
theorem Bin.turn {K : Bin.Ctx} {s s' : Bin.St} {w w2 w3 : World} {N : Nat → Prop} (h : Bin.Inv K s w) (k2 : Kpt (Bin.M K) w w2) (i2 : Bin.Inv K s' w2) (hk : Keep N w2 w3) (hN : ∀ i, N i → w.heap.size ≤ i ∧ ¬ Bin.M K w2 i) :
  Bin.Inv K s' w3 ∧ Kpt (Bin.M K) w w3 ∧ ∀ i, Bin.M K w3 i → Bin.M K w2 i :=
 ⟨⟨h.p.over i2.p k2.keep hk (fun i x => (hN i x).1), i2.len⟩, ⟨k2.keep.trans hk (fun i hi x => by have := (hN i x).1; omega), fun _ _ x => x⟩, fun _ x => x⟩
theorem Bin.thru {K : Bin.Ctx} {s s1 s' : Bin.St} {w w1 w2 w3 : World} {k : Int} {ev : Value} {N : Nat → Prop} (h : Bin.Inv K s w) (k1 : Kpt (Bin.M K) w w1) (_ : Bin.Inv K s1 w1) (hp : Bin.Post K w1 w2 k ev s') (hk : Keep N w2 w3) (hN : ∀ i, N i → w.heap.size ≤ i ∧ i < w1.heap.size ∧ ¬ Bin.M K w1 i) :
  Bin.Post K w w3 k ev s' ∧ ∀ i, Bin.M K w3 i → Bin.M K w2 i := by
 have hE := h.p.glob.size
 have k02 : Keep (MB2 K.P K.B) w w2 := k1.keep.then hp.keep.keep
 refine ⟨⟨(hp.err.keep hk (fun i hi x => by have := (hN i x).2; omega)).mono k1.size, fun hz => ⟨h.p.over (hp.inv hz).p k02 hk (fun i x => (hN i x).1), (hp.inv hz).len⟩, ?_, k02.trans hk (fun i hi x => by have := (hN i x).1; omega), fun _ _ x => x⟩, fun _ x => x⟩
 obtain ⟨s2, h2⟩ := hp.some
 exact ⟨s2, h.p.over h2 k02 hk (fun i x => (hN i x).1)⟩
theorem Bin.through {K : Bin.Ctx} {s s' : Bin.St} {w w1 w2 w3 : World} {k : Int} {ev : Value} {N : Nat → Prop} (h : Bin.Inv K s w) (hk0 : Keep (fun _ => False) w w1) (hp : Bin.Post K w1 w2 k ev s') (hk : Keep N w2 w3) (hN : ∀ i, N i → w.heap.size ≤ i ∧ i < w1.heap.size) : Bin.Post K w w3 k ev s' :=
 (Bin.thru h (Bin.kept h hk0) (h.fresh hk0) hp hk (fun i x => ⟨(hN i x).1, (hN i x).2, fun m => by have := Bin.M_new h hk0 i m; have := (hN i x).1; omega⟩)).1
theorem Bin.through_M {K : Bin.Ctx} {s s' : Bin.St} {w w1 w2 w3 : World} {k : Int} {ev : Value} {N : Nat → Prop} (h : Bin.Inv K s w) (hk0 : Keep (fun _ => False) w w1) (hp : Bin.Post K w1 w2 k ev s') (hk : Keep N w2 w3) (hN : ∀ i, N i → w.heap.size ≤ i ∧ i < w1.heap.size) : ∀ i, Bin.M K w3 i → Bin.M K w2 i :=
 (Bin.thru h (Bin.kept h hk0) (h.fresh hk0) hp hk (fun i x => ⟨(hN i x).1, (hN i x).2, fun m => by have := Bin.M_new h hk0 i m; have := (hN i x).1; omega⟩)).2
theorem Bin.fI_bd (K : Bin.Ctx) (s : Bin.St) : -32768 ≤ (Bin.pr K).fI s ∧ (Bin.pr K).fI s ≤ 32767 := by
 show -32768 ≤ fieldI s ∧ fieldI s ≤ 32767
 cases s with
 | nil => simp [fieldI]
 | cons b r =>
  simp only [fieldI]
  split
  ·omega
  ·have key : ∀ n : Int, -32768 ≤ IntKind.i16.wrap n ∧ IntKind.i16.wrap n ≤ 32767 := fun n => by
    have e : IntKind.i16.wrap n = if n % 65536 ≥ 32768 then n % 65536 - 65536 else n % 65536 := by
     simp [IntKind.wrap, IntKind.bits, IntKind.signed]
    rw [e]
    split <;> omega
   exact key _
abbrev Bin.rb (K : Bin.Ctx) : Rp.Base Bin.St where
 E := K.E
 T := 158
 P := K.P
 pr := Bin.pr K
 Mh h := Bin.M K { (default : World) with heap := h }
 Inv := Bin.Inv K
 Some := Bin.Some K
 fBool := 297
 fByte := 298
 fI16 := 302
 fI32 := 303
 fI64 := 304
 fDbl := 299
 fStr := 313
 fUuid := 316
 fFb := 300
 fMb := 307
 fLb := 305
 fTb := 311
 fSb := 314
 fSe := 315
 fFe := 301
 fMe := 308
 fLe := 306
 fTe := 312
theorem Bin.Post.rp {K : Bin.Ctx} {s : Bin.St} {w w' : World} {k : Int} {ev : Value} (h : Bin.Post K w w' k ev s) : Rp.Post (Bin.rb K) w w' k ev s := ⟨h.err, h.inv, h.some, h.keep⟩
theorem Bin.Post.of {K : Bin.Ctx} {s : Bin.St} {w w' : World} {k : Int} {ev : Value} (h : Rp.Post (Bin.rb K) w w' k ev s) : Bin.Post K w w' k ev s := ⟨h.err, h.inv, h.some, h.keep⟩
theorem Bin.mBool (K : Bin.Ctx) : Rp.Meth 158 K.P "ReadBool" 297 := ⟨fun w => by kernel_rfl, fun w => by kernel_rfl, fun args w => by kernel_rfl⟩
theorem Bin.mByte (K : Bin.Ctx) : Rp.Meth 158 K.P "ReadByte" 298 := ⟨fun w => by kernel_rfl, fun w => by kernel_rfl, fun args w => by kernel_rfl⟩
theorem Bin.mI16 (K : Bin.Ctx) : Rp.Meth 158 K.P "ReadI16" 302 := ⟨fun w => by kernel_rfl, fun w => by kernel_rfl, fun args w => by kernel_rfl⟩
theorem Bin.mI32 (K : Bin.Ctx) : Rp.Meth 158 K.P "ReadI32" 303 := ⟨fun w => by kernel_rfl, fun w => by kernel_rfl, fun args w => by kernel_rfl⟩
theorem Bin.mI64 (K : Bin.Ctx) : Rp.Meth 158 K.P "ReadI64" 304 := ⟨fun w => by kernel_rfl, fun w => by kernel_rfl, fun args w => by kernel_rfl⟩
theorem Bin.mDbl (K : Bin.Ctx) : Rp.Meth 158 K.P "ReadDouble" 299 := ⟨fun w => by kernel_rfl, fun w => by kernel_rfl, fun args w => by kernel_rfl⟩
theorem Bin.mStr (K : Bin.Ctx) : Rp.Meth 158 K.P "ReadString" 313 := ⟨fun w => by kernel_rfl, fun w => by kernel_rfl, fun args w => by kernel_rfl⟩
theorem Bin.mUuid (K : Bin.Ctx) : Rp.Meth 158 K.P "ReadUUID" 316 := ⟨fun w => by kernel_rfl, fun w => by kernel_rfl, fun args w => by kernel_rfl⟩
theorem Bin.mFb (K : Bin.Ctx) : Rp.Meth 158 K.P "ReadFieldBegin" 300 := ⟨fun w => by kernel_rfl, fun w => by kernel_rfl, fun args w => by kernel_rfl⟩
theorem Bin.mMb (K : Bin.Ctx) : Rp.Meth 158 K.P "ReadMapBegin" 307 := ⟨fun w => by kernel_rfl, fun w => by kernel_rfl, fun args w => by kernel_rfl⟩
theorem Bin.mLb (K : Bin.Ctx) : Rp.Meth 158 K.P "ReadListBegin" 305 := ⟨fun w => by kernel_rfl, fun w => by kernel_rfl, fun args w => by kernel_rfl⟩
theorem Bin.mTb (K : Bin.Ctx) : Rp.Meth 158 K.P "ReadSetBegin" 311 := ⟨fun w => by kernel_rfl, fun w => by kernel_rfl, fun args w => by kernel_rfl⟩
theorem Bin.mSb (K : Bin.Ctx) : Rp.Meth 158 K.P "ReadStructBegin" 314 := ⟨fun w => by kernel_rfl, fun w => by kernel_rfl, fun args w => by kernel_rfl⟩
theorem Bin.mSe (K : Bin.Ctx) : Rp.Meth 158 K.P "ReadStructEnd" 315 := ⟨fun w => by kernel_rfl, fun w => by kernel_rfl, fun args w => by kernel_rfl⟩
theorem Bin.mFe (K : Bin.Ctx) : Rp.Meth 158 K.P "ReadFieldEnd" 301 := ⟨fun w => by kernel_rfl, fun w => by kernel_rfl, fun args w => by kernel_rfl⟩
theorem Bin.mMe (K : Bin.Ctx) : Rp.Meth 158 K.P "ReadMapEnd" 308 := ⟨fun w => by kernel_rfl, fun w => by kernel_rfl, fun args w => by kernel_rfl⟩
theorem Bin.mLe (K : Bin.Ctx) : Rp.Meth 158 K.P "ReadListEnd" 306 := ⟨fun w => by kernel_rfl, fun w => by kernel_rfl, fun args w => by kernel_rfl⟩
theorem Bin.mTe (K : Bin.Ctx) : Rp.Meth 158 K.P "ReadSetEnd" 312 := ⟨fun w => by kernel_rfl, fun w => by kernel_rfl, fun args w => by kernel_rfl⟩
def Bin.rp (K : Bin.Ctx) : Rp.Ctx Bin.St where
 toBase := Bin.rb K
 ok := Bin.ok K
 fresh h k := Bin.Inv.fresh h k
 isSome h := Bin.Inv.some h
 fresh1 h k := ⟨Bin.Some.fresh (Bin.Inv.some h) k, Bin.kept h k, fun i m => Bin.M_new h k i m⟩
 lt h i m := Bin.Some.lt h i m
 glob h := Bin.Inv.glob h
 turn := Bin.turn
 thru h k1 i1 hp hk hN := let ⟨a, b⟩ := Bin.thru h k1 i1 (Bin.Post.of hp) hk hN; ⟨a.rp, b⟩
 b0 t s h1 h2 := by show Bin.scB t s = []; unfold Bin.scB; rw [if_neg h1, if_neg h2]
 n0 t s h := by rcases h with rfl | rfl; exact Bin.n11 K s; exact Bin.n16 K s
 b_le := Bin.b_le
 lT_bd := Bin.lT_bd K
 fT_bd := Bin.fT_bd K
 mT_bd := Bin.mT_bd K
 fI_bd := Bin.fI_bd K
 mBool := Bin.mBool K
 readBool h := (Bin.readBool h).mono (fun e w' r => by obtain ⟨v, ev, rfl, hp, hv⟩ := r; exact ⟨v, ev, rfl, hp.rp, hv⟩)
 mByte := Bin.mByte K
 readByte h := (Bin.readByte h).mono (fun e w' r => by obtain ⟨n, ev, rfl, hp, hv⟩ := r; exact ⟨n, ev, rfl, hp.rp, hv⟩)
 mI16 := Bin.mI16 K
 readI16 h := (Bin.readI16 h).mono (fun e w' r => by obtain ⟨n, ev, rfl, hp, hv⟩ := r; exact ⟨n, ev, rfl, hp.rp, hv⟩)
 mI32 := Bin.mI32 K
 readI32 h := (Bin.readI32 h).mono (fun e w' r => by obtain ⟨n, ev, rfl, hp, hv⟩ := r; exact ⟨n, ev, rfl, hp.rp, hv⟩)
 mI64 := Bin.mI64 K
 readI64 h := (Bin.readI64 h).mono (fun e w' r => by obtain ⟨n, ev, rfl, hp, hv⟩ := r; exact ⟨n, ev, rfl, hp.rp, hv⟩)
 mDbl := Bin.mDbl K
 readDouble h := (Bin.readDouble h).mono (fun e w' r => by obtain ⟨n, ev, rfl, hp, hv⟩ := r; exact ⟨n, ev, rfl, hp.rp, hv⟩)
 mStr := Bin.mStr K
 readString h := (Bin.readString h).mono (fun e w' r => by obtain ⟨l, ev, rfl, hp, hv⟩ := r; exact ⟨l, ev, rfl, hp.rp, hv⟩)
 mUuid := Bin.mUuid K
 readUUID h := (Bin.readUUID h).mono (fun e w' r => by obtain ⟨l, ev, rfl, hp, hv⟩ := r; exact ⟨l, ev, rfl, hp.rp, hv⟩)
 mFb := Bin.mFb K
 readFieldBegin h := (Bin.readFieldBegin h).mono (fun e w' r => by obtain ⟨l, t, id, ev, rfl, hp, hv⟩ := r; exact ⟨l, t, id, ev, rfl, hp.rp, hv⟩)
 mMb := Bin.mMb K
 readMapBegin h := (Bin.readMapBegin h).mono (fun e w' r => by obtain ⟨kt, t, n, ev, rfl, hp, hv⟩ := r; exact ⟨kt, t, n, ev, rfl, hp.rp, hv⟩)
 mLb := Bin.mLb K
 readListBegin h := (Bin.readListBegin h).mono (fun e w' r => by obtain ⟨t, n, ev, rfl, hp, hv⟩ := r; exact ⟨t, n, ev, rfl, hp.rp, hv⟩)
 mTb := Bin.mTb K
 readSetBegin h := (Bin.readSetBegin h).mono (fun e w' r => by obtain ⟨t, n, ev, rfl, hp, hv⟩ := r; exact ⟨t, n, ev, rfl, hp.rp, hv⟩)
 mSb := Bin.mSb K
 readStructBegin h d := (Bin.readStructBegin h d).mono (fun e w' r => by obtain ⟨l, rfl, hp⟩ := r; exact ⟨l, rfl, hp.rp⟩)
 mSe := Bin.mSe K
 readStructEnd h d := (Bin.readStructEnd h d).mono (fun e w' r => by obtain ⟨rfl, hp⟩ := r; exact ⟨rfl, hp.rp⟩)
 mFe := Bin.mFe K
 readFieldEnd h := (Bin.readFieldEnd h).mono (fun e w' r => by obtain ⟨rfl, hp⟩ := r; exact ⟨rfl, hp.rp⟩)
 mMe := Bin.mMe K
 readMapEnd h := (Bin.readMapEnd h).mono (fun e w' r => by obtain ⟨rfl, hp⟩ := r; exact ⟨rfl, hp.rp⟩)
 mLe := Bin.mLe K
 readListEnd h := (Bin.readListEnd h).mono (fun e w' r => by obtain ⟨rfl, hp⟩ := r; exact ⟨rfl, hp.rp⟩)
 mTe := Bin.mTe K
 readSetEnd h := (Bin.readSetEnd h).mono (fun e w' r => by obtain ⟨rfl, hp⟩ := r; exact ⟨rfl, hp.rp⟩)
theorem bin_inv {E : Env} {w2 w3 : World} {MB B D P : Nat} {a : Option Addr} {c : Cfg} {l : List UInt8} (hg : Glob E w2) (hm : Mem E w2 MB B D l) (hP : w2.heap.size ≤ P) (hPb : w3.heap[P]? = some (binO MB a))
  (hcfg : CfgAt (fun i => i < w2.heap.size ∨ P ≤ i) w3 a c) (hk : Keep (fun _ => False) w2 w3) (hc : c.ok) (hl : l.length ≤ 140737488355328) : Bin.Inv ⟨E, P, MB, B, D, a, c⟩ l w3 := by
 have h1 : MB < w2.heap.size := lt_of_cell hm.mb
 have h2 : B < w2.heap.size := hm.buf.lt
 have h3 := hm.ltD
 have h4 := hg.size
 have h5 : BinP E P MB B D a c l w3 := by
  refine ⟨⟨List.replicate 64 0, by simp, hPb⟩, hm.keep hk id id id, hg.keep hk (fun _ x => x.elim), hcfg.weak (fun i hi h => ?_), hc, by omega, by omega, by omega, by omega⟩
  rcases h with h | h <;> omega
 exact ⟨h5, hl⟩
inductive V where
 | mk (T N : Int) (S : List UInt8) (K E : Int) (IDs : List Int) (L : List V)
def IntsAt (A : Nat → Prop) (w : World) (v : Value) (l : List Int) : Prop :=
 (l = [] ∧ ∃ a c, v = .slice a 0 c) ∨ (l ≠ [] ∧ ∃ D o c, v = .slice (some ⟨D, o, none⟩) l.length c ∧ l.length ≤ c ∧ l.length ≤ 140737488355328 ∧ A D ∧ ∀ j b, l[j]? = some b → w.cell? ⟨D, o + j, none⟩ = some (.int .i64 b))
theorem IntsAt.keep {A M : Nat → Prop} {w w' : World} {v : Value} {l : List Int} (h : IntsAt A w v l) (k : Keep M w w') (hM : ∀ i, A i → ¬ M i) : IntsAt A w' v l := by
 rcases h with h | ⟨hne, D, o, c, rfl, h1, h2, h3, h4⟩
 ·exact .inl h
 ·exact .inr ⟨hne, D, o, c, rfl, h1, h2, h3, fun j b hj => (k.cell (p := ⟨D, o + j, none⟩) (lt_of_cell (p := ⟨D, o + j, none⟩) (h4 j b hj)) (hM _ h3)).trans (h4 j b hj)⟩
theorem IntsAt.weak {A A' : Nat → Prop} {w : World} {v : Value} {l : List Int} (h : IntsAt A w v l) (hA : ∀ i, i < w.heap.size → A i → A' i) : IntsAt A' w v l := by
 rcases h with h | ⟨hne, D, o, c, rfl, h1, h2, h3, h4⟩
 ·exact .inl h
 ·refine .inr ⟨hne, D, o, c, rfl, h1, h2, hA _ ?_ h3, h4⟩
  cases l with
  | nil => exact absurd rfl hne
  | cons x r => exact lt_of_cell (h4 0 x rfl)
def ValAt : Nat → (Nat → Prop) → World → List Value → V → Prop
 | 0, _, _, _, _ => False
 | d + 1, A, w, cs, .mk T N S K E IDs L => ∃ sv iv lv, cs = (valC T N sv K E iv lv).toList ∧ BytesAt A w sv S ∧ IntsAt A w iv IDs ∧
   ((L = [] ∧ ∃ a c, lv = .slice a 0 c) ∨ (L ≠ [] ∧ ∃ D o c, lv = .slice (some ⟨D, o, none⟩) L.length c ∧ (L.length ≤ c ∧ c ≤ 9223372036854775807) ∧ A D ∧
     ∀ j x, L[j]? = some x → ∃ cs', ValAt d A w cs' x ∧ ∀ i v, cs'[i]? = some v → w.cell? ⟨D, o + (j * 7 + i), none⟩ = some v))
theorem ValAt.len {A : Nat → Prop} {w : World} {cs : List Value} {x : V} : ∀ {d : Nat}, ValAt d A w cs x → cs.length = 7
 | 0, h => h.elim
 | d + 1, h => by
  cases x with
  | mk T N S K E IDs L =>
   obtain ⟨sv, iv, lv, rfl, _⟩ := h
   rfl
theorem ValAt.keep {A M : Nat → Prop} {w w' : World} (k : Keep M w w') (hM : ∀ i, A i → ¬ M i) : ∀ {d : Nat} {cs : List Value} {x : V}, ValAt d A w cs x → ValAt d A w' cs x
 | 0, _, _, h => h.elim
 | d + 1, cs, x, h => by
  cases x with
  | mk T N S K E IDs L =>
   obtain ⟨sv, iv, lv, rfl, h1, h2, h3⟩ := h
   refine ⟨sv, iv, lv, rfl, h1.keep k hM, h2.keep k hM, ?_⟩
   rcases h3 with h3 | ⟨hne, D, o, c, rfl, e1, e2, e3⟩
   ·exact .inl h3
   ·refine .inr ⟨hne, D, o, c, rfl, e1, e2, fun j y hj => ?_⟩
    obtain ⟨cs', hv, hc⟩ := e3 j y hj
    exact ⟨cs', ValAt.keep k hM hv, fun i v hi => (k.cell (p := ⟨D, o + (j * 7 + i), none⟩) (lt_of_cell (p := ⟨D, o + (j * 7 + i), none⟩) (hc i v hi)) (hM _ e2)).trans (hc i v hi)⟩
theorem ValAt.weak {A A' : Nat → Prop} {w : World} (hA : ∀ i, i < w.heap.size → A i → A' i) : ∀ {d : Nat} {cs : List Value} {x : V}, ValAt d A w cs x → ValAt d A' w cs x
 | 0, _, _, h => h.elim
 | d + 1, cs, x, h => by
  cases x with
  | mk T N S K E IDs L =>
   obtain ⟨sv, iv, lv, rfl, h1, h2, h3⟩ := h
   refine ⟨sv, iv, lv, rfl, h1.weak hA, h2.weak hA, ?_⟩
   rcases h3 with h3 | ⟨hne, D, o, c, rfl, e1, e2, e3⟩
   ·exact .inl h3
   ·cases L with
    | nil => exact absurd rfl hne
    | cons x0 r =>
     obtain ⟨cs0, hv0, hc0⟩ := e3 0 x0 rfl
     have hl := hv0.len
     have hD : D < w.heap.size := lt_of_cell (hc0 0 (cs0[0]'(by omega)) (List.getElem?_eq_getElem _))
     refine .inr ⟨hne, D, o, c, rfl, e1, hA _ hD e2, fun j y hj => ?_⟩
     obtain ⟨cs', hv, hc⟩ := e3 j y hj
     exact ⟨cs', ValAt.weak hA hv, hc⟩
end Go.Proofs.YtjekbomlpcdojaaGreatDoor
