/- Part 32 of the proof: GetMR. -/
import Derived.Test.YthehmlbolajljaaGreatDoorQ30
import Derived.Deep.RegionWith
import Derived.Deep.Cut
import Derived.Deep.CutBlock
set_option linter.unusedVariables false
set_option linter.unusedSimpArgs false
set_option linter.unusedSectionVars false
set_option maxHeartbeats 16000000
namespace Go.Proofs.YthehmlbolajljaaGreatDoor
open Go Go.RowKit
theorem Rp.Frame.drop {St : Type} {K : Rp.Ctx St} {w wr : World} {U : Nat} {p : Nat × Array Value × TypeId} {S : List (Nat × Array Value × TypeId)} {d : Nat} {T KT E : Int} {ids : List Int} {vs : List _root_.Go.Proofs.YthehmlbolajljaaGreatDoor.V} {iv lv : Value} {rows : List (List Value)}
  (f : Rp.Frame K w U (p :: S) d T KT E ids vs iv lv rows wr) : Rp.Frame K w U S d T KT E ids vs iv lv rows wr :=
 ⟨f.kp, f.vb.weak (fun i _ x => ⟨x.1, fun q hq => x.2.1 q (List.mem_cons_of_mem _ hq), x.2.2⟩) (fun i x => x.1), fun q hq => f.still q (List.mem_cons_of_mem _ hq)⟩
theorem Rp.Frame.add {St : Type} {K : Rp.Ctx St} {w wr : World} {U : Nat} {S : List (Nat × Array Value × TypeId)} {d : Nat} {T KT E : Int} {ids : List Int} {vs : List _root_.Go.Proofs.YthehmlbolajljaaGreatDoor.V} {iv lv : Value} {rows : List (List Value)} {s s1 : St} (_ : K.Inv s w) (i1 : K.Inv s1 wr)
  (f : Rp.Frame K w U S d T KT E ids vs iv lv rows wr) (cs : Array Value) (TT : TypeId) : Rp.Frame K w U ((wr.heap.size, cs, TT) :: S) d T KT E ids vs iv lv rows (wr.alloc (.cells cs TT (0, 0))) := by
 have hk : Keep (fun _ => False) wr (wr.alloc (.cells cs TT (0, 0))) := (Keep.refl _ wr).alloc _
 have hkp := Rp.kept i1 hk
 have hnew := Rp.M_new i1 hk
 have f2 := f.call hkp
 refine ⟨f2.kp, ?_, ?_⟩
 ·refine ((f.vb.weak (A' := fun i => Rp.Own K w.heap.size S wr i ∧ i < wr.heap.size) (fun i hi x => ⟨x, hi⟩) (fun i x => x.1.1)).keep hk (fun _ _ => id)).weak (fun i _ x => ⟨x.1.1, fun q hq e => ?_, fun m => x.1.2.2 (hkp.grow i x.2 m)⟩) (fun i x => x.1)
  rcases List.mem_cons.1 hq with rfl | hq
  ·have := x.2
   simp at e
   omega
  ·exact x.1.2.1 q hq e
 ·intro q hq
  rcases List.mem_cons.1 hq with rfl | hq
  ·exact ⟨f.kp.size, heap_alloc_new wr _, fun m => by have := hnew _ m; simp at this⟩
  ·exact f2.still q hq
set_option maxRecDepth 100000 in
theorem Rp.getMap {St : Type} (K : Rp.Ctx St) (d : Nat) (ih : Rp.Gets K d) (deep : Int) (s : St) (w : World) (hdq : deep.toNat = d + 1) (hd : 0 < deep) (hhi : deep ≤ 9223372036854775807) (h : K.Inv s w) (hroom : K.pr.Room s) :
  Calls Tryz.prog 60 #[K.V, .int .i64 deep] w (Rp.GetP K (d + 1) w (gt K.pr (d + 1) 13 s)) := by
 obtain ⟨res, hres⟩ : ∃ res, gt K.pr (d + 1) 13 s = res := ⟨_, rfl⟩
 rw [hres]
 have HRES := hdd hres
 have HRM := hdd hroom
 have hd1 : (deep - 1).toNat = d := by omega
 have HD := hdd hd1
 have HDD := hdd hdq
 clear hres hroom hd1 hdq
 obtain ⟨hnam, hna, hnac⟩ := K.mMb
 obtain ⟨hnbm, hnb, hnbc⟩ := K.mMe
 have hk0 : Keep (fun _ => False) w ((w.alloc (.cells zVal 29 (0, 0))).alloc (.cells (valC 13 0 nilB 0 0 (.slice none 0 0) (.slice none 0 0)) 29 (0, 0))) := ((Keep.refl _ w).alloc _).alloc _
 have hR0 : ((w.alloc (.cells zVal 29 (0, 0))).alloc (.cells (valC 13 0 nilB 0 0 (.slice none 0 0) (.slice none 0 0)) 29 (0, 0))).heap[w.heap.size]? = some (.cells zVal 29 (0, 0)) := (Below.heap_alloc _ _ _ (by simp)).trans (heap_alloc_new w _)
 have hU0 : ((w.alloc (.cells zVal 29 (0, 0))).alloc (.cells (valC 13 0 nilB 0 0 (.slice none 0 0) (.slice none 0 0)) 29 (0, 0))).heap[w.heap.size + 1]? = some (.cells (valC 13 0 nilB 0 0 (.slice none 0 0) (.slice none 0 0)) 29 (0, 0)) := heap_alloc_at (by simp) _
 have hs0 : ((w.alloc (.cells zVal 29 (0, 0))).alloc (.cells (valC 13 0 nilB 0 0 (.slice none 0 0) (.slice none 0 0)) 29 (0, 0))).heap.size = w.heap.size + 2 := by simp
 go_enter Tryz.func60, Tryz.ntmps60
 go_wp2_with fail
 obtain ⟨n0, hn⟩ : ∃ n0, w.heap.size = n0 := ⟨_, rfl⟩
 rw [hn] at hU0 hR0 hs0 ⊢
 generalize (w.alloc (.cells zVal 29 (0, 0))).alloc (.cells (valC 13 0 nilB 0 0 (.slice none 0 0) (.slice none 0 0)) 29 (0, 0)) = w1 at *
 have HN := hdd hn
 have HU0 := hdd hU0
 have HR0 := hdd hR0
 have HS0 := hdd hs0
 have HM := hdd (Rp.M_new h hk0)
 clear hn hU0 hR0 hs0
 go_cut [7, 8, 9, 10] from 16 to 26 (fun s7 s8 s9 s10 wx => ∃ kt t n ev, s7 = .int .u8 kt ∧ s8 = .int .u8 t ∧ s9 = .int .i64 n ∧ s10 = ev ∧ Rp.Post K w1.drew wx (K.pr.mK s) ev (K.pr.mS s) ∧ (K.pr.mK s = 0 → kt = K.pr.mKT s ∧ t = K.pr.mT s ∧ n = K.pr.mN s))
 case first =>
  go_region_with (first | (go_at_call 28; refine (ctx_at _).mono ?_; rintro e w' ⟨rfl, rfl⟩) | (refine (K.readMapBegin (w := w1.drew) (h.fresh hk0.drew)).mono ?_; rintro e w2 ⟨kt, t, n, ev, rfl, hp, hv⟩; have HP := hdd hp; have HV := hdd hv; clear hp hv))
  all_goals
   go_wp2_with fail
   go_simp
   go_meet
   exact ⟨_, _, _, _, rfl, rfl, rfl, rfl, HP.out, HV.out⟩
 case rest =>
 obtain ⟨kt, t, n, ev, rfl, rfl, rfl, he, hp, hv⟩ := hcut
 have he := he.symm
 subst he
 have HP := hdd hp
 have HV := hdd hv
 clear hp hv
 have hs1 := HS0.out
 have hN := HN.out
 have hl0 : n0 < w1.heap.size := by omega
 have hl1 : n0 + 1 < w1.heap.size := by omega
 have hR2 := (HP.out.keep.block n0 (by simpa using hl0) (fun x => by have := HM.out _ x; omega)).trans HR0.out
 have hU2 := (HP.out.keep.block (n0 + 1) (by simpa using hl1) (fun x => by have := HM.out _ x; omega)).trans HU0.out
 have HU2 := hdd hU2
 have HR2 := hdd hR2
 by_cases hz : K.pr.mK s = 0
 ·have hev : ev = .nilIface := by have := HP.out.err; rw [hz] at this; exact this.isNil
  subst hev
  obtain ⟨hkt, ht, hn⟩ := HV.out hz
  obtain ⟨hbt, hbk⟩ := K.mT_bd s
  rw [← hkt] at hbk
  rw [← ht] at hbt
  have HKT := hdd hkt
  have HTT := hdd ht
  have HNN := hdd hn
  have HZ := hdd hz
  obtain ⟨hbt0, hbt1⟩ := hbt
  obtain ⟨hbk0, hbk1⟩ := hbk
  obtain ⟨x0, x1, x2, x3, x4, x5, x6⟩ := got_cells hU2
  obtain ⟨y0, y1, y2, y3, y4, y5, y6⟩ := got_free hU2
  clear hkt ht hn hz hU2 hR2 hs1 hN hl0 hl1
  have hk3 : Keep (fun i => n0 + 1 = i) wc ((wc.setCell ⟨n0 + 1, 3, none⟩ (.int .i64 kt)).setCell ⟨n0 + 1, 4, none⟩ (.int .i64 t)) := ((Keep.refl _ wc).set (n0 + 1) 3 (fun _ => rfl) _).set (n0 + 1) 4 (fun _ => rfl) _
  have hU4 : ((wc.setCell ⟨n0 + 1, 3, none⟩ (.int .i64 kt)).setCell ⟨n0 + 1, 4, none⟩ (.int .i64 t)).heap[n0 + 1]? = some (.cells (valC 13 0 nilB kt t (.slice none 0 0) (.slice none 0 0)) 29 (0, 0)) := by simpa using heap_set_same (i := 4) (heap_set_same (i := 3) HU2.out (.int .i64 kt)) (.int .i64 t)
  have hR4 := (hk3.block n0 (lt_of_heap HR2.out) (by omega)).trans HR2.out
  have HK3 := hdd hk3
  have HU4 := hdd hU4
  have HR4 := hdd hR4
  clear hk3 hU4 hR4
  by_cases hbig : 100000 < n
  ·have e0 : res = (52, K.pr.mS s, V.zero) := by
    rw [← HRES.out]
    have hb2 : K.pr.mN s > 100000 := by rw [← HNN.out]; omega
    simp [gt, isSc, HZ.out, hb2]
   have E0 := hdd e0
   clear e0
   go_wp2_with (with_reducible refine wpList_named 39 rfl ?_)
   intro w4 hw4
   have hw4' : (wc.setCell ⟨n0 + 1, 3, none⟩ (.int .i64 kt)).setCell ⟨n0 + 1, 4, none⟩ (.int .i64 t) = w4 := hw4
   rw [hw4'] at HK3 HU4 HR4
   clear hw4 hw4' x0 x1 x2 x3 x4 x5 x6 y0 y1 y2 y3 y4 y5 y6
   obtain ⟨p0, p1, p2, p3, p4, p5, p6⟩ := got_cells HU4.out
   obtain ⟨q0, q1, q2, q3, q4, q5, q6⟩ := got_cells HR4.out
   obtain ⟨o0, o1, o2, o3, o4, o5, o6⟩ := got_free HR4.out
   go_wp2_with fail
   have hk9 := val_keep (M := fun i => n0 ≤ i ∧ i < n0 + 2) (HK3.out.weak (fun i _ e => by omega)) (R := n0) (fun _ => by omega) (.int .i64 13) (.int .i64 0) (.slice none 0 0) (.int .i64 kt) (.int .i64 t) (.slice none 0 0) (.slice none 0 0)
   refine ret_cell2 (U := n0) (T := 29) Tryz.results60 rfl rfl rfl (val_set HR4.out (.int .i64 13) (.int .i64 0) (.slice none 0 0) (.int .i64 kt) (.int .i64 t) (.slice none 0 0) (.slice none 0 0)) Tryz.underlying29 ival_size ?_
   have hn0 := HN.out
   have hs1 := HS0.out
   rw [E0.out]
   exact ⟨13, 0, none, 0, 0, kt, t, none, 0, 0, none, 0, 0, _, rfl, Rp.through h hk0.drew (HP.out.own 52 (by decide) (by decide)) hk9 (fun i hi => by simp; omega), fun hz => absurd hz (by show ¬ (52 : Int) = 0; decide)⟩
  ·obtain ⟨tot, htot⟩ : ∃ tot, gpairs (gt K.pr d kt) (gt K.pr d t) n.toNat (K.pr.mS s) [] = tot := ⟨_, rfl⟩
   have hrt : res = gend K.pr.meS (fun l => .mk 13 0 [] kt t [] l) tot := by
    rw [← HRES.out, ← htot, HKT.out, HTT.out, HNN.out]
    have hb2 : ¬ K.pr.mN s > 100000 := by rw [← HNN.out]; omega
    simp [gt, isSc, HZ.out, hb2]
   have HT := hdd htot
   have HRT := hdd hrt
   clear htot hrt
   go_wp2_with fail
   generalize (wc.setCell ⟨n0 + 1, 3, none⟩ (.int .i64 kt)).setCell ⟨n0 + 1, 4, none⟩ (.int .i64 t) = w4 at *
   clear x0 x1 x2 x3 x4 x5 x6 y0 y1 y2 y3 y4 y5 y6
   go_loopg [42] n.toNat (fun k v wr => Rp.GRel K w (n0 + 1) [(n0, zVal, 29)] d 13 kt t (fun q l k => gpairs (gt K.pr d kt) (gt K.pr d t) k q l) n 2 tot k v wr)
   case atStart =>
    have hN := HN.out
    have hs1 := HS0.out
    have hk1 : Keep (fun _ => False) w w1.drew := hk0.drew
    have hnM : ∀ j, n0 ≤ j → j < w1.heap.size → ¬ K.M wc j := fun j hj hl => HP.out.keep.not (by simpa using hl) (fun x => by have := HM.out _ x; omega)
    obtain ⟨j1, j2, j3⟩ := K.turn h ((Rp.kept h hk1).then HP.out.keep) (HP.out.inv HZ.out) HK3.out (fun i e => by subst e; exact ⟨by omega, hnM _ (by omega) (by omega)⟩)
    refine ⟨0, _, [], _, [], rfl, by omega, by rw [Int.sub_zero], by simp, j1, ⟨j2, ivb_start HU4.out ⟨by omega, by simp, fun m => hnM _ (by omega) (by omega) (j3 _ m)⟩ (fun i x => x.1), ?_⟩, by show gpairs _ _ _ _ _ = _; exact HT.out, ?_⟩
    ·intro p hp
     simp only [List.mem_cons, List.not_mem_nil, or_false] at hp
     subst hp
     exact ⟨by show w.heap.size ≤ n0; omega, HR4.out, fun m => hnM _ (Nat.le_refl _) (by omega) (j3 _ m)⟩
    ·have a1 := K.ok.m s HZ.out
     have a2 := K.ok.dm s HZ.out
     have a3 : _ + _ < _ := HRM.out
     show _ + _ < _
     omega
   case round =>
    obtain ⟨i, s1, vs, lv, rows, rfl, hi0, hk, hvl, hi1, hfr, hgs, hrm⟩ := hrel
    by_cases hin : i < n
    ·cases gk with
     | zero => omega
     | succ k =>
     have HK := hdd hk
     have HGS := hdd hgs
     have HVL := hdd hvl
     have hbk : 0 ≤ kt ∧ kt ≤ 255 := ⟨hbk0, hbk1⟩
     have hbt : 0 ≤ t ∧ t ≤ 255 := ⟨hbt0, hbt1⟩
     go_wp2_with fail
     have HFA0 := hdd (Rp.Frame.add h hi1 hfr #[.int .u8 kt, .int .u8 t] 80)
     have hiA := hi1.fresh ((Keep.refl (fun _ => False) wr).alloc (.cells #[.int .u8 kt, .int .u8 t] 80 (0, 0)))
     have hrA := hrm
     obtain ⟨A, hA⟩ : ∃ A, wr.heap.size = A := ⟨_, rfl⟩
     rw [hA] at HFA0 ⊢
     generalize wr.alloc (.cells #[.int .u8 kt, .int .u8 t] 80 (0, 0)) = wA at *
     have HFA := HFA0
     clear hk hgs hfr hvl HFA0 hi1 hrm hA
     refine wp_loop_rounds 3 ?_
     rw [rounds_succ]
     have hUA := HFA.out.vb.blk
     obtain ⟨hA1, hA2, hA3⟩ := HFA.out.still (A, #[.int .u8 kt, .int .u8 t], 80) (by simp)
     have aA0 := cellAt hA2 0
     have aA1 := cellAt hA2 1
     simp at aA0 aA1
     clear hUA hA1 hA2 hA3
     go_wp2_with fail
     refine (ih (deep - 1) kt s1 wA HD.out (by omega) (by omega) hbk.1 hbk.2 hiA hrA).mono ?_
     rintro e w3 ⟨T', N', Sa, Sm, Sc, KT', E', Ia, Im, Ic, La, Lm, Lc, ev, rfl, hp3, hval⟩
     clear aA0 aA1
     have HF3 := hdd (HFA.out.call hp3.keep)
     have hU5 := HF3.out.vb.blk
     have hUl := lt_of_heap hU5
     have hU6 := (Below.heap_alloc w3 (.cells (valC T' N' (.slice Sa Sm Sc) KT' E' (.slice Ia Im Ic) (.slice La Lm Lc)) 29 (0, 0)) _ hUl).trans hU5
     have hne3 : ¬ n0 + 1 = w3.heap.size := by omega
     have hne4 : ¬ w3.heap.size = n0 + 1 := by omega
     have HP3 := hdd hp3
     have HVAL := hdd hval
     obtain ⟨x0, x1, x2, x3, x4, x5, x6⟩ := got_cells hU6
     clear hp3 hval hU6 hU5
     obtain ⟨vi, hvi, hvz, hvs, hvb⟩ := ival_info
     have hvs1 : vs.length + 1 ≤ 200000 := by have := HVL.out; simp at this ⊢; omega
     have hnews := new_cells (w3.alloc (.cells (valC T' N' (.slice Sa Sm Sc) KT' E' (.slice Ia Im Ic) (.slice La Lm Lc)) 29)) (valC T' N' (.slice Sa Sm Sc) KT' E' (.slice Ia Im Ic) (.slice La Lm Lc)) 29
     rw [show (w3.alloc (.cells (valC T' N' (.slice Sa Sm Sc) KT' E' (.slice Ia Im Ic) (.slice La Lm Lc)) 29)).heap.size = w3.heap.size + 1 by simp] at hnews
     have hone : ∀ u ∈ ((valC T' N' (.slice Sa Sm Sc) KT' E' (.slice Ia Im Ic) (.slice La Lm Lc))).toList, u.oneCell' = true := by
      intro u hu
      simp only [List.mem_cons, List.not_mem_nil, or_false] at hu
      rcases hu with rfl | rfl | rfl | rfl | rfl | rfl | rfl <;> rfl
     have hb0 : w.heap.size ≤ ((w3.alloc (.cells (valC T' N' (.slice Sa Sm Sc) KT' E' (.slice Ia Im Ic) (.slice La Lm Lc)) 29)).alloc (.cells (valC T' N' (.slice Sa Sm Sc) KT' E' (.slice Ia Im Ic) (.slice La Lm Lc)) 29)).heap.size := by have := HF3.out.kp.size; simp; omega
     have hmx : vs.length + 1 ≤ maxLen := by simp only [maxLen]; omega
     go_wp2_with (at_builtin; refine wpList_append_own_at _ rfl (.tmp 61) (.tmp 63) 27 rfl w.heap.size 29 vi (.agg zVal) 7 104 Tryz.underlying27 hvi hvz hvs hvb rfl (by decide) lv vs.length (rows).flatten rfl ((HF3.out.vb.parts.alloc _).alloc _) ⟨w3.heap.size + 1, 0, none⟩ 1 1 ((valC T' N' (.slice Sa Sm Sc) KT' E' (.slice Ia Im Ic) (.slice La Lm Lc))).toList rfl rfl hnews hone hmx (by omega) hb0 ?_)
     intro v' w7 hown hgrow hnil hat
     obtain ⟨va, vm, vc, rfl⟩ := own_shape hown
     have hmn := HFA.out.mine
     have hkk : Keep (fun _ => False) w3 ((w3.alloc (.cells (valC T' N' (.slice Sa Sm Sc) KT' E' (.slice Ia Im Ic) (.slice La Lm Lc)) 29)).alloc (.cells (valC T' N' (.slice Sa Sm Sc) KT' E' (.slice Ia Im Ic) (.slice La Lm Lc)) 29)) := ((Keep.refl _ w3).alloc _).alloc _
     have hk7 : Keep (fun i => (lv).ownBlock = some i) w3 w7 := (hkk.weak (fun _ _ x => x.elim)).grown hgrow (fun k e _ => e)
     have hU7 := (hk7.block (n0 + 1) hUl HF3.out.vb.neL).trans HF3.out.vb.blk
     obtain ⟨hR1, hR2, hR3⟩ := HF3.out.still (n0, zVal, 29) (by simp)
     have hR7 := (hk7.block n0 (lt_of_heap hR2) (fun e => (hmn _ (.inr (.inr e))).2.2.1 (n0, zVal, 29) (by simp) rfl)).trans hR2
     have HOWN := hdd hown
     have HGROW := hdd hgrow
     have HAT := hdd hat
     have HK7 := hdd hk7
     have HKK := hdd hkk
     have HR7 := hdd hR7
     have HMN := hdd hmn
     clear x0 x1 x2 x3 x4 x5 x6 hnews hone hb0 hmx hown hgrow hat hnil hk7 hkk hR1 hR2 hR3 hmn hvi hvz hvs hvb
     obtain ⟨x0, x1, x2, x3, x4, x5, x6⟩ := got_cells hU7
     obtain ⟨y0, y1, y2, y3, y4, y5, y6⟩ := got_free hU7
     clear hU7
     by_cases hz3 : (gt K.pr d kt s1).1 = 0
     ·have hev : ev = .nilIface := by have := HP3.out.err; rw [hz3] at this; exact this.isNil
      subst hev
      have HZA := hdd hz3
      clear hz3
      go_wp2_with fail
      have i3 := HP3.out.inv HZA.out
      have hM6 := (K.turn h HF3.out.kp i3 HKK.out (fun _ x => x.elim)).2.2
      obtain ⟨F8, I8⟩ := Rp.Frame.part (x := (gt K.pr d kt s1).2.2) h (Rp.Frame.fresh h HF3.out i3 HKK.out) (i3.fresh HKK.out)
       (((HVAL.out HZA.out).keep HKK.out (fun _ _ => id)).weak (fun i _ hi => ⟨fun j hj e => by have := (HMN.out j hj).2.1; have := hi.1; omega, by have := hi.1; have := HFA.out.kp.size; omega, fun p hp e => by have := lt_of_heap (HFA.out.still p hp).2.1; have := hi.1; omega, fun m => hi.2 (hM6 i m)⟩)) HOWN.out HGROW.out (by simpa using HAT.out)
      have hrN : K.pr.Room (gt K.pr d kt s1).2.1 := by
       have a1 := gt_len K.ok d _ _ HZA.out
       have a2 := gt_dep K.ok d _ _ HZA.out
       have a3 : _ + _ < _ := hrA
       show _ + _ < _
       omega
      have HF8 := hdd F8
      clear F8 i3 hM6 x0 x1 x2 x3 x4 x5 x6 y0 y1 y2 y3 y4 y5 y6 hne3 hne4 hvs1 hUl
      have hI8 := I8
      generalize w7.setCell ⟨n0 + 1, 6, none⟩ (.slice va vm vc) = wB at *
      obtain ⟨cs1, hcs1⟩ : ∃ cs1, [Value.int .i64 T', Value.int .i64 N', Value.slice Sa Sm Sc, Value.int .i64 KT', Value.int .i64 E', Value.slice Ia Im Ic, Value.slice La Lm Lc] = cs1 := ⟨_, rfl⟩
      obtain ⟨lv1, hlv1⟩ : ∃ lv1, Value.slice va vm vc = lv1 := ⟨_, rfl⟩
      have HFB : Hid (Rp.Frame K w (n0 + 1) [(A, #[.int .u8 kt, .int .u8 t], 80), (n0, zVal, 29)] d 13 kt t [] (vs ++ [(gt K.pr d kt s1).2.2]) (.slice none 0 0) lv1 (rows ++ [cs1]) wB) := by
       have := HF8.out
       rw [← hcs1, ← hlv1]
       exact hdd this
      have hiB := I8
      have hrB := hrN
      clear hlv1 hcs1 HF8 HP3 HVAL HOWN HGROW HAT HK7 HKK HR7 HMN HF3 hI8 I8 hrN
      rw [rounds_succ]
      have hUA := HFB.out.vb.blk
      obtain ⟨hA1, hA2, hA3⟩ := HFB.out.still (A, #[.int .u8 kt, .int .u8 t], 80) (by simp)
      have aB0 := cellAt hA2 0
      have aB1 := cellAt hA2 1
      simp at aB0 aB1
      clear hUA hA1 hA2 hA3
      go_wp2_with fail
      refine (ih (deep - 1) t (gt K.pr d kt s1).2.1 wB HD.out (by omega) (by omega) hbt.1 hbt.2 hiB hrB).mono ?_
      rintro e w3 ⟨T', N', Sa, Sm, Sc, KT', E', Ia, Im, Ic, La, Lm, Lc, ev, rfl, hp3, hval⟩
      clear aB0 aB1
      have HF3 := hdd (HFB.out.call hp3.keep)
      have hU5 := HF3.out.vb.blk
      have hUl := lt_of_heap hU5
      have hU6 := (Below.heap_alloc w3 (.cells (valC T' N' (.slice Sa Sm Sc) KT' E' (.slice Ia Im Ic) (.slice La Lm Lc)) 29 (0, 0)) _ hUl).trans hU5
      have hne3 : ¬ n0 + 1 = w3.heap.size := by omega
      have hne4 : ¬ w3.heap.size = n0 + 1 := by omega
      have HP3 := hdd hp3
      have HVAL := hdd hval
      obtain ⟨x0, x1, x2, x3, x4, x5, x6⟩ := got_cells hU6
      clear hp3 hval hU6 hU5
      obtain ⟨vi, hvi, hvz, hvs, hvb⟩ := ival_info
      have hvs1 : (vs ++ [(gt K.pr d kt s1).2.2]).length + 1 ≤ 200000 := by have := HVL.out; simp at this ⊢; omega
      have hnews := new_cells (w3.alloc (.cells (valC T' N' (.slice Sa Sm Sc) KT' E' (.slice Ia Im Ic) (.slice La Lm Lc)) 29)) (valC T' N' (.slice Sa Sm Sc) KT' E' (.slice Ia Im Ic) (.slice La Lm Lc)) 29
      rw [show (w3.alloc (.cells (valC T' N' (.slice Sa Sm Sc) KT' E' (.slice Ia Im Ic) (.slice La Lm Lc)) 29)).heap.size = w3.heap.size + 1 by simp] at hnews
      have hone : ∀ u ∈ ((valC T' N' (.slice Sa Sm Sc) KT' E' (.slice Ia Im Ic) (.slice La Lm Lc))).toList, u.oneCell' = true := by
       intro u hu
       simp only [List.mem_cons, List.not_mem_nil, or_false] at hu
       rcases hu with rfl | rfl | rfl | rfl | rfl | rfl | rfl <;> rfl
      have hb0 : w.heap.size ≤ ((w3.alloc (.cells (valC T' N' (.slice Sa Sm Sc) KT' E' (.slice Ia Im Ic) (.slice La Lm Lc)) 29)).alloc (.cells (valC T' N' (.slice Sa Sm Sc) KT' E' (.slice Ia Im Ic) (.slice La Lm Lc)) 29)).heap.size := by have := HF3.out.kp.size; simp; omega
      have hmx : (vs ++ [(gt K.pr d kt s1).2.2]).length + 1 ≤ maxLen := by simp only [maxLen]; omega
      go_wp2_with (at_builtin; refine wpList_append_own_at _ rfl (.tmp 61) (.tmp 63) 27 rfl w.heap.size 29 vi (.agg zVal) 7 104 Tryz.underlying27 hvi hvz hvs hvb rfl (by decide) lv1 (vs ++ [(gt K.pr d kt s1).2.2]).length ((rows ++ [cs1])).flatten rfl ((HF3.out.vb.parts.alloc _).alloc _) ⟨w3.heap.size + 1, 0, none⟩ 1 1 ((valC T' N' (.slice Sa Sm Sc) KT' E' (.slice Ia Im Ic) (.slice La Lm Lc))).toList rfl rfl hnews hone hmx (by omega) hb0 ?_)
      intro v' w7 hown hgrow hnil hat
      obtain ⟨va, vm, vc, rfl⟩ := own_shape hown
      have hmn := HFB.out.mine
      have hkk : Keep (fun _ => False) w3 ((w3.alloc (.cells (valC T' N' (.slice Sa Sm Sc) KT' E' (.slice Ia Im Ic) (.slice La Lm Lc)) 29)).alloc (.cells (valC T' N' (.slice Sa Sm Sc) KT' E' (.slice Ia Im Ic) (.slice La Lm Lc)) 29)) := ((Keep.refl _ w3).alloc _).alloc _
      have hk7 : Keep (fun i => (lv1).ownBlock = some i) w3 w7 := (hkk.weak (fun _ _ x => x.elim)).grown hgrow (fun k e _ => e)
      have hU7 := (hk7.block (n0 + 1) hUl HF3.out.vb.neL).trans HF3.out.vb.blk
      obtain ⟨hR1, hR2, hR3⟩ := HF3.out.still (n0, zVal, 29) (by simp)
      have hR7 := (hk7.block n0 (lt_of_heap hR2) (fun e => (hmn _ (.inr (.inr e))).2.2.1 (n0, zVal, 29) (by simp) rfl)).trans hR2
      have HOWN := hdd hown
      have HGROW := hdd hgrow
      have HAT := hdd hat
      have HK7 := hdd hk7
      have HKK := hdd hkk
      have HR7 := hdd hR7
      have HMN := hdd hmn
      clear x0 x1 x2 x3 x4 x5 x6 hnews hone hb0 hmx hown hgrow hat hnil hk7 hkk hR1 hR2 hR3 hmn hvi hvz hvs hvb
      obtain ⟨x0, x1, x2, x3, x4, x5, x6⟩ := got_cells hU7
      obtain ⟨y0, y1, y2, y3, y4, y5, y6⟩ := got_free hU7
      clear hU7
      by_cases hz3 : (gt K.pr d t (gt K.pr d kt s1).2.1).1 = 0
      ·have hev : ev = .nilIface := by have := HP3.out.err; rw [hz3] at this; exact this.isNil
       subst hev
       have HZB := hdd hz3
       clear hz3
       go_wp2_with fail
       have i3 := HP3.out.inv HZB.out
       have hM6 := (K.turn h HF3.out.kp i3 HKK.out (fun _ x => x.elim)).2.2
       obtain ⟨F8, I8⟩ := Rp.Frame.part (x := (gt K.pr d t (gt K.pr d kt s1).2.1).2.2) h (Rp.Frame.fresh h HF3.out i3 HKK.out) (i3.fresh HKK.out)
        (((HVAL.out HZB.out).keep HKK.out (fun _ _ => id)).weak (fun i _ hi => ⟨fun j hj e => by have := (HMN.out j hj).2.1; have := hi.1; omega, by have := hi.1; have := HFB.out.kp.size; omega, fun p hp e => by have := lt_of_heap (HFB.out.still p hp).2.1; have := hi.1; omega, fun m => hi.2 (hM6 i m)⟩)) (by simpa using HOWN.out) HGROW.out (by simpa using HAT.out)
       have hrN : K.pr.Room (gt K.pr d t (gt K.pr d kt s1).2.1).2.1 := by
        have a1 := gt_len K.ok d _ _ HZB.out
        have a2 := gt_dep K.ok d _ _ HZB.out
        have a3 : _ + _ < _ := hrB
        show _ + _ < _
        omega
       have HF8 := hdd F8
       clear F8 i3 hM6 x0 x1 x2 x3 x4 x5 x6 y0 y1 y2 y3 y4 y5 y6 hne3 hne4 hvs1 hUl
       rw [rounds_succ]
       go_wp2_with fail
       go_roundg k
       case measure => exact Nat.lt_succ_self _
       case rel =>
        refine ⟨i + 1, _, _, _, _, rfl, by omega, by have := HK.out; omega, by have := HVL.out; simp; omega, I8, HF8.out.drop, ?_, hrN⟩
        show gpairs _ _ _ _ _ = _
        rw [← HGS.out]
        exact (gpairs_ok HZA.out HZB.out).symm
      ·obtain ⟨tt, x, rfl⟩ := HP3.out.err.held hz3
       have HZ3 := hdd hz3
       clear hz3
       obtain ⟨r0, r1, r2, r3, r4, r5, r6⟩ := got_cells HR7.out
       obtain ⟨z0, z1, z2, z3, z4, z5, z6⟩ := got_free HR7.out
       go_wp2_with fail
       have hR8 : (w7.setCell ⟨n0 + 1, 6, none⟩ (.slice va vm vc)).heap[n0]? = some (.cells zVal 29 (0, 0)) := (heap_set_other (p := ⟨n0 + 1, 6, none⟩) _ (by simp)).trans HR7.out
       have hk9 := val_keep (M := fun i => n0 + 1 = i ∨ (lv1).ownBlock = some i ∨ n0 = i) ((HK7.out.weak (fun i _ e => .inr (.inl e))).set (n0 + 1) 6 (fun _ => .inl rfl) (.slice va vm vc)) (R := n0) (fun _ => .inr (.inr rfl)) (.int .i64 13) (.int .i64 0) (.slice none 0 0) (.int .i64 kt) (.int .i64 t) (.slice none 0 0) (.slice va vm vc)
       refine ret_cell2 (U := n0) (T := 29) Tryz.results60 rfl rfl rfl (val_set hR8 (.int .i64 13) (.int .i64 0) (.slice none 0 0) (.int .i64 kt) (.int .i64 t) (.slice none 0 0) (.slice va vm vc)) Tryz.underlying29 ival_size ?_
       have hth := K.thru h HFB.out.kp hiB HP3.out hk9 (fun i e => by
        rcases e with e | e | e
        ·have := HMN.out i (.inl e); exact ⟨this.1, this.2.1, this.2.2.2⟩
        ·have := HMN.out i (.inr (.inr e)); exact ⟨this.1, this.2.1, this.2.2.2⟩
        ·subst e
         obtain ⟨q1, q2, q3⟩ := HFB.out.still (n0, zVal, 29) (by simp)
         exact ⟨q1, lt_of_heap q2, q3⟩)
       have e1 : res = ((gt K.pr d t (gt K.pr d kt s1).2.1).1, (gt K.pr d t (gt K.pr d kt s1).2.1).2.1, V.zero) := by
        rw [HRT.out, ← HGS.out]
        obtain ⟨l9, e9⟩ := gpairs_bad2 (n := k) (l := vs) HZA.out HZ3.out
        show gend _ _ (gpairs _ _ _ _ _) = _
        rw [e9]
        exact gend_bad HZ3.out
       rw [e1]
       exact ⟨13, 0, none, 0, 0, kt, t, none, 0, 0, va, vm, vc, _, rfl, hth.1, fun hz => absurd hz HZ3.out⟩
     ·obtain ⟨tt, x, rfl⟩ := HP3.out.err.held hz3
      have HZ3 := hdd hz3
      clear hz3
      obtain ⟨r0, r1, r2, r3, r4, r5, r6⟩ := got_cells HR7.out
      obtain ⟨z0, z1, z2, z3, z4, z5, z6⟩ := got_free HR7.out
      go_wp2_with fail
      have hR8 : (w7.setCell ⟨n0 + 1, 6, none⟩ (.slice va vm vc)).heap[n0]? = some (.cells zVal 29 (0, 0)) := (heap_set_other (p := ⟨n0 + 1, 6, none⟩) _ (by simp)).trans HR7.out
      have hk9 := val_keep (M := fun i => n0 + 1 = i ∨ (lv).ownBlock = some i ∨ n0 = i) ((HK7.out.weak (fun i _ e => .inr (.inl e))).set (n0 + 1) 6 (fun _ => .inl rfl) (.slice va vm vc)) (R := n0) (fun _ => .inr (.inr rfl)) (.int .i64 13) (.int .i64 0) (.slice none 0 0) (.int .i64 kt) (.int .i64 t) (.slice none 0 0) (.slice va vm vc)
      refine ret_cell2 (U := n0) (T := 29) Tryz.results60 rfl rfl rfl (val_set hR8 (.int .i64 13) (.int .i64 0) (.slice none 0 0) (.int .i64 kt) (.int .i64 t) (.slice none 0 0) (.slice va vm vc)) Tryz.underlying29 ival_size ?_
      have hth := K.thru h HFA.out.kp hiA HP3.out hk9 (fun i e => by
       rcases e with e | e | e
       ·have := HMN.out i (.inl e); exact ⟨this.1, this.2.1, this.2.2.2⟩
       ·have := HMN.out i (.inr (.inr e)); exact ⟨this.1, this.2.1, this.2.2.2⟩
       ·subst e
        obtain ⟨q1, q2, q3⟩ := HFA.out.still (n0, zVal, 29) (by simp)
        exact ⟨q1, lt_of_heap q2, q3⟩)
      have e1 : res = ((gt K.pr d kt s1).1, (gt K.pr d kt s1).2.1, V.zero) := by
       rw [HRT.out, ← HGS.out]
       show gend _ _ (gpairs _ _ _ _ _) = _
       rw [gpairs_bad1 HZ3.out]
       exact gend_bad HZ3.out
      rw [e1]
      exact ⟨13, 0, none, 0, 0, kt, t, none, 0, 0, va, vm, vc, _, rfl, hth.1, fun hz => absurd hz HZ3.out⟩

    ·have hgk : gk = 0 := by omega
     subst hgk
     obtain ⟨La, Lm, Lc, rfl⟩ := own_shape hfr.vb.parts
     have HGS := hdd hgs
     have HFR := hdd hfr
     obtain ⟨hR1, hR2, hR3⟩ := HFR.out.still (n0, zVal, 29) (by simp)
     have hR3' := hR2
     obtain ⟨x0, x1, x2, x3, x4, x5, x6⟩ := got_cells HFR.out.vb.blk
     clear hk hgs hfr hR1 hR2 hR3 hR3'
     go_wp2_with fail
     go_region_with (first | (go_at_call 28; refine (ctx_at _).mono ?_; rintro e w' ⟨rfl, rfl⟩) | (refine (K.readMapEnd (w := wr.drew) (hi1.fresh ((Keep.refl _ wr).drew))).mono ?_; rintro e w5 ⟨rfl, hp5⟩; have HP5 := hdd hp5; have HF5 := hdd ((Rp.Frame.fresh h HFR.out hi1 ((Keep.refl _ wr).drew)).call hp5.keep); clear hp5; obtain ⟨hR1, hR2, hR3⟩ := HF5.out.still (n0, zVal, 29) (by simp); have HR5 := hdd hR2; obtain ⟨p0, p1, p2, p3, p4, p5, p6⟩ := got_cells HF5.out.vb.blk; obtain ⟨r0, r1, r2, r3, r4, r5, r6⟩ := got_cells hR2; obtain ⟨z0, z1, z2, z3, z4, z5, z6⟩ := got_free hR2; clear hR1 hR2 hR3))
     all_goals
      go_wp2_with fail
      have hk9 := val_keep (M := fun i => n0 = i) (Keep.refl _ w5) (R := n0) (fun _ => rfl) (.int .i64 13) (.int .i64 0) (.slice none 0 0) (.int .i64 kt) (.int .i64 t) (.slice none 0 0) (.slice La Lm Lc)
      refine ret_cell2 (U := n0) (T := 29) Tryz.results60 rfl rfl rfl (val_set HR5.out (.int .i64 13) (.int .i64 0) (.slice none 0 0) (.int .i64 kt) (.int .i64 t) (.slice none 0 0) (.slice La Lm Lc)) Tryz.underlying29 ival_size ?_
      have hfd := Rp.Frame.fresh h HFR.out hi1 ((Keep.refl _ wr).drew)
      have hth := K.thru h hfd.kp (hi1.fresh ((Keep.refl _ wr).drew)) HP5.out hk9 (fun i e => by
       subst e
       obtain ⟨q1, q2, q3⟩ := hfd.still (n0, zVal, 29) (by simp)
       exact ⟨q1, lt_of_heap q2, q3⟩)
      have e1 : res = (0, K.pr.meS s1, .mk 13 0 [] kt t [] vs) := by
       have e2 : tot = (0, s1, vs) := by rw [← HGS.out]; rfl
       rw [HRT.out, e2]
       exact gend_ok rfl
      rw [e1]
      refine ⟨13, 0, none, 0, 0, kt, t, none, 0, 0, La, Lm, Lc, _, rfl, hth.1, fun hz => ?_⟩
      have hv := HF5.out.vb.val (by simp)
      exact (hv.keep hk9 (fun i hi e => hi.2.1 (n0, zVal, 29) (by simp) e.symm)).weak (fun i _ hi => ⟨hi.1, fun m => hi.2.2 (hth.2 i m)⟩)
 ·have e0 : res = (K.pr.mK s, K.pr.mS s, V.zero) := by rw [← HRES.out]; simp [gt, isSc, hz]
  have E0 := hdd e0
  obtain ⟨tt, x, rfl⟩ := HP.out.err.held hz
  have HZ := hdd hz
  obtain ⟨p0, p1, p2, p3, p4, p5, p6⟩ := got_cells hU2
  obtain ⟨q0, q1, q2, q3, q4, q5, q6⟩ := got_cells hR2
  obtain ⟨o0, o1, o2, o3, o4, o5, o6⟩ := got_free hR2
  clear e0 hz hU2 hR2 hs1 hN hl0 hl1
  go_wp2_with fail
  have hk9 := val_keep (M := fun i => n0 ≤ i ∧ i < n0 + 2) (Keep.refl _ wc) (R := n0) (fun _ => by omega) (.int .i64 13) (.int .i64 0) (.slice none 0 0) (.int .i64 0) (.int .i64 0) (.slice none 0 0) (.slice none 0 0)
  refine ret_cell2 (U := n0) (T := 29) Tryz.results60 rfl rfl rfl (val_set HR2.out (.int .i64 13) (.int .i64 0) (.slice none 0 0) (.int .i64 0) (.int .i64 0) (.slice none 0 0) (.slice none 0 0)) Tryz.underlying29 ival_size ?_
  have hn0 := HN.out
  have hs1 := HS0.out
  rw [E0.out]
  exact ⟨13, 0, none, 0, 0, 0, 0, none, 0, 0, none, 0, 0, _, rfl, Rp.through h hk0.drew HP.out hk9 (fun i hi => by simp; omega), fun hz => absurd hz HZ.out⟩
end Go.Proofs.YthehmlbolajljaaGreatDoor
