/- Part 35 of the proof: GetMCmp, Frm2Cmp, Ci2, ReadUuidCmp, GetUCmp. -/
import Derived.Test.YtnccjcbelcbgoaaGreatDoorA34
import Derived.Test.YtnccjcbelcbgoaaGreatDoorA33
import Derived.Test.YtnccjcbelcbgoaaGreatDoorA31
import Derived.Test.YtnccjcbelcbgoaaGreatDoorA32
import Derived.Test.YtnccjcbelcbgoaaGreatDoorA24
import Derived.Deep.RegionWith
import Derived.Deep.Cut
import Derived.Deep.CutBlock
set_option linter.unusedVariables false
set_option linter.unusedSimpArgs false
set_option linter.unusedSectionVars false
/- The thin package: get of a map. -/
namespace Go.Proofs.YtnccjcbelcbgoaaGreatDoor
open Go Go.RowKit

theorem Cmp.na_ReadMapBegin (K : Cmp.Ctx) (w : World) : (nilAhead 491 106 (.pointer (some ⟨K.P, 0, none⟩)) "ReadMapBegin").run Tryz.prog w = .ok (some false) w := by kernel_rfl
theorem Cmp.na_ReadMapEnd (K : Cmp.Ctx) (w : World) : (nilAhead 491 106 (.pointer (some ⟨K.P, 0, none⟩)) "ReadMapEnd").run Tryz.prog w = .ok (some false) w := by kernel_rfl

/-- One block less that holds still. -/
theorem Cmp.Frame.drop {K : Cmp.Ctx} {w wr : World} {U : Nat} {p : Nat × Array Value × TypeId} {S : List (Nat × Array Value × TypeId)} {d : Nat} {T KT E : Int} {ids : List Int} {vs : List _root_.Go.Proofs.YtnccjcbelcbgoaaGreatDoor.V} {iv lv : Value} {rows : List (List Value)}
    (f : Cmp.Frame K w U (p :: S) d T KT E ids vs iv lv rows wr) : Cmp.Frame K w U S d T KT E ids vs iv lv rows wr :=
  ⟨f.kp, f.vb.weak (fun i _ x => ⟨x.1, fun q hq => x.2.1 q (List.mem_cons_of_mem _ hq), x.2.2⟩) (fun i x => x.1), fun q hq => f.still q (List.mem_cons_of_mem _ hq)⟩
/-- A new block that holds still. -/
theorem Cmp.Frame.add {K : Cmp.Ctx} {w wr : World} {U : Nat} {S : List (Nat × Array Value × TypeId)} {d : Nat} {T KT E : Int} {ids : List Int} {vs : List _root_.Go.Proofs.YtnccjcbelcbgoaaGreatDoor.V} {iv lv : Value} {rows : List (List Value)} {s s1 : Cmp.St} (_ : Cmp.Inv K s w) (i1 : Cmp.Inv K s1 wr)
    (f : Cmp.Frame K w U S d T KT E ids vs iv lv rows wr) (cs : Array Value) (TT : TypeId) : Cmp.Frame K w U ((wr.heap.size, cs, TT) :: S) d T KT E ids vs iv lv rows (wr.alloc (.cells cs TT (0, 0))) := by
  have hk : Keep (fun _ => False) wr (wr.alloc (.cells cs TT (0, 0))) := (Keep.refl _ wr).alloc _
  have hkp := Cmp.kept i1 hk
  have hnew := Cmp.M_new i1 hk
  have f2 := f.call hkp
  refine ⟨f2.kp, ?_, ?_⟩
  · refine ((f.vb.weak (A' := fun i => Cmp.Own K w.heap.size S wr i ∧ i < wr.heap.size) (fun i hi x => ⟨x, hi⟩) (fun i x => x.1.1)).keep hk (fun _ _ => id)).weak (fun i _ x => ⟨x.1.1, fun q hq e => ?_, fun m => x.1.2.2 (hkp.grow i x.2 m)⟩) (fun i x => x.1)
    rcases List.mem_cons.1 hq with rfl | hq
    · have := x.2
      simp at e
      omega
    · exact x.1.2.1 q hq e
  · intro q hq
    rcases List.mem_cons.1 hq with rfl | hq
    · exact ⟨f.kp.size, heap_alloc_new wr _, fun m => by have := hnew _ m; simp at this⟩
    · exact f2.still q hq

set_option maxRecDepth 100000 in
set_option maxHeartbeats 8000000 in
theorem Cmp.getMap (K : Cmp.Ctx) (d : Nat) (ih : Cmp.Gets K d) (deep : Int) (s : Cmp.St) (w : World) (hdd : deep.toNat = d + 1) (hd : 0 < deep) (hhi : deep ≤ 9223372036854775807) (h : Cmp.Inv K s w) (hroom : (Cmp.pr K).Room s) :
    Calls Tryz.prog 51 #[Cmp.V K, .int .i64 deep] w (Cmp.GetP K (d + 1) w (gt (Cmp.pr K) (d + 1) 13 s)) := by
  obtain ⟨res, hres⟩ : ∃ res, gt (Cmp.pr K) (d + 1) 13 s = res := ⟨_, rfl⟩
  rw [hres]
  have HRES := Lib.hid hres
  have HRM := Lib.hid hroom
  have hd1 : (deep - 1).toNat = d := by omega
  have HD := Lib.hid hd1
  have HDD := Lib.hid hdd
  clear hres hroom hd1 hdd
  have hna := Cmp.na_ReadMapBegin K
  have hnb := Cmp.na_ReadMapEnd K
  have hk0 : Keep (fun _ => False) w ((w.alloc (.cells zVal 38 (0, 0))).alloc (.cells (valC 13 0 nilB 0 0 (.slice none 0 0) (.slice none 0 0)) 38 (0, 0))) := ((Keep.refl _ w).alloc _).alloc _
  have hR0 : ((w.alloc (.cells zVal 38 (0, 0))).alloc (.cells (valC 13 0 nilB 0 0 (.slice none 0 0) (.slice none 0 0)) 38 (0, 0))).heap[w.heap.size]? = some (.cells zVal 38 (0, 0)) := (Below.heap_alloc _ _ _ (by simp)).trans (heap_alloc_new w _)
  have hU0 : ((w.alloc (.cells zVal 38 (0, 0))).alloc (.cells (valC 13 0 nilB 0 0 (.slice none 0 0) (.slice none 0 0)) 38 (0, 0))).heap[w.heap.size + 1]? = some (.cells (valC 13 0 nilB 0 0 (.slice none 0 0) (.slice none 0 0)) 38 (0, 0)) := heap_alloc_at (by simp) _
  have hs0 : ((w.alloc (.cells zVal 38 (0, 0))).alloc (.cells (valC 13 0 nilB 0 0 (.slice none 0 0) (.slice none 0 0)) 38 (0, 0))).heap.size = w.heap.size + 2 := by simp
  go_enter Tryz.func51, Tryz.ntmps51
  go_wp2_with fail
  obtain ⟨n0, hn⟩ : ∃ n0, w.heap.size = n0 := ⟨_, rfl⟩
  rw [hn] at hU0 hR0 hs0 ⊢
  generalize (w.alloc (.cells zVal 38 (0, 0))).alloc (.cells (valC 13 0 nilB 0 0 (.slice none 0 0) (.slice none 0 0)) 38 (0, 0)) = w1 at *
  have HN := Lib.hid hn
  have HU0 := Lib.hid hU0
  have HR0 := Lib.hid hR0
  have HS0 := Lib.hid hs0
  have HM := Lib.hid (Cmp.M_new h hk0)
  clear hn hU0 hR0 hs0
  go_cut [7, 8, 9, 10] from 16 to 26 (fun s7 s8 s9 s10 wx => ∃ kt t n ev, s7 = .int .u8 kt ∧ s8 = .int .u8 t ∧ s9 = .int .i64 n ∧ s10 = ev ∧ Cmp.Post K w1.drew wx ((Cmp.pr K).mK s) ev ((Cmp.pr K).mS s) ∧ ((Cmp.pr K).mK s = 0 → kt = (Cmp.pr K).mKT s ∧ t = (Cmp.pr K).mT s ∧ n = (Cmp.pr K).mN s))
  case first =>
    go_region_with (first | (go_at_call 21; refine (ctx_at _).mono ?_; rintro e w' ⟨rfl, rfl⟩) | (go_at_call 165; refine (Cmp.readMapBegin (w := w1.drew) (h.fresh hk0.drew)).mono ?_; rintro e w2 ⟨kt, t, n, ev, rfl, hp, hv⟩; have HP := Lib.hid hp; have HV := Lib.hid hv; clear hp hv))
    all_goals
      go_wp2_with fail
      go_simp
      go_meet
      exact ⟨_, _, _, _, rfl, rfl, rfl, rfl, HP.out, HV.out⟩
  case rest =>
  obtain ⟨kt, t, n, ev, rfl, rfl, rfl, he, hp, hv⟩ := hcut
  have he := he.symm
  subst he
  have HP := Lib.hid hp
  have HV := Lib.hid hv
  clear hp hv
  have hs1 := HS0.out
  have hN := HN.out
  have hl0 : n0 < w1.heap.size := by omega
  have hl1 : n0 + 1 < w1.heap.size := by omega
  have hR2 := (HP.out.keep.block n0 (by simpa using hl0) (fun x => by have := HM.out _ x; omega)).trans HR0.out
  have hU2 := (HP.out.keep.block (n0 + 1) (by simpa using hl1) (fun x => by have := HM.out _ x; omega)).trans HU0.out
  have HU2 := Lib.hid hU2
  have HR2 := Lib.hid hR2
  by_cases hz : (Cmp.pr K).mK s = 0
  · have hev : ev = .nilIface := by have := HP.out.err; rw [hz] at this; exact this.isNil
    subst hev
    obtain ⟨hkt, ht, hn⟩ := HV.out hz
    obtain ⟨hbt, hbk⟩ := Cmp.mT_bd K s
    rw [← hkt] at hbk
    rw [← ht] at hbt
    have HKT := Lib.hid hkt
    have HTT := Lib.hid ht
    have HNN := Lib.hid hn
    have HZ := Lib.hid hz
    obtain ⟨hbt0, hbt1⟩ := hbt
    obtain ⟨hbk0, hbk1⟩ := hbk
    obtain ⟨x0, x1, x2, x3, x4, x5, x6⟩ := got_cells hU2
    obtain ⟨y0, y1, y2, y3, y4, y5, y6⟩ := got_free hU2
    clear hkt ht hn hz hU2 hR2 hs1 hN hl0 hl1
    have hk3 : Keep (fun i => n0 + 1 = i) wc ((wc.setCell ⟨n0 + 1, 3, none⟩ (.int .i64 kt)).setCell ⟨n0 + 1, 4, none⟩ (.int .i64 t)) := ((Keep.refl _ wc).set (n0 + 1) 3 (fun _ => rfl) _).set (n0 + 1) 4 (fun _ => rfl) _
    have hU4 : ((wc.setCell ⟨n0 + 1, 3, none⟩ (.int .i64 kt)).setCell ⟨n0 + 1, 4, none⟩ (.int .i64 t)).heap[n0 + 1]? = some (.cells (valC 13 0 nilB kt t (.slice none 0 0) (.slice none 0 0)) 38 (0, 0)) := by simpa using heap_set_same (i := 4) (heap_set_same (i := 3) HU2.out (.int .i64 kt)) (.int .i64 t)
    have hR4 := (hk3.block n0 (lt_of_heap HR2.out) (by omega)).trans HR2.out
    have HK3 := Lib.hid hk3
    have HU4 := Lib.hid hU4
    have HR4 := Lib.hid hR4
    clear hk3 hU4 hR4
    by_cases hbig : 100000 < n
    · have e0 : res = (52, (Cmp.pr K).mS s, V.zero) := by
        rw [← HRES.out]
        have hb2 : (Cmp.pr K).mN s > 100000 := by rw [← HNN.out]; omega
        simp [gt, isSc, HZ.out, hb2]
      have E0 := Lib.hid e0
      clear e0
      go_wp2_with (with_reducible refine wpList_named 39 rfl ?_)
      intro w4 hw4
      have hw4' : (wc.setCell ⟨n0 + 1, 3, none⟩ (.int .i64 kt)).setCell ⟨n0 + 1, 4, none⟩ (.int .i64 t) = w4 := hw4
      rw [hw4'] at HK3 HU4 HR4
      clear hw4 hw4' x0 x1 x2 x3 x4 x5 x6 y0 y1 y2 y3 y4 y5 y6
      obtain ⟨p0, p1, p2, p3, p4, p5, p6⟩ := got_cells HU4.out
      obtain ⟨q0, q1, q2, q3, q4, q5, q6⟩ := got_cells HR4.out
      obtain ⟨o0, o1, o2, o3, o4, o5, o6⟩ := got_free HR4.out
      go_wp2_with fail
      have hk9 := val_keep (M := fun i => n0 ≤ i ∧ i < n0 + 2) (HK3.out.weak (fun i _ e => by omega)) (R := n0) (fun _ => by omega) (.int .i64 13) (.int .i64 0) (.slice none 0 0) (.int .i64 kt) (.int .i64 t) (.slice none 0 0) (.slice none 0 0)
      refine ret_cell2 (U := n0) (T := 38) Tryz.results51 rfl rfl rfl (val_set HR4.out (.int .i64 13) (.int .i64 0) (.slice none 0 0) (.int .i64 kt) (.int .i64 t) (.slice none 0 0) (.slice none 0 0)) Tryz.underlying38 ival_size ?_
      have hn0 := HN.out
      have hs1 := HS0.out
      rw [E0.out]
      exact ⟨13, 0, none, 0, 0, kt, t, none, 0, 0, none, 0, 0, _, rfl, Cmp.through h hk0.drew (HP.out.own 52 (by decide) (by decide)) hk9 (fun i hi => by simp; omega), fun hz => absurd hz (by show ¬ (52 : Int) = 0; decide)⟩
    · obtain ⟨tot, htot⟩ : ∃ tot, gpairs (gt (Cmp.pr K) d kt) (gt (Cmp.pr K) d t) n.toNat ((Cmp.pr K).mS s) [] = tot := ⟨_, rfl⟩
      have hrt : res = gend (Cmp.pr K).meS (fun l => .mk 13 0 [] kt t [] l) tot := by
        rw [← HRES.out, ← htot, HKT.out, HTT.out, HNN.out]
        have hb2 : ¬ (Cmp.pr K).mN s > 100000 := by rw [← HNN.out]; omega
        simp [gt, isSc, HZ.out, hb2]
      have HT := Lib.hid htot
      have HRT := Lib.hid hrt
      clear htot hrt
      go_wp2_with fail
      generalize (wc.setCell ⟨n0 + 1, 3, none⟩ (.int .i64 kt)).setCell ⟨n0 + 1, 4, none⟩ (.int .i64 t) = w4 at *
      clear x0 x1 x2 x3 x4 x5 x6 y0 y1 y2 y3 y4 y5 y6
      go_loopg [42] n.toNat (fun k v wr => Cmp.GRel K w (n0 + 1) [(n0, zVal, 38)] d 13 kt t (fun q l k => gpairs (gt (Cmp.pr K) d kt) (gt (Cmp.pr K) d t) k q l) n 2 tot k v wr)
      case atStart =>
        have hN := HN.out
        have hs1 := HS0.out
        have hk1 : Keep (fun _ => False) w w1.drew := hk0.drew
        have hnM : ∀ j, n0 ≤ j → j < w1.heap.size → ¬ Cmp.M K wc j := fun j hj hl => HP.out.keep.not (by simpa using hl) (fun x => by have := HM.out _ x; omega)
        obtain ⟨j1, j2, j3⟩ := Cmp.turn h ((Cmp.kept h hk1).then HP.out.keep) (HP.out.inv HZ.out) HK3.out (fun i e => by subst e; exact ⟨by omega, hnM _ (by omega) (by omega)⟩)
        refine ⟨0, _, [], _, [], rfl, by omega, by rw [Int.sub_zero], by simp, j1, ⟨j2, ivb_start HU4.out ⟨by omega, by simp, fun m => hnM _ (by omega) (by omega) (j3 _ m)⟩ (fun i x => x.1), ?_⟩, by show gpairs _ _ _ _ _ = _; exact HT.out, ?_⟩
        · intro p hp
          simp only [List.mem_cons, List.not_mem_nil, or_false] at hp
          subst hp
          exact ⟨by show w.heap.size ≤ n0; omega, HR4.out, fun m => hnM _ (Nat.le_refl _) (by omega) (j3 _ m)⟩
        · have a1 := (Cmp.ok K).m s HZ.out
          have a2 := (Cmp.ok K).dm s HZ.out
          have a3 : _ + _ < _ := HRM.out
          show _ + _ < _
          omega
      case round =>
        obtain ⟨i, s1, vs, lv, rows, rfl, hi0, hk, hvl, hi1, hfr, hgs, hrm⟩ := hrel
        by_cases hin : i < n
        · cases gk with
          | zero => omega
          | succ k =>
          have HK := Lib.hid hk
          have HGS := Lib.hid hgs
          have HVL := Lib.hid hvl
          have hbk : 0 ≤ kt ∧ kt ≤ 255 := ⟨hbk0, hbk1⟩
          have hbt : 0 ≤ t ∧ t ≤ 255 := ⟨hbt0, hbt1⟩
          go_wp2_with fail
          have HFA0 := Lib.hid (Cmp.Frame.add h hi1 hfr #[.int .u8 kt, .int .u8 t] 88)
          have hiA := hi1.fresh ((Keep.refl (fun _ => False) wr).alloc (.cells #[.int .u8 kt, .int .u8 t] 88 (0, 0)))
          have hrA := hrm
          obtain ⟨A, hA⟩ : ∃ A, wr.heap.size = A := ⟨_, rfl⟩
          rw [hA] at HFA0 ⊢
          generalize wr.alloc (.cells #[.int .u8 kt, .int .u8 t] 88 (0, 0)) = wA at *
          have HFA := HFA0
          clear hk hgs hfr hvl HFA0 hi1 hrm hA
          refine wp_loop_rounds 3 ?_
          rw [rounds_succ]
          have hUA := HFA.out.vb.blk
          obtain ⟨hA1, hA2, hA3⟩ := HFA.out.still (A, #[.int .u8 kt, .int .u8 t], 88) (by simp)
          have aA0 := cellAt hA2 0
          have aA1 := cellAt hA2 1
          simp at aA0 aA1
          clear hUA hA1 hA2 hA3
          go_wp2_with fail
          refine (ih (deep - 1) kt s1 wA HD.out (by omega) (by omega) hbk.1 hbk.2 hiA hrA).mono ?_
          rintro e w3 ⟨T', N', Sa, Sm, Sc, KT', E', Ia, Im, Ic, La, Lm, Lc, ev, rfl, hp3, hval⟩
          clear aA0 aA1
          have HF3 := Lib.hid (HFA.out.call hp3.keep)
          have hU5 := HF3.out.vb.blk
          have hUl := lt_of_heap hU5
          have hU6 := (Below.heap_alloc w3 (.cells (valC T' N' (.slice Sa Sm Sc) KT' E' (.slice Ia Im Ic) (.slice La Lm Lc)) 38 (0, 0)) _ hUl).trans hU5
          have hne3 : ¬ n0 + 1 = w3.heap.size := by omega
          have hne4 : ¬ w3.heap.size = n0 + 1 := by omega
          have HP3 := Lib.hid hp3
          have HVAL := Lib.hid hval
          obtain ⟨x0, x1, x2, x3, x4, x5, x6⟩ := got_cells hU6
          clear hp3 hval hU6 hU5
          obtain ⟨vi, hvi, hvz, hvs, hvb⟩ := ival_info
          have hvs1 : vs.length + 1 ≤ 200000 := by have := HVL.out; simp at this ⊢; omega
          have hnews := new_cells (w3.alloc (.cells (valC T' N' (.slice Sa Sm Sc) KT' E' (.slice Ia Im Ic) (.slice La Lm Lc)) 38)) (valC T' N' (.slice Sa Sm Sc) KT' E' (.slice Ia Im Ic) (.slice La Lm Lc)) 38
          rw [show (w3.alloc (.cells (valC T' N' (.slice Sa Sm Sc) KT' E' (.slice Ia Im Ic) (.slice La Lm Lc)) 38)).heap.size = w3.heap.size + 1 by simp] at hnews
          have hone : ∀ u ∈ ((valC T' N' (.slice Sa Sm Sc) KT' E' (.slice Ia Im Ic) (.slice La Lm Lc))).toList, u.oneCell' = true := by
            intro u hu
            simp only [List.mem_cons, List.not_mem_nil, or_false] at hu
            rcases hu with rfl | rfl | rfl | rfl | rfl | rfl | rfl <;> rfl
          have hb0 : w.heap.size ≤ ((w3.alloc (.cells (valC T' N' (.slice Sa Sm Sc) KT' E' (.slice Ia Im Ic) (.slice La Lm Lc)) 38)).alloc (.cells (valC T' N' (.slice Sa Sm Sc) KT' E' (.slice Ia Im Ic) (.slice La Lm Lc)) 38)).heap.size := by have := HF3.out.kp.size; simp; omega
          have hmx : vs.length + 1 ≤ maxLen := by simp only [maxLen]; omega
          go_wp2_with (at_builtin; refine wpList_append_own_at _ rfl (.tmp 61) (.tmp 63) 36 rfl w.heap.size 38 vi (.agg zVal) 7 104 Tryz.underlying36 hvi hvz hvs hvb rfl (by decide) lv vs.length (rows).flatten rfl ((HF3.out.vb.parts.alloc _).alloc _) ⟨w3.heap.size + 1, 0, none⟩ 1 1 ((valC T' N' (.slice Sa Sm Sc) KT' E' (.slice Ia Im Ic) (.slice La Lm Lc))).toList rfl rfl hnews hone hmx (by omega) hb0 ?_)
          intro v' w7 hown hgrow hnil hat
          obtain ⟨va, vm, vc, rfl⟩ := own_shape hown
          have hmn := HFA.out.mine
          have hkk : Keep (fun _ => False) w3 ((w3.alloc (.cells (valC T' N' (.slice Sa Sm Sc) KT' E' (.slice Ia Im Ic) (.slice La Lm Lc)) 38)).alloc (.cells (valC T' N' (.slice Sa Sm Sc) KT' E' (.slice Ia Im Ic) (.slice La Lm Lc)) 38)) := ((Keep.refl _ w3).alloc _).alloc _
          have hk7 : Keep (fun i => (lv).ownBlock = some i) w3 w7 := (hkk.weak (fun _ _ x => x.elim)).grown hgrow (fun k e _ => e)
          have hU7 := (hk7.block (n0 + 1) hUl HF3.out.vb.neL).trans HF3.out.vb.blk
          obtain ⟨hR1, hR2, hR3⟩ := HF3.out.still (n0, zVal, 38) (by simp)
          have hR7 := (hk7.block n0 (lt_of_heap hR2) (fun e => (hmn _ (.inr (.inr e))).2.2.1 (n0, zVal, 38) (by simp) rfl)).trans hR2
          have HOWN := Lib.hid hown
          have HGROW := Lib.hid hgrow
          have HAT := Lib.hid hat
          have HK7 := Lib.hid hk7
          have HKK := Lib.hid hkk
          have HR7 := Lib.hid hR7
          have HMN := Lib.hid hmn
          clear x0 x1 x2 x3 x4 x5 x6 hnews hone hb0 hmx hown hgrow hat hnil hk7 hkk hR1 hR2 hR3 hmn hvi hvz hvs hvb
          obtain ⟨x0, x1, x2, x3, x4, x5, x6⟩ := got_cells hU7
          obtain ⟨y0, y1, y2, y3, y4, y5, y6⟩ := got_free hU7
          clear hU7
          by_cases hz3 : (gt (Cmp.pr K) d kt s1).1 = 0
          · have hev : ev = .nilIface := by have := HP3.out.err; rw [hz3] at this; exact this.isNil
            subst hev
            have HZA := Lib.hid hz3
            clear hz3
            go_wp2_with fail
            have i3 := HP3.out.inv HZA.out
            have hM6 := (Cmp.turn h HF3.out.kp i3 HKK.out (fun _ x => x.elim)).2.2
            obtain ⟨F8, I8⟩ := Cmp.Frame.part (x := (gt (Cmp.pr K) d kt s1).2.2) h (Cmp.Frame.fresh h HF3.out i3 HKK.out) (i3.fresh HKK.out)
              (((HVAL.out HZA.out).keep HKK.out (fun _ _ => id)).weak (fun i _ hi => ⟨fun j hj e => by have := (HMN.out j hj).2.1; have := hi.1; omega, by have := hi.1; have := HFA.out.kp.size; omega, fun p hp e => by have := lt_of_heap (HFA.out.still p hp).2.1; have := hi.1; omega, fun m => hi.2 (hM6 i m)⟩)) HOWN.out HGROW.out (by simpa using HAT.out)
            have hrN : (Cmp.pr K).Room (gt (Cmp.pr K) d kt s1).2.1 := by
              have a1 := gt_len (Cmp.ok K) d _ _ HZA.out
              have a2 := gt_dep (Cmp.ok K) d _ _ HZA.out
              have a3 : _ + _ < _ := hrA
              show _ + _ < _
              omega
            have HF8 := Lib.hid F8
            clear F8 i3 hM6 x0 x1 x2 x3 x4 x5 x6 y0 y1 y2 y3 y4 y5 y6 hne3 hne4 hvs1 hUl
            have hI8 := I8
            generalize w7.setCell ⟨n0 + 1, 6, none⟩ (.slice va vm vc) = wB at *
            obtain ⟨cs1, hcs1⟩ : ∃ cs1, [Value.int .i64 T', Value.int .i64 N', Value.slice Sa Sm Sc, Value.int .i64 KT', Value.int .i64 E', Value.slice Ia Im Ic, Value.slice La Lm Lc] = cs1 := ⟨_, rfl⟩
            obtain ⟨lv1, hlv1⟩ : ∃ lv1, Value.slice va vm vc = lv1 := ⟨_, rfl⟩
            have HFB : Hid (Cmp.Frame K w (n0 + 1) [(A, #[.int .u8 kt, .int .u8 t], 88), (n0, zVal, 38)] d 13 kt t [] (vs ++ [(gt (Cmp.pr K) d kt s1).2.2]) (.slice none 0 0) lv1 (rows ++ [cs1]) wB) := by
              have := HF8.out
              rw [← hcs1, ← hlv1]
              exact Lib.hid this
            have hiB := I8
            have hrB := hrN
            clear hlv1 hcs1 HF8 HP3 HVAL HOWN HGROW HAT HK7 HKK HR7 HMN HF3 hI8 I8 hrN
            rw [rounds_succ]
            have hUA := HFB.out.vb.blk
            obtain ⟨hA1, hA2, hA3⟩ := HFB.out.still (A, #[.int .u8 kt, .int .u8 t], 88) (by simp)
            have aB0 := cellAt hA2 0
            have aB1 := cellAt hA2 1
            simp at aB0 aB1
            clear hUA hA1 hA2 hA3
            go_wp2_with fail
            refine (ih (deep - 1) t (gt (Cmp.pr K) d kt s1).2.1 wB HD.out (by omega) (by omega) hbt.1 hbt.2 hiB hrB).mono ?_
            rintro e w3 ⟨T', N', Sa, Sm, Sc, KT', E', Ia, Im, Ic, La, Lm, Lc, ev, rfl, hp3, hval⟩
            clear aB0 aB1
            have HF3 := Lib.hid (HFB.out.call hp3.keep)
            have hU5 := HF3.out.vb.blk
            have hUl := lt_of_heap hU5
            have hU6 := (Below.heap_alloc w3 (.cells (valC T' N' (.slice Sa Sm Sc) KT' E' (.slice Ia Im Ic) (.slice La Lm Lc)) 38 (0, 0)) _ hUl).trans hU5
            have hne3 : ¬ n0 + 1 = w3.heap.size := by omega
            have hne4 : ¬ w3.heap.size = n0 + 1 := by omega
            have HP3 := Lib.hid hp3
            have HVAL := Lib.hid hval
            obtain ⟨x0, x1, x2, x3, x4, x5, x6⟩ := got_cells hU6
            clear hp3 hval hU6 hU5
            obtain ⟨vi, hvi, hvz, hvs, hvb⟩ := ival_info
            have hvs1 : (vs ++ [(gt (Cmp.pr K) d kt s1).2.2]).length + 1 ≤ 200000 := by have := HVL.out; simp at this ⊢; omega
            have hnews := new_cells (w3.alloc (.cells (valC T' N' (.slice Sa Sm Sc) KT' E' (.slice Ia Im Ic) (.slice La Lm Lc)) 38)) (valC T' N' (.slice Sa Sm Sc) KT' E' (.slice Ia Im Ic) (.slice La Lm Lc)) 38
            rw [show (w3.alloc (.cells (valC T' N' (.slice Sa Sm Sc) KT' E' (.slice Ia Im Ic) (.slice La Lm Lc)) 38)).heap.size = w3.heap.size + 1 by simp] at hnews
            have hone : ∀ u ∈ ((valC T' N' (.slice Sa Sm Sc) KT' E' (.slice Ia Im Ic) (.slice La Lm Lc))).toList, u.oneCell' = true := by
              intro u hu
              simp only [List.mem_cons, List.not_mem_nil, or_false] at hu
              rcases hu with rfl | rfl | rfl | rfl | rfl | rfl | rfl <;> rfl
            have hb0 : w.heap.size ≤ ((w3.alloc (.cells (valC T' N' (.slice Sa Sm Sc) KT' E' (.slice Ia Im Ic) (.slice La Lm Lc)) 38)).alloc (.cells (valC T' N' (.slice Sa Sm Sc) KT' E' (.slice Ia Im Ic) (.slice La Lm Lc)) 38)).heap.size := by have := HF3.out.kp.size; simp; omega
            have hmx : (vs ++ [(gt (Cmp.pr K) d kt s1).2.2]).length + 1 ≤ maxLen := by simp only [maxLen]; omega
            go_wp2_with (at_builtin; refine wpList_append_own_at _ rfl (.tmp 61) (.tmp 63) 36 rfl w.heap.size 38 vi (.agg zVal) 7 104 Tryz.underlying36 hvi hvz hvs hvb rfl (by decide) lv1 (vs ++ [(gt (Cmp.pr K) d kt s1).2.2]).length ((rows ++ [cs1])).flatten rfl ((HF3.out.vb.parts.alloc _).alloc _) ⟨w3.heap.size + 1, 0, none⟩ 1 1 ((valC T' N' (.slice Sa Sm Sc) KT' E' (.slice Ia Im Ic) (.slice La Lm Lc))).toList rfl rfl hnews hone hmx (by omega) hb0 ?_)
            intro v' w7 hown hgrow hnil hat
            obtain ⟨va, vm, vc, rfl⟩ := own_shape hown
            have hmn := HFB.out.mine
            have hkk : Keep (fun _ => False) w3 ((w3.alloc (.cells (valC T' N' (.slice Sa Sm Sc) KT' E' (.slice Ia Im Ic) (.slice La Lm Lc)) 38)).alloc (.cells (valC T' N' (.slice Sa Sm Sc) KT' E' (.slice Ia Im Ic) (.slice La Lm Lc)) 38)) := ((Keep.refl _ w3).alloc _).alloc _
            have hk7 : Keep (fun i => (lv1).ownBlock = some i) w3 w7 := (hkk.weak (fun _ _ x => x.elim)).grown hgrow (fun k e _ => e)
            have hU7 := (hk7.block (n0 + 1) hUl HF3.out.vb.neL).trans HF3.out.vb.blk
            obtain ⟨hR1, hR2, hR3⟩ := HF3.out.still (n0, zVal, 38) (by simp)
            have hR7 := (hk7.block n0 (lt_of_heap hR2) (fun e => (hmn _ (.inr (.inr e))).2.2.1 (n0, zVal, 38) (by simp) rfl)).trans hR2
            have HOWN := Lib.hid hown
            have HGROW := Lib.hid hgrow
            have HAT := Lib.hid hat
            have HK7 := Lib.hid hk7
            have HKK := Lib.hid hkk
            have HR7 := Lib.hid hR7
            have HMN := Lib.hid hmn
            clear x0 x1 x2 x3 x4 x5 x6 hnews hone hb0 hmx hown hgrow hat hnil hk7 hkk hR1 hR2 hR3 hmn hvi hvz hvs hvb
            obtain ⟨x0, x1, x2, x3, x4, x5, x6⟩ := got_cells hU7
            obtain ⟨y0, y1, y2, y3, y4, y5, y6⟩ := got_free hU7
            clear hU7
            by_cases hz3 : (gt (Cmp.pr K) d t (gt (Cmp.pr K) d kt s1).2.1).1 = 0
            · have hev : ev = .nilIface := by have := HP3.out.err; rw [hz3] at this; exact this.isNil
              subst hev
              have HZB := Lib.hid hz3
              clear hz3
              go_wp2_with fail
              have i3 := HP3.out.inv HZB.out
              have hM6 := (Cmp.turn h HF3.out.kp i3 HKK.out (fun _ x => x.elim)).2.2
              obtain ⟨F8, I8⟩ := Cmp.Frame.part (x := (gt (Cmp.pr K) d t (gt (Cmp.pr K) d kt s1).2.1).2.2) h (Cmp.Frame.fresh h HF3.out i3 HKK.out) (i3.fresh HKK.out)
                (((HVAL.out HZB.out).keep HKK.out (fun _ _ => id)).weak (fun i _ hi => ⟨fun j hj e => by have := (HMN.out j hj).2.1; have := hi.1; omega, by have := hi.1; have := HFB.out.kp.size; omega, fun p hp e => by have := lt_of_heap (HFB.out.still p hp).2.1; have := hi.1; omega, fun m => hi.2 (hM6 i m)⟩)) (by simpa using HOWN.out) HGROW.out (by simpa using HAT.out)
              have hrN : (Cmp.pr K).Room (gt (Cmp.pr K) d t (gt (Cmp.pr K) d kt s1).2.1).2.1 := by
                have a1 := gt_len (Cmp.ok K) d _ _ HZB.out
                have a2 := gt_dep (Cmp.ok K) d _ _ HZB.out
                have a3 : _ + _ < _ := hrB
                show _ + _ < _
                omega
              have HF8 := Lib.hid F8
              clear F8 i3 hM6 x0 x1 x2 x3 x4 x5 x6 y0 y1 y2 y3 y4 y5 y6 hne3 hne4 hvs1 hUl
              rw [rounds_succ]
              go_wp2_with fail
              go_roundg k
              case measure => exact Nat.lt_succ_self _
              case rel =>
                refine ⟨i + 1, _, _, _, _, rfl, by omega, by have := HK.out; omega, by have := HVL.out; simp; omega, I8, HF8.out.drop, ?_, hrN⟩
                show gpairs _ _ _ _ _ = _
                rw [← HGS.out]
                exact (gpairs_ok HZA.out HZB.out).symm
            · obtain ⟨tt, x, rfl⟩ := HP3.out.err.held hz3
              have HZ3 := Lib.hid hz3
              clear hz3
              obtain ⟨r0, r1, r2, r3, r4, r5, r6⟩ := got_cells HR7.out
              obtain ⟨z0, z1, z2, z3, z4, z5, z6⟩ := got_free HR7.out
              go_wp2_with fail
              have hR8 : (w7.setCell ⟨n0 + 1, 6, none⟩ (.slice va vm vc)).heap[n0]? = some (.cells zVal 38 (0, 0)) := (heap_set_other (p := ⟨n0 + 1, 6, none⟩) _ (by simp)).trans HR7.out
              have hk9 := val_keep (M := fun i => n0 + 1 = i ∨ (lv1).ownBlock = some i ∨ n0 = i) ((HK7.out.weak (fun i _ e => .inr (.inl e))).set (n0 + 1) 6 (fun _ => .inl rfl) (.slice va vm vc)) (R := n0) (fun _ => .inr (.inr rfl)) (.int .i64 13) (.int .i64 0) (.slice none 0 0) (.int .i64 kt) (.int .i64 t) (.slice none 0 0) (.slice va vm vc)
              refine ret_cell2 (U := n0) (T := 38) Tryz.results51 rfl rfl rfl (val_set hR8 (.int .i64 13) (.int .i64 0) (.slice none 0 0) (.int .i64 kt) (.int .i64 t) (.slice none 0 0) (.slice va vm vc)) Tryz.underlying38 ival_size ?_
              have hth := Cmp.thru h HFB.out.kp hiB HP3.out hk9 (fun i e => by
                rcases e with e | e | e
                · have := HMN.out i (.inl e); exact ⟨this.1, this.2.1, this.2.2.2⟩
                · have := HMN.out i (.inr (.inr e)); exact ⟨this.1, this.2.1, this.2.2.2⟩
                · subst e
                  obtain ⟨q1, q2, q3⟩ := HFB.out.still (n0, zVal, 38) (by simp)
                  exact ⟨q1, lt_of_heap q2, q3⟩)
              have e1 : res = ((gt (Cmp.pr K) d t (gt (Cmp.pr K) d kt s1).2.1).1, (gt (Cmp.pr K) d t (gt (Cmp.pr K) d kt s1).2.1).2.1, V.zero) := by
                rw [HRT.out, ← HGS.out]
                obtain ⟨l9, e9⟩ := gpairs_bad2 (n := k) (l := vs) HZA.out HZ3.out
                show gend _ _ (gpairs _ _ _ _ _) = _
                rw [e9]
                exact gend_bad HZ3.out
              rw [e1]
              exact ⟨13, 0, none, 0, 0, kt, t, none, 0, 0, va, vm, vc, _, rfl, hth.1, fun hz => absurd hz HZ3.out⟩
          · obtain ⟨tt, x, rfl⟩ := HP3.out.err.held hz3
            have HZ3 := Lib.hid hz3
            clear hz3
            obtain ⟨r0, r1, r2, r3, r4, r5, r6⟩ := got_cells HR7.out
            obtain ⟨z0, z1, z2, z3, z4, z5, z6⟩ := got_free HR7.out
            go_wp2_with fail
            have hR8 : (w7.setCell ⟨n0 + 1, 6, none⟩ (.slice va vm vc)).heap[n0]? = some (.cells zVal 38 (0, 0)) := (heap_set_other (p := ⟨n0 + 1, 6, none⟩) _ (by simp)).trans HR7.out
            have hk9 := val_keep (M := fun i => n0 + 1 = i ∨ (lv).ownBlock = some i ∨ n0 = i) ((HK7.out.weak (fun i _ e => .inr (.inl e))).set (n0 + 1) 6 (fun _ => .inl rfl) (.slice va vm vc)) (R := n0) (fun _ => .inr (.inr rfl)) (.int .i64 13) (.int .i64 0) (.slice none 0 0) (.int .i64 kt) (.int .i64 t) (.slice none 0 0) (.slice va vm vc)
            refine ret_cell2 (U := n0) (T := 38) Tryz.results51 rfl rfl rfl (val_set hR8 (.int .i64 13) (.int .i64 0) (.slice none 0 0) (.int .i64 kt) (.int .i64 t) (.slice none 0 0) (.slice va vm vc)) Tryz.underlying38 ival_size ?_
            have hth := Cmp.thru h HFA.out.kp hiA HP3.out hk9 (fun i e => by
              rcases e with e | e | e
              · have := HMN.out i (.inl e); exact ⟨this.1, this.2.1, this.2.2.2⟩
              · have := HMN.out i (.inr (.inr e)); exact ⟨this.1, this.2.1, this.2.2.2⟩
              · subst e
                obtain ⟨q1, q2, q3⟩ := HFA.out.still (n0, zVal, 38) (by simp)
                exact ⟨q1, lt_of_heap q2, q3⟩)
            have e1 : res = ((gt (Cmp.pr K) d kt s1).1, (gt (Cmp.pr K) d kt s1).2.1, V.zero) := by
              rw [HRT.out, ← HGS.out]
              show gend _ _ (gpairs _ _ _ _ _) = _
              rw [gpairs_bad1 HZ3.out]
              exact gend_bad HZ3.out
            rw [e1]
            exact ⟨13, 0, none, 0, 0, kt, t, none, 0, 0, va, vm, vc, _, rfl, hth.1, fun hz => absurd hz HZ3.out⟩

        · have hgk : gk = 0 := by omega
          subst hgk
          obtain ⟨La, Lm, Lc, rfl⟩ := own_shape hfr.vb.parts
          have HGS := Lib.hid hgs
          have HFR := Lib.hid hfr
          obtain ⟨hR1, hR2, hR3⟩ := HFR.out.still (n0, zVal, 38) (by simp)
          have hR3' := hR2
          obtain ⟨x0, x1, x2, x3, x4, x5, x6⟩ := got_cells HFR.out.vb.blk
          clear hk hgs hfr hR1 hR2 hR3 hR3'
          go_wp2_with fail
          go_region_with (first | (go_at_call 21; refine (ctx_at _).mono ?_; rintro e w' ⟨rfl, rfl⟩) | (go_at_call 166; refine (Cmp.readMapEnd (w := wr.drew) (hi1.fresh ((Keep.refl _ wr).drew))).mono ?_; rintro e w5 ⟨rfl, hp5⟩; have HP5 := Lib.hid hp5; have HF5 := Lib.hid ((Cmp.Frame.fresh h HFR.out hi1 ((Keep.refl _ wr).drew)).call hp5.keep); clear hp5; obtain ⟨hR1, hR2, hR3⟩ := HF5.out.still (n0, zVal, 38) (by simp); have HR5 := Lib.hid hR2; obtain ⟨p0, p1, p2, p3, p4, p5, p6⟩ := got_cells HF5.out.vb.blk; obtain ⟨r0, r1, r2, r3, r4, r5, r6⟩ := got_cells hR2; obtain ⟨z0, z1, z2, z3, z4, z5, z6⟩ := got_free hR2; clear hR1 hR2 hR3))
          all_goals
            go_wp2_with fail
            have hk9 := val_keep (M := fun i => n0 = i) (Keep.refl _ w5) (R := n0) (fun _ => rfl) (.int .i64 13) (.int .i64 0) (.slice none 0 0) (.int .i64 kt) (.int .i64 t) (.slice none 0 0) (.slice La Lm Lc)
            refine ret_cell2 (U := n0) (T := 38) Tryz.results51 rfl rfl rfl (val_set HR5.out (.int .i64 13) (.int .i64 0) (.slice none 0 0) (.int .i64 kt) (.int .i64 t) (.slice none 0 0) (.slice La Lm Lc)) Tryz.underlying38 ival_size ?_
            have hfd := Cmp.Frame.fresh h HFR.out hi1 ((Keep.refl _ wr).drew)
            have hth := Cmp.thru h hfd.kp (hi1.fresh ((Keep.refl _ wr).drew)) HP5.out hk9 (fun i e => by
              subst e
              obtain ⟨q1, q2, q3⟩ := hfd.still (n0, zVal, 38) (by simp)
              exact ⟨q1, lt_of_heap q2, q3⟩)
            have e1 : res = (0, (Cmp.pr K).meS s1, .mk 13 0 [] kt t [] vs) := by
              have e2 : tot = (0, s1, vs) := by rw [← HGS.out]; rfl
              rw [HRT.out, e2]
              exact gend_ok rfl
            rw [e1]
            refine ⟨13, 0, none, 0, 0, kt, t, none, 0, 0, La, Lm, Lc, _, rfl, hth.1, fun hz => ?_⟩
            have hv := HF5.out.vb.val (by simp)
            exact (hv.keep hk9 (fun i hi e => hi.2.1 (n0, zVal, 38) (by simp) e.symm)).weak (fun i _ hi => ⟨hi.1, fun m => hi.2.2 (hth.2 i m)⟩)
  · have e0 : res = ((Cmp.pr K).mK s, (Cmp.pr K).mS s, V.zero) := by rw [← HRES.out]; simp [gt, isSc, hz]
    have E0 := Lib.hid e0
    obtain ⟨tt, x, rfl⟩ := HP.out.err.held hz
    have HZ := Lib.hid hz
    obtain ⟨p0, p1, p2, p3, p4, p5, p6⟩ := got_cells hU2
    obtain ⟨q0, q1, q2, q3, q4, q5, q6⟩ := got_cells hR2
    obtain ⟨o0, o1, o2, o3, o4, o5, o6⟩ := got_free hR2
    clear e0 hz hU2 hR2 hs1 hN hl0 hl1
    go_wp2_with fail
    have hk9 := val_keep (M := fun i => n0 ≤ i ∧ i < n0 + 2) (Keep.refl _ wc) (R := n0) (fun _ => by omega) (.int .i64 13) (.int .i64 0) (.slice none 0 0) (.int .i64 0) (.int .i64 0) (.slice none 0 0) (.slice none 0 0)
    refine ret_cell2 (U := n0) (T := 38) Tryz.results51 rfl rfl rfl (val_set HR2.out (.int .i64 13) (.int .i64 0) (.slice none 0 0) (.int .i64 0) (.int .i64 0) (.slice none 0 0) (.slice none 0 0)) Tryz.underlying38 ival_size ?_
    have hn0 := HN.out
    have hs1 := HS0.out
    rw [E0.out]
    exact ⟨13, 0, none, 0, 0, 0, 0, none, 0, 0, none, 0, 0, _, rfl, Cmp.through h hk0.drew HP.out hk9 (fun i hi => by simp; omega), fun hz => absurd hz HZ.out⟩

end Go.Proofs.YtnccjcbelcbgoaaGreatDoor

/- The thin package's get: ids and parts are appended to. -/
namespace Go.Proofs.YtnccjcbelcbgoaaGreatDoor
open Go Go.RowKit

variable {K : Cmp.Ctx} {w w6 w7 : World} {U : Nat} {S : List (Nat × Array Value × TypeId)} {d : Nat} {T KT E : Int} {ids : List Int} {vs : List _root_.Go.Proofs.YtnccjcbelcbgoaaGreatDoor.V} {iv lv iv' lv' : Value} {rows : List (List Value)} {s s' : Cmp.St}

theorem Cmp.Frame.two {x : _root_.Go.Proofs.YtnccjcbelcbgoaaGreatDoor.V} {cs : List Value} {id : Int} (h : Cmp.Inv K s w) (f : Cmp.Frame K w U S d T KT E ids vs iv lv rows w6) (i6 : Cmp.Inv K s' w6)
    (hx : ValAt d (fun i => (∀ j, U = j ∨ iv.ownBlock = some j ∨ lv.ownBlock = some j → i ≠ j) ∧ Cmp.Own K w.heap.size S w6 i) w6 cs x)
    (g : Grw 38 w.heap.size iv lv w6 iv' lv' (ids.length + 1) (ids.map (Value.int .i64) ++ [.int .i64 id]) (vs.length + 1) (rows.flatten ++ cs) w7) :
    Cmp.Frame K w U S d T KT E (ids ++ [id]) (vs ++ [x]) iv' lv' (rows ++ [cs]) ((w7.setCell ⟨U, 5, none⟩ iv').setCell ⟨U, 6, none⟩ lv') ∧ Cmp.Inv K s' ((w7.setCell ⟨U, 5, none⟩ iv').setCell ⟨U, 6, none⟩ lv') := by
  have hmine := f.mine
  have hk : Keep (fun i => U = i ∨ iv.ownBlock = some i ∨ lv.ownBlock = some i) w6 ((w7.setCell ⟨U, 5, none⟩ iv').setCell ⟨U, 6, none⟩ lv') := ((g.kp.weak (fun _ _ e => .inr e)).set U 5 (fun _ => .inl rfl) iv').set U 6 (fun _ => .inl rfl) lv'
  obtain ⟨t1, t2, t3⟩ := Cmp.turn h f.kp i6 hk (fun i e => by
    have := hmine i e
    exact ⟨this.1, this.2.2.2⟩)
  have hlt := Cmp.M_lt i6
  have hs67 := g.kp.size
  refine ⟨⟨t2, ?_, ?_⟩, t1⟩
  · refine Grw.done f.vb (hx.weak (fun i _ y => ⟨y.2, y.1 U (.inl rfl), fun e => y.1 i (.inr (.inl e)) rfl, fun e => y.1 i (.inr (.inr e)) rfl⟩)) g (fun i hi y => ⟨y.1, y.2.1, fun m => y.2.2 (t3 i m)⟩) (fun i hi _ => ⟨?_, fun p hp e => ?_, fun m => ?_⟩) (fun i y => y.1)
    · have := f.kp.size
      omega
    · have := lt_of_heap (f.still p hp).2.1
      omega
    · have := hlt i (t3 i m)
      omega
  · intro p hp
    obtain ⟨h1, h2, h3⟩ := f.still p hp
    refine ⟨h1, (hk.block p.1 (lt_of_heap h2) ?_).trans h2, fun m => h3 (t3 p.1 m)⟩
    intro e
    exact (hmine p.1 e).2.2.1 p hp rfl

end Go.Proofs.YtnccjcbelcbgoaaGreatDoor

/- The compact protocol: a field's id. -/
namespace Go.Proofs.YtnccjcbelcbgoaaGreatDoor
open Go Go.RowKit

theorem i16_wrap_bd (n : Int) : -32768 ≤ IntKind.i16.wrap n ∧ IntKind.i16.wrap n ≤ 32767 := by
  have e : IntKind.i16.wrap n = if n % 65536 ≥ 32768 then n % 65536 - 65536 else n % 65536 := by
    simp [IntKind.wrap, IntKind.bits, IntKind.signed]
  rw [e]
  split <;> omega

theorem Cmp.fI_bd (K : Cmp.Ctx) (s : Cmp.St) : -32768 ≤ (Cmp.pr K).fI s ∧ (Cmp.pr K).fI s ≤ 32767 := by
  show -32768 ≤ Cmp.fI s ∧ Cmp.fI s ≤ 32767
  unfold Cmp.fI
  split
  · omega
  · split
    · omega
    · split
      · exact i16_wrap_bd _
      · exact i16_wrap_bd _

end Go.Proofs.YtnccjcbelcbgoaaGreatDoor

/- The thin package: reading a uuid. -/
namespace Go.Proofs.YtnccjcbelcbgoaaGreatDoor
open Go Go.RowKit

theorem Cmp.readUUID16 {K : Cmp.Ctx} {s : Cmp.St} {w : World} (h : Cmp.Inv K s w) :
    Calls Tryz.prog 174 #[.pointer (some ⟨K.P, 0, none⟩), ctxV] w fun e w' => ∃ U l ev, e = .returned (.tuple #[.agg U, ev]) ∧ U.size = 16 ∧ (bcells l).toArray = U ∧ Cmp.Post K w w' ((Cmp.pr K).scK 16 s) ev ((Cmp.pr K).scS 16 s) ∧ l.length = 16 ∧ U.all (·.oneCell') = true ∧ ((Cmp.pr K).scK 16 s = 0 → l = (Cmp.pr K).scB 16 s) := by
  refine (Cmp.readUUID h).mono ?_
  rintro e w' ⟨l, ev, rfl, hp, hl, hv⟩
  refine ⟨_, l, ev, rfl, by simpa using hl, rfl, hp, hl, ?_, hv⟩
  rw [Array.all_eq_true_iff_forall_mem]
  intro v hv
  simp at hv
  obtain ⟨b, _, rfl⟩ := hv
  rfl

theorem Cmp.na_ReadUUID (K : Cmp.Ctx) (w : World) : (nilAhead 491 106 (.pointer (some ⟨K.P, 0, none⟩)) "ReadUUID").run Tryz.prog w = .ok (some false) w := by kernel_rfl

set_option maxRecDepth 100000 in
set_option maxHeartbeats 1200000 in
theorem Cmp.read21 (K : Cmp.Ctx) (s : Cmp.St) (w : World) (h : Cmp.Inv K s w) :
    Calls Tryz.prog 49 #[Cmp.V K, .agg (stepI 21)] w (Cmp.ReadP K w ((Cmp.pr K).scK 16 s) ((Cmp.pr K).scS 16 s) ((Cmp.pr K).scN 16 s) ((Cmp.pr K).scB 16 s)) := by
  have hna := Cmp.na_ReadUUID K
  go_enter Tryz.func49, Tryz.ntmps49
  go_wp2_with fail
  have hk0 : Keep (fun _ => False) w ((w.alloc (.cells (stepI 21) 151 (0, 0))).alloc (.cells zGot 148 (0, 0))) := ((Keep.refl _ w).alloc _).alloc _
  have hU0 : ((w.alloc (.cells (stepI 21) 151 (0, 0))).alloc (.cells zGot 148 (0, 0))).heap[w.heap.size + 1]? = some (.cells zGot 148 (0, 0)) := heap_alloc_at (by simp) _
  obtain ⟨U, hU⟩ : ∃ U, w.heap.size + 1 = U := ⟨_, rfl⟩
  rw [hU] at hU0 ⊢
  generalize (w.alloc (.cells (stepI 21) 151 (0, 0))).alloc (.cells zGot 148 (0, 0)) = w1 at *
  have HU := Lib.hid hU
  have HU0 := Lib.hid hU0
  have hM := Cmp.M_new h hk0
  have HM := Lib.hid hM
  clear hU hU0 hM
  have hz1 : (w1.alloc (.cells #[.int .u8 0, .int .u8 0, .int .u8 0, .int .u8 0, .int .u8 0, .int .u8 0, .int .u8 0, .int .u8 0, .int .u8 0, .int .u8 0, .int .u8 0, .int .u8 0, .int .u8 0, .int .u8 0, .int .u8 0, .int .u8 0] 167 (0, 0))).heap[w1.heap.size]? = some (.cells #[.int .u8 0, .int .u8 0, .int .u8 0, .int .u8 0, .int .u8 0, .int .u8 0, .int .u8 0, .int .u8 0, .int .u8 0, .int .u8 0, .int .u8 0, .int .u8 0, .int .u8 0, .int .u8 0, .int .u8 0, .int .u8 0] 167 (0, 0)) := heap_alloc_new w1 _
  have hsz : (Tryz.prog.info? 167).map (·.size) = some 16 := by kernel_rfl
  have HSZ := Lib.hid hsz
  clear hsz
  go_region_with (first | (go_at_call 21; refine (ctx_at _).mono ?_; rintro e w' ⟨rfl, rfl⟩) | (go_at_call 174; first | (go_loud ((with_reducible refine (Cmp.readUUID16 (w := w1.drew) (h.fresh hk0.drew)).mono ?_); rintro e w2 ⟨R, l, ev, rfl, hRs, hR, hp, hl, hall, hv⟩; have hkA : Keep (fun _ => False) w w1.drew := hk0.drew; have HP := Lib.hid hp; have HV := Lib.hid hv; have HR := Lib.hid hR; have HL := Lib.hid hl; have HALL := Lib.hid hall; have hz := heap_alloc_new w2 (.cells #[.int .u8 0, .int .u8 0, .int .u8 0, .int .u8 0, .int .u8 0, .int .u8 0, .int .u8 0, .int .u8 0, .int .u8 0, .int .u8 0, .int .u8 0, .int .u8 0, .int .u8 0, .int .u8 0, .int .u8 0, .int .u8 0] 167 (0, 0)); have HZ := Lib.hid hz; have hst := storeRow (P := Tryz.prog) (w2.alloc (.cells #[.int .u8 0, .int .u8 0, .int .u8 0, .int .u8 0, .int .u8 0, .int .u8 0, .int .u8 0, .int .u8 0, .int .u8 0, .int .u8 0, .int .u8 0, .int .u8 0, .int .u8 0, .int .u8 0, .int .u8 0, .int .u8 0] 167 (0, 0))) w2.heap.size _ 167 _ R hz (HSZ.out.trans (by rw [hRs])) (by simp [hRs]) hall; clear hz; clear hp hv hR hl hall)) | (((with_reducible refine (Cmp.readUUID16 (w := (w1.alloc (.cells #[.int .u8 0, .int .u8 0, .int .u8 0, .int .u8 0, .int .u8 0, .int .u8 0, .int .u8 0, .int .u8 0, .int .u8 0, .int .u8 0, .int .u8 0, .int .u8 0, .int .u8 0, .int .u8 0, .int .u8 0, .int .u8 0] 167 (0, 0))).drew) (h.fresh (hk0.alloc _).drew)).mono ?_); rintro e w2 ⟨R, l, ev, rfl, hRs, hR, hp, hl, hall, hv⟩; have HP := Lib.hid hp; have HV := Lib.hid hv; have HR := Lib.hid hR; have HL := Lib.hid hl; have HALL := Lib.hid hall; have hz := (hp.keep.block w1.heap.size (by simp) (fun x => by have := Cmp.M_new (w1 := w1.alloc (.cells #[.int .u8 0, .int .u8 0, .int .u8 0, .int .u8 0, .int .u8 0, .int .u8 0, .int .u8 0, .int .u8 0, .int .u8 0, .int .u8 0, .int .u8 0, .int .u8 0, .int .u8 0, .int .u8 0, .int .u8 0, .int .u8 0] 167 (0, 0))) h (hk0.alloc _) _ x; have := hk0.size; omega)).trans hz1; have HZ := Lib.hid hz; have hst := storeRow (P := Tryz.prog) w2 w1.heap.size _ 167 _ R hz (HSZ.out.trans (by rw [hRs])) (by simp [hRs]) hall; clear hp hv hR hl hall hz))))
  all_goals
    first
    | (obtain ⟨W1, W, G, hkW, hkI, hP, hW, hG, hr, hk2⟩ : ∃ W1 W G, Keep (fun _ => False) w W1 ∧ Keep (fun _ => False) w1 W1 ∧ Cmp.Post K W1 w2 ((Cmp.pr K).scK 16 s) ev ((Cmp.pr K).scS 16 s) ∧ (w2.alloc (.cells #[.int .u8 0, .int .u8 0, .int .u8 0, .int .u8 0, .int .u8 0, .int .u8 0, .int .u8 0, .int .u8 0, .int .u8 0, .int .u8 0, .int .u8 0, .int .u8 0, .int .u8 0, .int .u8 0, .int .u8 0, .int .u8 0] 167 (0, 0))).setRow w2.heap.size R = W ∧ w2.heap.size = G ∧ W.heap[G]? = some (.cells R 167 (0, 0)) ∧ Keep (fun i => w1.heap.size ≤ i ∧ i < W1.heap.size) w2 W := ⟨w1.drew, _, _, hk0.drew, (Keep.refl _ w1).drew, HP.out, rfl, rfl, setRow_heap _ _ _ _ _ _ HZ.out, ((Keep.refl _ w2).alloc _).setRow _ (fun x => absurd x (Nat.lt_irrefl _)) R⟩
       rw [hW, hG]
       clear hW hG hst HZ)
    | (obtain ⟨W1, W, G, hkW, hkI, hP, hW, hG, hr, hk2⟩ : ∃ W1 W G, Keep (fun _ => False) w W1 ∧ Keep (fun _ => False) w1 W1 ∧ Cmp.Post K W1 w2 ((Cmp.pr K).scK 16 s) ev ((Cmp.pr K).scS 16 s) ∧ w2.setRow w1.heap.size R = W ∧ w1.heap.size = G ∧ W.heap[G]? = some (.cells R 167 (0, 0)) ∧ Keep (fun i => w1.heap.size ≤ i ∧ i < W1.heap.size) w2 W := ⟨(w1.alloc (.cells #[.int .u8 0, .int .u8 0, .int .u8 0, .int .u8 0, .int .u8 0, .int .u8 0, .int .u8 0, .int .u8 0, .int .u8 0, .int .u8 0, .int .u8 0, .int .u8 0, .int .u8 0, .int .u8 0, .int .u8 0, .int .u8 0] 167 (0, 0))).drew, _, _, (hk0.alloc _).drew, ((Keep.refl _ w1).alloc _).drew, HP.out, rfl, rfl, setRow_heap _ _ _ _ _ _ HZ.out, (Keep.refl _ w2).setRow _ (fun _ => ⟨Nat.le_refl _, by simp⟩) R⟩
       rw [hW, hG]
       clear hW hG hst HZ)
    have hUs := HU.out
    have hUl := lt_of_heap HU0.out
    have hIs := hkI.size
    have hPs := hP.keep.size
    have hMW : ∀ i, Cmp.M K W1 i → i < w.heap.size := Cmp.M_new h hkW
    have hb : w2.heap[U]? = some (.cells zGot 148 (0, 0)) := (hP.keep.block U (by omega) (fun x => by have := hMW U x; omega)).trans ((hkI.block U hUl id).trans HU0.out)
    have hc : ∀ j b, l[j]? = some b → W.cell? ⟨G, 0 + j, none⟩ = some (.int .u8 (b.toNat : Int)) := by
      intro j b hj
      rw [Nat.zero_add, cellAt hr j, ← HR.out]
      simp [hj]
    have hbW := (hk2.block U (by omega) (fun x => by omega)).trans hb
    have HBW := Lib.hid hbW
    have HC := Lib.hid hc
    have HI := Lib.hid (And.intro hIs hPs)
    clear hr hc hb hbW
    go_wp2_with fail
    refine (owned_some (A := fun _ => True) HC.out HL.out (by omega) (by omega)).mono ?_
    rintro e w3 ⟨va, vm, vc, rfl, hbs, hk3⟩
    have hb3 := (hk3.block U (lt_of_heap HBW.out) id).trans HBW.out
    have HBS := Lib.hid hbs
    have HB3 := Lib.hid hb3
    obtain ⟨u0, u1, u2, u3, u4, u5, u6⟩ := got_cells hb3
    obtain ⟨f0, f1, f2, f3, f4, f5, f6⟩ := got_free hb3
    clear hb3 hbs
    go_wp2_with fail
    have hUs := HU.out
    have hIP := HI.out
    have hUl := lt_of_heap HU0.out
    have hk9 : Keep (fun i => w.heap.size ≤ i ∧ i < W1.heap.size) w2 (gotW w3 U 0 0 0 0 0 0 (.slice va vm vc)) := got_keep ((hk2.weak (fun i _ x => by have := hk0.size; omega)).then (hk3.weak (fun _ _ x => x.elim))) (fun _ => by omega) _ _ _ _ _ _ _
    refine ret_cell2 (U := U) (T := 148) Tryz.results49 rfl rfl rfl (got_set HB3.out _ _ _ _ _ _ _) Tryz.underlying148 igot_size ?_
    refine ⟨0, .slice va vm vc, ev, rfl, Cmp.through h hkW hP hk9 (fun i hi => hi), ⟨_, _, _, rfl⟩, fun hz => ⟨(Cmp.n16 K s).symm, ?_⟩⟩
    have hk4 : Keep (fun i => U = i) w3 (gotW w3 U 0 0 0 0 0 0 (.slice va vm vc)) := got_keep (Keep.refl _ w3) (fun _ => rfl) _ _ _ _ _ _ _
    have hWs := hk2.size
    rw [← HV.out hz]
    exact (HBS.out.keep hk4 (fun i hi e => by omega)).weak (fun i _ hi => ⟨by omega, fun x => by have := hP.some.lt i (Cmp.through_M h hkW hP hk9 (fun i hi => hi) i x); omega⟩)

end Go.Proofs.YtnccjcbelcbgoaaGreatDoor

/- The thin package: get of a uuid. -/
namespace Go.Proofs.YtnccjcbelcbgoaaGreatDoor
open Go Go.RowKit

set_option maxRecDepth 100000 in
set_option maxHeartbeats 4000000 in
theorem Cmp.gets16 (K : Cmp.Ctx) (deep : Int) (hd : 0 < deep) (s : Cmp.St) (w : World) (h : Cmp.Inv K s w) :
    Calls Tryz.prog 31 #[Cmp.V K, .int .u8 16, .int .i64 deep] w (Cmp.GetP K 1 w ((Cmp.pr K).scK 16 s, (Cmp.pr K).scS 16 s, .mk 16 ((Cmp.pr K).scN 16 s) ((Cmp.pr K).scB 16 s) 0 0 [] [])) := by
  go_enter Tryz.func31, Tryz.ntmps31
  go_wp2_with fail
  obtain ⟨hk0, hR, hV, hG, hs⟩ := getW_facts w 16
  obtain ⟨n0, hn⟩ : ∃ n0, w.heap.size = n0 := ⟨_, rfl⟩
  rw [hn] at hR hV hG hs ⊢
  unfold getW at hk0 hR hV hG hs
  generalize ((w.alloc (.cells zVal 38 (0, 0))).alloc (.cells (valC 16 0 nilB 0 0 (.slice none 0 0) (.slice none 0 0)) 38 (0, 0))).alloc (.cells zGot 148 (0, 0)) = w1 at *
  have HN := Lib.hid hn
  have HR := Lib.hid hR
  have HV := Lib.hid hV
  have HG := Lib.hid hG
  have HS := Lib.hid hs
  have HM := Lib.hid (Cmp.M_new h hk0)
  clear hn hR hV hG hs
  refine (Cmp.read21 K s w1 (h.fresh hk0)).mono ?_
  rintro e w2 ⟨n, v, ev, rfl, hp, ⟨va, vm, vc, rfl⟩, hres⟩
  have hnew : ∀ i, n0 ≤ i → ¬ Cmp.M K w1 i := fun i hi x => by have := HM.out i x; have := HN.out; omega
  have hR2 := (hp.keep.block n0 (lt_of_heap HR.out) (hnew _ (by omega))).trans HR.out
  have hV2 := (hp.keep.block (n0 + 1) (lt_of_heap HV.out) (hnew _ (by omega))).trans HV.out
  have hG2 := (hp.keep.block (n0 + 1 + 1) (lt_of_heap HG.out) (hnew _ (by omega))).trans HG.out
  have HP := Lib.hid hp
  have HRES := Lib.hid hres
  have HR2 := Lib.hid hR2
  have HV2 := Lib.hid hV2
  have HG2 := Lib.hid hG2
  obtain ⟨u0, u1, u2, u3, u4, u5, u6⟩ := got_cells hG2
  obtain ⟨f0, f1, f2, f3, f4, f5, f6⟩ := got_free hG2
  clear hp hres hR2 hV2 hG2 hnew
  go_wp2_with fail
  have hG3 := got_set HG2.out 0 0 0 0 0 n (.slice va vm vc)
  have hk3 : Keep (fun i => n0 + 1 + 1 = i) w2 (gotW w2 (n0 + 1 + 1) 0 0 0 0 0 n (.slice va vm vc)) := got_keep (Keep.refl _ w2) (fun _ => rfl) _ _ _ _ _ _ _
  clear u0 u1 u2 u3 u4 u5 u6 f0 f1 f2 f3 f4 f5 f6
  obtain ⟨w3, hw3⟩ : ∃ w3, gotW w2 (n0 + 1 + 1) 0 0 0 0 0 n (.slice va vm vc) = w3 := ⟨_, rfl⟩
  rw [hw3] at hG3 hk3
  unfold gotW at hw3
  rw [hw3]
  clear hw3
  have hV3 := (hk3.block (n0 + 1) (lt_of_heap HV2.out) (by omega)).trans HV2.out
  have hR3 := (hk3.block n0 (lt_of_heap HR2.out) (by omega)).trans HR2.out
  obtain ⟨u0, u1, u2, u3, u4, u5, u6⟩ := got_cells hG3
  obtain ⟨x0, x1, x2, x3, x4, x5, x6⟩ := got_cells hV3
  obtain ⟨y0, y1, y2, y3, y4, y5, y6⟩ := got_free hV3
  obtain ⟨r0, r1, r2, r3, r4, r5, r6⟩ := got_cells hR3
  obtain ⟨z0, z1, z2, z3, z4, z5, z6⟩ := got_free hR3
  have HV3 := Lib.hid hV3
  have HR3 := Lib.hid hR3
  clear hV3 hR3 hG3
  go_region
  all_goals
    go_wp2_with fail
    have hn0 := HN.out
    have hs1 := HS.out
    have hR4 : ((w3.setCell ⟨n0 + 1, 1, none⟩ (.int .i64 n)).setCell ⟨n0 + 1, 2, none⟩ (.slice va vm vc)).heap[n0]? = some (.cells zVal 38 (0, 0)) := (heap_set_other (p := ⟨n0 + 1, 2, none⟩) _ (by simp)).trans ((heap_set_other (p := ⟨n0 + 1, 1, none⟩) _ (by simp)).trans HR3.out)
    have hkN : Keep (fun i => n0 ≤ i ∧ i < n0 + 3) w2 w3 := hk3.weak (fun i _ e => by omega)
    have hkW := (((((((((hkN.set (n0 + 1) 1 (fun _ => by omega) (.int .i64 n)).set (n0 + 1) 2 (fun _ => by omega) (.slice va vm vc)).set n0 0 (fun _ => by omega) (.int .i64 16)).set n0 1 (fun _ => by omega) (.int .i64 n)).set n0 2 (fun _ => by omega) (.slice va vm vc)).set n0 3 (fun _ => by omega) (.int .i64 0)).set n0 4 (fun _ => by omega) (.int .i64 0)).set n0 5 (fun _ => by omega) (.slice none 0 0)).set n0 6 (fun _ => by omega) (.slice none 0 0)).drew
    have hR5 := val_set hR4 (.int .i64 16) (.int .i64 n) (.slice va vm vc) (.int .i64 0) (.int .i64 0) (.slice none 0 0) (.slice none 0 0)
    generalize ((((((((w3.setCell ⟨n0 + 1, 1, none⟩ (.int .i64 n)).setCell ⟨n0 + 1, 2, none⟩ (.slice va vm vc)).setCell ⟨n0, 0, none⟩ (.int .i64 16)).setCell ⟨n0, 1, none⟩ (.int .i64 n)).setCell ⟨n0, 2, none⟩ (.slice va vm vc)).setCell ⟨n0, 3, none⟩ (.int .i64 0)).setCell ⟨n0, 4, none⟩ (.int .i64 0)).setCell ⟨n0, 5, none⟩ (.slice none 0 0)).setCell ⟨n0, 6, none⟩ (.slice none 0 0) = w4 at *
    have hR6 : w4.drew.heap[n0]? = some (.cells #[.int .i64 16, .int .i64 n, .slice va vm vc, .int .i64 0, .int .i64 0, .slice none 0 0, .slice none 0 0] 38 (0, 0)) := hR5
    refine ret_cell2 (U := n0) (T := 38) Tryz.results31 rfl rfl rfl hR6 Tryz.underlying38 ival_size ?_
    refine ⟨_, n, va, vm, vc, 0, 0, none, 0, 0, none, 0, 0, ev, rfl, Cmp.through h hk0 HP.out hkW (fun i hi => by omega), fun hz => ?_⟩
    obtain ⟨e1, e2⟩ := HRES.out hz
    subst e1
    exact ⟨_, _, _, rfl, (e2.keep hkW (fun i hi e => by have := hi.1; omega)).weak (fun i _ hi => ⟨by have := hi.1; omega, fun x => hi.2 (Cmp.through_M h hk0 HP.out hkW (fun i hi => by omega) i x)⟩), .inl ⟨rfl, _, _, rfl⟩, .inl ⟨rfl, _, _, rfl⟩⟩

end Go.Proofs.YtnccjcbelcbgoaaGreatDoor
