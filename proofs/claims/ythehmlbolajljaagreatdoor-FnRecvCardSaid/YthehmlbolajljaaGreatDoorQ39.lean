/- Part 39 of the proof: GetSR, GetZR, Cmp9. -/
import Derived.Test.YthehmlbolajljaaGreatDoorQ32
import Derived.Test.YthehmlbolajljaaGreatDoorQ38
import Derived.Test.YthehmlbolajljaaGreatDoorQ10
import Derived.Test.YthehmlbolajljaaGreatDoorQ30
import Derived.Test.YthehmlbolajljaaGreatDoorQ34
import Derived.Test.YthehmlbolajljaaGreatDoorQ35
import Derived.Deep.RegionWith
import Derived.Deep.Cut
import Derived.Deep.CutBlock
set_option linter.unusedVariables false
set_option linter.unusedSimpArgs false
set_option linter.unusedSectionVars false
set_option maxHeartbeats 16000000
namespace Go.Proofs.YthehmlbolajljaaGreatDoor
open Go Go.RowKit
def Rp.SRel {St : Type} (K : Rp.Ctx St) (w : World) (U : Nat) (S : List (Nat × Array Value × TypeId)) (d : Nat) (f : Int → St → Int × St × _root_.Go.Proofs.YthehmlbolajljaaGreatDoor.V) (tot : Int × St × _root_.Go.Proofs.YthehmlbolajljaaGreatDoor.V) (b k : Nat) (wr : World) : Prop :=
 ∃ s1 ids vs iv lv rows, K.Inv s1 wr ∧ Rp.Frame K w U S d 12 0 0 ids vs iv lv rows wr ∧ K.pr.len s1 < k ∧ gflds K.pr f k s1 ids vs = tot ∧ K.pr.one ≤ K.pr.dep s1 ∧ K.pr.len s1 + K.pr.dep s1 ≤ b ∧ ids.length = vs.length ∧ vs.length + K.pr.len s1 ≤ b
set_option maxRecDepth 100000 in
theorem Rp.getStruct {St : Type} (K : Rp.Ctx St) (d : Nat) (ih : Rp.Gets K d) (deep : Int) (s : St) (w : World) (hdq : deep.toNat = d + 1) (hd : 0 < deep) (hhi : deep ≤ 9223372036854775807) (h : K.Inv s w) (hroom : K.pr.Room s) :
  Calls Tryz.prog 59 #[K.V, .int .i64 deep] w (Rp.GetP K (d + 1) w (gflds K.pr (gt K.pr d) (K.pr.len (K.pr.sbS s) + 1) (K.pr.sbS s) [] [])) := by
 obtain ⟨tot, htot⟩ : ∃ tot, gflds K.pr (gt K.pr d) (K.pr.len (K.pr.sbS s) + 1) (K.pr.sbS s) [] [] = tot := ⟨_, rfl⟩
 rw [htot]
 have HT := hdd htot
 have hR : K.pr.len s + K.pr.dep s < 1099511627776 := hroom
 have HRM := hdd hR
 have hd1 : (deep - 1).toNat = d := by omega
 have HD := hdd hd1
 have HDD := hdd hdq
 clear htot hroom hd1 hdq hR
 obtain ⟨hnam, hna, hnac⟩ := K.mSb
 obtain ⟨hnbm, hnb, hnbc⟩ := K.mSe
 obtain ⟨hncm, hnc, hncc⟩ := K.mFb
 obtain ⟨hndm, hnd, hndc⟩ := K.mFe
 have hk0 : Keep (fun _ => False) w ((w.alloc (.cells zVal 29 (0, 0))).alloc (.cells (valC 12 0 nilB 0 0 (.slice none 0 0) (.slice none 0 0)) 29 (0, 0))) := ((Keep.refl _ w).alloc _).alloc _
 have hR0 : ((w.alloc (.cells zVal 29 (0, 0))).alloc (.cells (valC 12 0 nilB 0 0 (.slice none 0 0) (.slice none 0 0)) 29 (0, 0))).heap[w.heap.size]? = some (.cells zVal 29 (0, 0)) := (Below.heap_alloc _ _ _ (by simp)).trans (heap_alloc_new w _)
 have hU0 : ((w.alloc (.cells zVal 29 (0, 0))).alloc (.cells (valC 12 0 nilB 0 0 (.slice none 0 0) (.slice none 0 0)) 29 (0, 0))).heap[w.heap.size + 1]? = some (.cells (valC 12 0 nilB 0 0 (.slice none 0 0) (.slice none 0 0)) 29 (0, 0)) := heap_alloc_at (by simp) _
 have hs0 : ((w.alloc (.cells zVal 29 (0, 0))).alloc (.cells (valC 12 0 nilB 0 0 (.slice none 0 0) (.slice none 0 0)) 29 (0, 0))).heap.size = w.heap.size + 2 := by simp
 go_enter Tryz.func59, Tryz.ntmps59
 go_wp2_with fail
 obtain ⟨n0, hn⟩ : ∃ n0, w.heap.size = n0 := ⟨_, rfl⟩
 rw [hn] at hU0 hR0 hs0 ⊢
 generalize (w.alloc (.cells zVal 29 (0, 0))).alloc (.cells (valC 12 0 nilB 0 0 (.slice none 0 0) (.slice none 0 0)) 29 (0, 0)) = w1 at *
 have HN := hdd hn
 have HU0 := hdd hU0
 have HR0 := hdd hR0
 have HS0 := hdd hs0
 have HM := hdd (Rp.M_new h hk0)
 clear hn hU0 hR0 hs0
 go_cut [7, 8] from 16 to 24 (fun s7 s8 wx => s8 = .nilIface ∧ Rp.Post K w1.drew wx 0 .nilIface (K.pr.sbS s))
 case first =>
  go_region_with (first | (go_at_call 28; refine (ctx_at _).mono ?_; rintro e w' ⟨rfl, rfl⟩) | (refine (K.readStructBegin (w := w1.drew) (h.fresh hk0.drew) (by have := HRM.out; omega)).mono ?_; rintro e w2 ⟨l, rfl, hp⟩; have HP := hdd hp; clear hp))
  all_goals
   go_wp2_with fail
   go_simp
   go_meet
   exact ⟨rfl, HP.out⟩
 case rest =>
 obtain ⟨rfl, hp⟩ := hcut
 have hs1 := HS0.out
 have hN := HN.out
 have hl0 : n0 < w1.heap.size := by omega
 have hl1 : n0 + 1 < w1.heap.size := by omega
 have hR2 := (hp.keep.block n0 (by simpa using hl0) (fun x => by have := HM.out _ x; omega)).trans HR0.out
 have hU2 := (hp.keep.block (n0 + 1) (by simpa using hl1) (fun x => by have := HM.out _ x; omega)).trans HU0.out
 have HP := hdd hp
 have HU2 := hdd hU2
 have HR2 := hdd hR2
 clear hp hU2 hR2 hs1 hN hl0 hl1
 go_wp2_with fail
 go_loopg [] (K.pr.len (K.pr.sbS s) + 1) (fun k wr => Rp.SRel K w (n0 + 1) [(n0, zVal, 29)] d (gt K.pr d) tot (K.pr.len s + K.pr.dep s + K.pr.one) k wr)
 case atStart =>
  have hN := HN.out
  have hs1 := HS0.out
  have hnM : ∀ j, n0 ≤ j → j < w1.heap.size → ¬ K.M wc j := fun j hj hl => HP.out.keep.not (by simpa using hl) (fun x => by have := HM.out _ x; omega)
  have ok := K.ok
  have e1 := ok.dsb s
  have e2 := ok.sb s
  refine ⟨_, [], [], _, _, [], HP.out.inv rfl, ⟨(Rp.kept h hk0.drew).then HP.out.keep, ivb_start HU2.out ⟨by omega, by simp, hnM _ (by omega) (by omega)⟩ (fun i x => x.1), ?_⟩, Nat.lt_succ_self _, HT.out, by omega, by omega, rfl, by simp; omega⟩
  intro p hp
  simp only [List.mem_cons, List.not_mem_nil, or_false] at hp
  subst hp
  exact ⟨by show w.heap.size ≤ n0; omega, HR2.out, hnM _ (Nat.le_refl _) (by omega)⟩
 case round =>
  obtain ⟨s1, ids, vs, iv, lv, rows, hi1, hfr, hlt, hfl, hdp, hbd, hil, hvl⟩ := hrel
  cases gk with
  | zero => exact absurd hlt (Nat.not_lt_zero _)
  | succ k =>
  have HF := hdd hfl
  have HFR := hdd hfr
  have HNUM := hdd (And.intro hlt (And.intro hdp (And.intro hbd (And.intro hil hvl))))
  clear hfl hfr hlt hdp hbd hil hvl
  go_wp2_with fail
  go_cut [9, 10, 11, 12] from 29 to 39 (fun s9 s10 s11 s12 wx => ∃ t id ev, s10 = .int .u8 t ∧ s11 = .int .i16 id ∧ s12 = ev ∧ Rp.Post K wr.drew wx (K.pr.fK s1) ev (K.pr.fS s1) ∧ (K.pr.fK s1 = 0 → t = K.pr.fT s1 ∧ id = K.pr.fI s1))
  case first =>
   go_region_with (first | (go_at_call 28; refine (ctx_at _).mono ?_; rintro e w' ⟨rfl, rfl⟩) | (refine (K.readFieldBegin (w := wr.drew) (hi1.fresh ((Keep.refl _ wr).drew))).mono ?_; rintro e w2 ⟨l, t, id, ev, rfl, hp, hv⟩; have HP2 := hdd hp; have HV2 := hdd hv; clear hp hv))
   all_goals
    go_wp2_with fail
    go_simp
    go_meet
    exact ⟨_, _, _, rfl, rfl, rfl, HP2.out, HV2.out⟩
  case rest =>
  obtain ⟨t, id, ev, rfl, rfl, he, hp2, hv2⟩ := hcut
  have he := he.symm
  subst he
  have hfd := Rp.Frame.fresh h HFR.out hi1 ((Keep.refl _ wr).drew)
  have HF2 := hdd (hfd.call hp2.keep)
  have HFD := hdd hfd
  have HP2 := hdd hp2
  clear hfd hp2
  obtain ⟨Ia, Im, Ic, rfl⟩ := own_shape HFR.out.vb.ids
  obtain ⟨La, Lm, Lc, rfl⟩ := own_shape HFR.out.vb.parts
  obtain ⟨hR1, hR2, hR3⟩ := HF2.out.still (n0, zVal, 29) (by simp)
  have HR2 := hdd hR2
  by_cases hz : K.pr.fK s1 = 0
  ·have hev : ev = .nilIface := by have := HP2.out.err; rw [hz] at this; exact this.isNil
   subst hev
   obtain ⟨ht, hid⟩ := hv2 hz
   have HZ := hdd hz
   have HTT := hdd ht
   have HID := hdd hid
   clear hz ht hid hv2
   by_cases ht0 : t = 0
   ·subst ht0
    obtain ⟨x0, x1, x2, x3, x4, x5, x6⟩ := got_cells HF2.out.vb.blk
    clear hR1 hR2 hR3
    go_wp2_with fail
    go_cut [5] from 46 to 52 (fun s5 wx => s5 = .nilIface ∧ ∃ w5, wx = ((((((((w5).setCell ⟨n0, 0, none⟩ (.int .i64 12)).setCell ⟨n0, 1, none⟩ (.int .i64 0)).setCell ⟨n0, 2, none⟩ (.slice none 0 0)).setCell ⟨n0, 3, none⟩ (.int .i64 0)).setCell ⟨n0, 4, none⟩ (.int .i64 0)).setCell ⟨n0, 5, none⟩ (.slice Ia Im Ic)).setCell ⟨n0, 6, none⟩ (.slice La Lm Lc)) ∧ Rp.Post K wc.drew w5 0 .nilIface (K.pr.seS (K.pr.fS s1)))
    case first =>
     go_region_with (first | (go_at_call 28; refine (ctx_at _).mono ?_; rintro e w' ⟨rfl, rfl⟩) | (refine (K.readStructEnd (w := wc.drew) ((HP2.out.inv HZ.out).fresh ((Keep.refl _ wc).drew)) (by rw [K.ok.df s1 HZ.out]; exact HNUM.out.2.1)).mono ?_; rintro e w5 ⟨rfl, hp5⟩; have HP5 := hdd hp5; have HF5 := hdd ((Rp.Frame.fresh h HF2.out (HP2.out.inv HZ.out) ((Keep.refl _ wc).drew)).call hp5.keep); clear hp5; obtain ⟨hR1, hR2, hR3⟩ := HF5.out.still (n0, zVal, 29) (by simp); obtain ⟨p0, p1, p2, p3, p4, p5, p6⟩ := got_cells HF5.out.vb.blk; obtain ⟨r0, r1, r2, r3, r4, r5, r6⟩ := got_cells hR2; obtain ⟨z0, z1, z2, z3, z4, z5, z6⟩ := got_free hR2; clear hR1 hR2 hR3))
     all_goals
      go_wp2_with fail
      go_simp
      go_meet
      exact ⟨rfl, _, rfl, HP5.out⟩
    case rest =>
    obtain ⟨rfl, w5, rfl, hp5⟩ := hcut
    have hfd := Rp.Frame.fresh h HF2.out (HP2.out.inv HZ.out) ((Keep.refl _ wc).drew)
    have HF5 := hdd (hfd.call hp5.keep)
    have HP5 := hdd hp5
    have HFE := hdd hfd
    obtain ⟨hR1, hR2, hR3⟩ := HF5.out.still (n0, zVal, 29) (by simp)
    have HR5 := hdd hR2
    clear hfd hp5 x0 x1 x2 x3 x4 x5 x6 hR1 hR2 hR3
    go_wp2_with fail
    have hk9 := val_keep (M := fun i => n0 = i) (Keep.refl _ w5) (R := n0) (fun _ => rfl) (.int .i64 12) (.int .i64 0) (.slice none 0 0) (.int .i64 0) (.int .i64 0) (.slice Ia Im Ic) (.slice La Lm Lc)
    refine ret_cell2 (U := n0) (T := 29) Tryz.results59 rfl rfl rfl (val_set HR5.out (.int .i64 12) (.int .i64 0) (.slice none 0 0) (.int .i64 0) (.int .i64 0) (.slice Ia Im Ic) (.slice La Lm Lc)) Tryz.underlying29 ival_size ?_
    have i5 := (HP2.out.inv HZ.out).fresh ((Keep.refl _ wc).drew)
    have hth := K.thru h HFE.out.kp i5 HP5.out hk9 (fun i e => by
     subst e
     obtain ⟨q1, q2, q3⟩ := HFE.out.still (n0, zVal, 29) (by simp)
     exact ⟨q1, lt_of_heap q2, q3⟩)
    have e1 : tot = (0, K.pr.seS (K.pr.fS s1), .mk 12 0 [] 0 0 ids vs) := by
     rw [← HF.out]
     exact gflds_stop HZ.out HTT.out.symm
    rw [e1]
    refine ⟨12, 0, none, 0, 0, 0, 0, Ia, Im, Ic, La, Lm, Lc, _, rfl, hth.1, fun hz => ?_⟩
    have hv := HF5.out.vb.val (by have := HNUM.out; have := HRM.out; have := K.ok.one1; omega)
    exact (hv.keep hk9 (fun i hi e => hi.2.1 (n0, zVal, 29) (by simp) e.symm)).weak (fun i _ hi => ⟨hi.1, fun m => hi.2.2 (hth.2 i m)⟩)
   ·have ok := K.ok
    have hne : ¬ K.pr.fT s1 = 0 := fun hh => ht0 (HTT.out.trans hh)
    have htb := K.fT_bd s1
    rw [← HTT.out] at htb
    have HNE := hdd hne
    clear hne hR1 hR2 hR3
    go_wp2_with fail
    refine (ih (deep - 1) t _ wc HD.out (by omega) (by omega) htb.1 htb.2 (HP2.out.inv HZ.out) (by have a1 := ok.df s1 HZ.out; have a2 := ok.f s1 HZ.out; have a3 := HNUM.out; have a4 := ok.one1; have a5 := HRM.out; show _ + _ < _; omega)).mono ?_
    rintro e w3 ⟨T', N', Sa, Sm, Sc, KT', E', Ja, Jm, Jc, Ma, Mm, Mc, ev, rfl, hp3, hval⟩
    have HF3 := hdd (HF2.out.call hp3.keep)
    have HP3 := hdd hp3
    have HVAL := hdd hval
    clear hp3 hval htb
    have HMN := hdd HF2.out.mine
    go_wp2_with fail
    obtain ⟨w6, hw6⟩ : ∃ w6, w3.alloc (.cells (valC T' N' (.slice Sa Sm Sc) KT' E' (.slice Ja Jm Jc) (.slice Ma Mm Mc)) 29 (0, 0)) = w6 := ⟨_, rfl⟩
    have hk6 : Keep (fun _ => False) w3 w6 := by rw [← hw6]; exact (Keep.refl _ w3).alloc _
    have hX6 : w6.heap[w3.heap.size]? = some (.cells (valC T' N' (.slice Sa Sm Sc) KT' E' (.slice Ja Jm Jc) (.slice Ma Mm Mc)) 29 (0, 0)) := by rw [← hw6]; exact heap_alloc_new w3 _
    rw [hw6]
    clear hw6
    obtain ⟨X, hX⟩ : ∃ X, w3.heap.size = X := ⟨_, rfl⟩
    rw [hX] at hX6 ⊢
    have hidb := K.fI_bd s1
    rw [← HID.out] at hidb
    have hiw : IntKind.i64.wrap id = id := IntWalk.i64_in _ (by omega)
    have HV6 := hdd (HF3.out.vb.keep hk6 (fun _ _ x => x))
    have HO1 : Hid (∀ i, (Value.slice Ia Im Ic).ownBlock = some i → i < w6.heap.size) := hdd (fun i e => (HV6.out.ids.lt i e).2)
    have HB6 : Hid (w.heap.size ≤ w6.heap.size) := hdd (Nat.le_trans HF3.out.kp.size hk6.size)
    have HC : Hid (∀ W, Keep (fun i => (Value.slice Ia Im Ic).ownBlock = some i ∨ (Value.slice La Lm Lc).ownBlock = some i) w6 W → W.heap[n0 + 1]? = some (.cells (valC 12 0 nilB 0 0 (.slice Ia Im Ic) (.slice La Lm Lc)) 29 (0, 0)) ∧ W.heap[X]? = some (.cells (valC T' N' (.slice Sa Sm Sc) KT' E' (.slice Ja Jm Jc) (.slice Ma Mm Mc)) 29 (0, 0)) ∧ True) := hdd (fun W k =>
     ⟨(k.block _ (lt_of_heap HV6.out.blk) (fun e => e.elim HV6.out.neI HV6.out.neL)).trans HV6.out.blk,
      (k.block _ (lt_of_heap hX6) (fun e => e.elim (fun e => by have := (HF3.out.vb.ids.lt _ e).2; omega) (fun e => by have := (HF3.out.vb.parts.lt _ e).2; omega))).trans hX6, trivial⟩)
    have hmxv : vs.length + 1 ≤ 1099511627778 := by have := HNUM.out; have := HRM.out; have := K.ok.one1; omega
    have hmxi : ids.length + 1 ≤ 1099511627778 := by have := HNUM.out; omega
    have hmx1 : ids.length + 1 ≤ maxLen := by simp only [maxLen]; omega
    have hmx2 : vs.length + 1 ≤ maxLen := by simp only [maxLen]; omega
    obtain ⟨vi, hvi, hvz, hvs, hvb⟩ := ival_info
    obtain ⟨ii, hii, hiz, his, hib⟩ := int_info
    have hone1 : ∀ u ∈ [Value.int .i64 id], u.oneCell' = true := by
     intro u hu
     simp only [List.mem_cons, List.not_mem_nil, or_false] at hu
     subst hu; rfl
    have hone2 : ∀ u ∈ (valC T' N' (.slice Sa Sm Sc) KT' E' (.slice Ja Jm Jc) (.slice Ma Mm Mc)).toList, u.oneCell' = true := by
     intro u hu
     simp only [List.mem_cons, List.not_mem_nil, or_false] at hu
     rcases hu with rfl | rfl | rfl | rfl | rfl | rfl | rfl <;> rfl
    have HK6 := hdd hk6
    have HX := hdd hX
    clear hk6 hX6 hidb hX
    go_cut [] from 61 to 73 (fun wx => ∃ v5 v6 wy, wx = (wy.setCell ⟨n0 + 1, 5, none⟩ v5).setCell ⟨n0 + 1, 6, none⟩ v6 ∧ Grw 29 w.heap.size (.slice Ia Im Ic) (.slice La Lm Lc) w6 v5 v6 (ids.length + 1) (ids.map (Value.int .i64) ++ [.int .i64 id]) (vs.length + 1) (rows.flatten ++ (valC T' N' (.slice Sa Sm Sc) KT' E' (.slice Ja Jm Jc) (.slice Ma Mm Mc)).toList) wy)
    case first =>
     refine wp_region_quiet (fun W => W.heap[n0 + 1]? = some (.cells (valC 12 0 nilB 0 0 (.slice Ia Im Ic) (.slice La Lm Lc)) 29 (0, 0)) ∧ W.heap[X]? = some (.cells (valC T' N' (.slice Sa Sm Sc) KT' E' (.slice Ja Jm Jc) (.slice Ma Mm Mc)) 29 (0, 0)) ∧ True) [12, 14] (by kernel_rfl) ?_
     have G0 := hdd ((Grw.start HV6.out).keep (Keep.refl (fun _ => False) w6).drew)
     generalize w6.drew = wd at *
     refine wpAnyP_plain 0 (some 61) (.pointer (some ⟨n0 + 1, 5, none⟩)) rfl (by kernel_rfl) (by kernel_rfl) (by kernel_rfl) (by kernel_rfl) (fun _ _ _ h => h) (fun W => ?_) (fun _ => HC.out _ G0.out.kp) ?_
     ·go_simp
     try simp only [Act.put, List.setIfInBounds_toArray, List.set_cons_zero, List.set_cons_succ]
     refine wpAnyP_load 1 [12, 14] (some 62) (.slice Ia Im Ic) rfl (by kernel_rfl) (by kernel_rfl) (by kernel_rfl) (by kernel_rfl) (fun _ _ _ h => h) (fun W hW => ?_) (HC.out _ G0.out.kp) ?_
     ·obtain ⟨p0, p1, p2, p3, p4, p5, p6⟩ := got_cells hW.1; go_simp
     try simp only [Act.put, List.setIfInBounds_toArray, List.set_cons_zero, List.set_cons_succ]
     refine wpAnyP_plain 2 (some 63) (.int .i16 id) rfl (by kernel_rfl) (by kernel_rfl) (by kernel_rfl) (by kernel_rfl) (fun _ _ _ h => h) (fun W => ?_) (fun _ => HC.out _ G0.out.kp) ?_
     ·go_simp
     try simp only [Act.put, List.setIfInBounds_toArray, List.set_cons_zero, List.set_cons_succ]
     refine wpAnyP_plain 3 (some 64) (.int .i64 id) rfl (by kernel_rfl) (by kernel_rfl) (by kernel_rfl) (by kernel_rfl) (fun _ _ _ h => h) (fun W => ?_) (fun _ => HC.out _ G0.out.kp) ?_
     ·go_simp
     try simp only [Act.put, List.setIfInBounds_toArray, List.set_cons_zero, List.set_cons_succ]
     refine wpAnyP_plain 6 (some 67) (.pointer (some ⟨n0 + 1, 6, none⟩)) rfl (by kernel_rfl) (by kernel_rfl) (by kernel_rfl) (by kernel_rfl) (fun _ _ _ h => h) (fun W => ?_) (fun _ => HC.out _ G0.out.kp) ?_
     ·go_simp
     try simp only [Act.put, List.setIfInBounds_toArray, List.set_cons_zero, List.set_cons_succ]
     refine wpAnyP_load 7 [12, 14] (some 68) (.slice La Lm Lc) rfl (by kernel_rfl) (by kernel_rfl) (by kernel_rfl) (by kernel_rfl) (fun _ _ _ h => h) (fun W hW => ?_) (HC.out _ G0.out.kp) ?_
     ·obtain ⟨p0, p1, p2, p3, p4, p5, p6⟩ := got_cells hW.1; go_simp
     try simp only [Act.put, List.setIfInBounds_toArray, List.set_cons_zero, List.set_cons_succ]
     refine wpAnyP_load 8 [9, 10, 12, 14] (some 69) (.agg (valC T' N' (.slice Sa Sm Sc) KT' E' (.slice Ja Jm Jc) (.slice Ma Mm Mc))) rfl (by kernel_rfl) (by kernel_rfl) (by kernel_rfl) (by kernel_rfl) (fun _ _ _ h => h) (fun W hW => ?_) (HC.out _ G0.out.kp) ?_
     ·obtain ⟨p0, p1, p2, p3, p4, p5, p6⟩ := got_cells hW.2.1; go_simp
     try simp only [Act.put, List.setIfInBounds_toArray, List.set_cons_zero, List.set_cons_succ]
     refine wpAnyP_ready [4, 9] (by kernel_rfl) (by simp) ?_
     refine AllReadyP.cons (i := 4) (o := ⟨some 65, _, _, _, _, none⟩) rfl (fun K hK => ?_) ?_
     ·go_simp
      have hn1 := new_cells wd #[.int .i64 id] 3
      have hz1 : wd.heap.size < (wd.alloc (.cells #[.int .i64 id] 3 (0, 0))).heap.size := by simp
      have G1 := hdd (G0.out.alloc (.cells #[.int .i64 id] 3 (0, 0)))
      refine hK.out _ _ (fun _ => HC.out _ G1.out.kp) ?_
      clear hK K
      try simp only [Act.put, List.setIfInBounds_toArray, List.set_cons_zero, List.set_cons_succ]
      generalize wd.alloc (.cells #[.int .i64 id] 3 (0, 0)) = wa at *
      refine wpAnyP_ready [5, 9] (by kernel_rfl) (by simp) ?_
      refine AllReadyP.cons (i := 5) (o := ⟨some 66, _, _, _, _, none⟩) rfl (fun K hK => ?_) ?_
      ·have hb1 : w.heap.size ≤ wa.heap.size := by have := G1.out.kp.size; have := HB6.out; omega
       refine step_append_own_at rfl (.tmp 62) (.tmp 65) 26 rfl w.heap.size 3 ii (.int .i64 0) 1 8 Tryz.underlying26 hii hiz his hib rfl (by decide) (.slice Ia Im Ic) ids.length (ids.map (Value.int .i64)) rfl G1.out.own1 ⟨wd.heap.size, 0, none⟩ 1 1 [.int .i64 id] rfl rfl hn1 hone1 hmx1 (by omega) hb1 ?_
       intro v5 wb ho5 hg5 ha5
       have G2 := hdd (G1.out.app1 ho5 hg5 ha5)
       refine hK.out _ _ (fun _ => HC.out _ G2.out.kp) ?_
       clear hK K ho5 ha5
       try simp only [Act.put, List.setIfInBounds_toArray, List.set_cons_zero, List.set_cons_succ]
       refine wpAnyP_plain 11 (some 72) (.pointer (some ⟨n0 + 1, 5, none⟩)) rfl (by kernel_rfl) (by kernel_rfl) (by kernel_rfl) (by kernel_rfl) (fun _ _ _ h => h) (fun W => ?_) (fun _ => HC.out _ G2.out.kp) ?_
       ·go_simp
       try simp only [Act.put, List.setIfInBounds_toArray, List.set_cons_zero, List.set_cons_succ]
       refine wpAnyP_ready [9] (by kernel_rfl) (by simp) ?_
       refine AllReadyP.cons (i := 9) (o := ⟨some 70, _, _, _, _, none⟩) rfl (fun K hK => ?_) ?_
       ·go_simp
        have hn2 := new_cells wb (valC T' N' (.slice Sa Sm Sc) KT' E' (.slice Ja Jm Jc) (.slice Ma Mm Mc)) 29
        have hz2 : wb.heap.size < (wb.alloc (.cells (valC T' N' (.slice Sa Sm Sc) KT' E' (.slice Ja Jm Jc) (.slice Ma Mm Mc)) 29 (0, 0))).heap.size := by simp
        have G3 := hdd (G2.out.alloc (.cells (valC T' N' (.slice Sa Sm Sc) KT' E' (.slice Ja Jm Jc) (.slice Ma Mm Mc)) 29 (0, 0)))
        refine hK.out _ _ (fun _ => HC.out _ G3.out.kp) ?_
        clear hK K
        try simp only [Act.put, List.setIfInBounds_toArray, List.set_cons_zero, List.set_cons_succ]
        generalize wb.alloc (.cells (valC T' N' (.slice Sa Sm Sc) KT' E' (.slice Ja Jm Jc) (.slice Ma Mm Mc)) 29 (0, 0)) = we at *
        refine wpAnyP_ready [10] (by kernel_rfl) (by simp) ?_
        refine AllReadyP.cons (i := 10) (o := ⟨some 71, _, _, _, _, none⟩) rfl (fun K hK => ?_) ?_
        ·have hb2 : w.heap.size ≤ we.heap.size := by have := G3.out.kp.size; have := HB6.out; omega
         refine step_append_own_at rfl (.tmp 68) (.tmp 70) 27 rfl w.heap.size 29 vi (.agg zVal) 7 104 Tryz.underlying27 hvi hvz hvs hvb rfl (by decide) (.slice La Lm Lc) vs.length rows.flatten rfl G3.out.own2 ⟨wb.heap.size, 0, none⟩ 1 1 ((valC T' N' (.slice Sa Sm Sc) KT' E' (.slice Ja Jm Jc) (.slice Ma Mm Mc))).toList rfl rfl hn2 hone2 hmx2 (by omega) hb2 ?_
         intro v6 wf ho6 hg6 ha6
         have G4 := hdd (G3.out.app2 ho6 hg6 ha6)
         refine hK.out _ _ (fun _ => HC.out _ G4.out.kp) ?_
         clear hK K ho6 hg6 ha6
         try simp only [Act.put, List.setIfInBounds_toArray, List.set_cons_zero, List.set_cons_succ]
         obtain ⟨e5a, e5m, e5c, rfl⟩ := own_shape G4.out.own1
         obtain ⟨e6a, e6m, e6c, rfl⟩ := own_shape G4.out.own2
         obtain ⟨p0, p1, p2, p3, p4, p5, p6⟩ := got_cells (HC.out _ G4.out.kp).1
         obtain ⟨q0, q1, q2, q3, q4, q5, q6⟩ := got_free (HC.out _ G4.out.kp).1
         refine wpAnyP_ready [12] (by kernel_rfl) (by simp) ?_
         refine AllReadyP.cons (i := 12) (o := ⟨none, _, _, _, _, none⟩) rfl (fun K hK => ?_) ?_
         ·go_simp
          refine hK.out _ _ (fun q => quiet_no q (by kernel_rfl)) ?_
          clear hK K
          try simp only [Act.put, List.setIfInBounds_toArray, List.set_cons_zero, List.set_cons_succ]
          refine wpAnyP_plain 13 (some 73) (.pointer (some ⟨n0 + 1, 6, none⟩)) rfl (by kernel_rfl) (by kernel_rfl) (by kernel_rfl) (by kernel_rfl) (fun _ _ _ h => h) (fun W => ?_) (fun q => quiet_no q (by kernel_rfl)) ?_
          ·go_simp
          try simp only [Act.put, List.setIfInBounds_toArray, List.set_cons_zero, List.set_cons_succ]
          refine wpAnyP_ready [14] (by kernel_rfl) (by simp) ?_
          refine AllReadyP.cons (i := 14) (o := ⟨none, _, _, _, _, none⟩) rfl (fun K hK => ?_) ?_
          ·go_simp
           refine hK.out _ _ (fun q => quiet_no q (by kernel_rfl)) ?_
           clear hK K
           refine wpAnyP_done (by kernel_rfl) ?_ _
           go_wp2_with fail
           go_simp
           go_meet
           exact ⟨_, _, wf, rfl, G4.out⟩
          ·exact AllReadyP.nil
         ·exact AllReadyP.nil
        ·exact AllReadyP.nil
       ·exact AllReadyP.nil
      ·refine AllReadyP.cons (i := 9) (o := ⟨some 70, _, _, _, _, none⟩) rfl (fun K hK => ?_) ?_
       ·go_simp
        have hn2 := new_cells wa (valC T' N' (.slice Sa Sm Sc) KT' E' (.slice Ja Jm Jc) (.slice Ma Mm Mc)) 29
        have hz2 : wa.heap.size < (wa.alloc (.cells (valC T' N' (.slice Sa Sm Sc) KT' E' (.slice Ja Jm Jc) (.slice Ma Mm Mc)) 29 (0, 0))).heap.size := by simp
        have G2 := hdd (G1.out.alloc (.cells (valC T' N' (.slice Sa Sm Sc) KT' E' (.slice Ja Jm Jc) (.slice Ma Mm Mc)) 29 (0, 0)))
        have hn1 := news_alloc hn1 hz1 (.cells (valC T' N' (.slice Sa Sm Sc) KT' E' (.slice Ja Jm Jc) (.slice Ma Mm Mc)) 29 (0, 0))
        refine hK.out _ _ (fun _ => HC.out _ G2.out.kp) ?_
        clear hK K
        try simp only [Act.put, List.setIfInBounds_toArray, List.set_cons_zero, List.set_cons_succ]
        generalize wa.alloc (.cells (valC T' N' (.slice Sa Sm Sc) KT' E' (.slice Ja Jm Jc) (.slice Ma Mm Mc)) 29 (0, 0)) = wb at *
        refine wpAnyP_ready [5] (by kernel_rfl) (by simp) ?_
        refine AllReadyP.cons (i := 5) (o := ⟨some 66, _, _, _, _, none⟩) rfl (fun K hK => ?_) ?_
        ·have hb1 : w.heap.size ≤ wb.heap.size := by have := G2.out.kp.size; have := HB6.out; omega
         refine step_append_own_at rfl (.tmp 62) (.tmp 65) 26 rfl w.heap.size 3 ii (.int .i64 0) 1 8 Tryz.underlying26 hii hiz his hib rfl (by decide) (.slice Ia Im Ic) ids.length (ids.map (Value.int .i64)) rfl G2.out.own1 ⟨wd.heap.size, 0, none⟩ 1 1 [.int .i64 id] rfl rfl hn1 hone1 hmx1 (by omega) hb1 ?_
         intro v5 we ho5 hg5 ha5
         have G3 := hdd (G2.out.app1 ho5 hg5 ha5)
         have hn2 := news_kept hn2 hz2 ((Keep.refl (fun i => (Value.slice Ia Im Ic).ownBlock = some i) wb).grown hg5 (fun _ e _ => e)) (fun e => by have := HO1.out _ e; have := G0.out.kp.size; have := G1.out.kp.size; omega)
         refine hK.out _ _ (fun _ => HC.out _ G3.out.kp) ?_
         clear hK K ho5 ha5
         try simp only [Act.put, List.setIfInBounds_toArray, List.set_cons_zero, List.set_cons_succ]
         refine wpAnyP_plain 11 (some 72) (.pointer (some ⟨n0 + 1, 5, none⟩)) rfl (by kernel_rfl) (by kernel_rfl) (by kernel_rfl) (by kernel_rfl) (fun _ _ _ h => h) (fun W => ?_) (fun _ => HC.out _ G3.out.kp) ?_
         ·go_simp
         try simp only [Act.put, List.setIfInBounds_toArray, List.set_cons_zero, List.set_cons_succ]
         refine wpAnyP_ready [10] (by kernel_rfl) (by simp) ?_
         refine AllReadyP.cons (i := 10) (o := ⟨some 71, _, _, _, _, none⟩) rfl (fun K hK => ?_) ?_
         ·have hb2 : w.heap.size ≤ we.heap.size := by have := G3.out.kp.size; have := HB6.out; omega
          refine step_append_own_at rfl (.tmp 68) (.tmp 70) 27 rfl w.heap.size 29 vi (.agg zVal) 7 104 Tryz.underlying27 hvi hvz hvs hvb rfl (by decide) (.slice La Lm Lc) vs.length rows.flatten rfl G3.out.own2 ⟨wa.heap.size, 0, none⟩ 1 1 ((valC T' N' (.slice Sa Sm Sc) KT' E' (.slice Ja Jm Jc) (.slice Ma Mm Mc))).toList rfl rfl hn2 hone2 hmx2 (by omega) hb2 ?_
          intro v6 wf ho6 hg6 ha6
          have G4 := hdd (G3.out.app2 ho6 hg6 ha6)
          refine hK.out _ _ (fun _ => HC.out _ G4.out.kp) ?_
          clear hK K ho6 hg6 ha6
          try simp only [Act.put, List.setIfInBounds_toArray, List.set_cons_zero, List.set_cons_succ]
          obtain ⟨e5a, e5m, e5c, rfl⟩ := own_shape G4.out.own1
          obtain ⟨e6a, e6m, e6c, rfl⟩ := own_shape G4.out.own2
          obtain ⟨p0, p1, p2, p3, p4, p5, p6⟩ := got_cells (HC.out _ G4.out.kp).1
          obtain ⟨q0, q1, q2, q3, q4, q5, q6⟩ := got_free (HC.out _ G4.out.kp).1
          refine wpAnyP_ready [12] (by kernel_rfl) (by simp) ?_
          refine AllReadyP.cons (i := 12) (o := ⟨none, _, _, _, _, none⟩) rfl (fun K hK => ?_) ?_
          ·go_simp
           refine hK.out _ _ (fun q => quiet_no q (by kernel_rfl)) ?_
           clear hK K
           try simp only [Act.put, List.setIfInBounds_toArray, List.set_cons_zero, List.set_cons_succ]
           refine wpAnyP_plain 13 (some 73) (.pointer (some ⟨n0 + 1, 6, none⟩)) rfl (by kernel_rfl) (by kernel_rfl) (by kernel_rfl) (by kernel_rfl) (fun _ _ _ h => h) (fun W => ?_) (fun q => quiet_no q (by kernel_rfl)) ?_
           ·go_simp
           try simp only [Act.put, List.setIfInBounds_toArray, List.set_cons_zero, List.set_cons_succ]
           refine wpAnyP_ready [14] (by kernel_rfl) (by simp) ?_
           refine AllReadyP.cons (i := 14) (o := ⟨none, _, _, _, _, none⟩) rfl (fun K hK => ?_) ?_
           ·go_simp
            refine hK.out _ _ (fun q => quiet_no q (by kernel_rfl)) ?_
            clear hK K
            refine wpAnyP_done (by kernel_rfl) ?_ _
            go_wp2_with fail
            go_simp
            go_meet
            exact ⟨_, _, wf, rfl, G4.out⟩
           ·exact AllReadyP.nil
          ·exact AllReadyP.nil
         ·exact AllReadyP.nil
        ·exact AllReadyP.nil
       ·exact AllReadyP.nil
     ·refine AllReadyP.cons (i := 9) (o := ⟨some 70, _, _, _, _, none⟩) rfl (fun K hK => ?_) ?_
      ·go_simp
       have hn2 := new_cells wd (valC T' N' (.slice Sa Sm Sc) KT' E' (.slice Ja Jm Jc) (.slice Ma Mm Mc)) 29
       have hz2 : wd.heap.size < (wd.alloc (.cells (valC T' N' (.slice Sa Sm Sc) KT' E' (.slice Ja Jm Jc) (.slice Ma Mm Mc)) 29 (0, 0))).heap.size := by simp
       have G1 := hdd (G0.out.alloc (.cells (valC T' N' (.slice Sa Sm Sc) KT' E' (.slice Ja Jm Jc) (.slice Ma Mm Mc)) 29 (0, 0)))
       refine hK.out _ _ (fun _ => HC.out _ G1.out.kp) ?_
       clear hK K
       try simp only [Act.put, List.setIfInBounds_toArray, List.set_cons_zero, List.set_cons_succ]
       generalize wd.alloc (.cells (valC T' N' (.slice Sa Sm Sc) KT' E' (.slice Ja Jm Jc) (.slice Ma Mm Mc)) 29 (0, 0)) = wa at *
       refine wpAnyP_ready [4] (by kernel_rfl) (by simp) ?_
       refine AllReadyP.cons (i := 4) (o := ⟨some 65, _, _, _, _, none⟩) rfl (fun K hK => ?_) ?_
       ·have hn2' := news_alloc hn2 hz2 (.cells #[.int .i64 id] 3 (0, 0))
        go_simp
        have hn1 := new_cells wa #[.int .i64 id] 3
        have hz1 : wa.heap.size < (wa.alloc (.cells #[.int .i64 id] 3 (0, 0))).heap.size := by simp
        have G2 := hdd (G1.out.alloc (.cells #[.int .i64 id] 3 (0, 0)))
        refine hK.out _ _ (fun _ => HC.out _ G2.out.kp) ?_
        clear hK K
        try simp only [Act.put, List.setIfInBounds_toArray, List.set_cons_zero, List.set_cons_succ]
        generalize wa.alloc (.cells #[.int .i64 id] 3 (0, 0)) = wb at *
        have hz2 := Nat.lt_trans hz2 hz1
        have hn2 := hn2'
        refine wpAnyP_ready [5] (by kernel_rfl) (by simp) ?_
        refine AllReadyP.cons (i := 5) (o := ⟨some 66, _, _, _, _, none⟩) rfl (fun K hK => ?_) ?_
        ·have hb1 : w.heap.size ≤ wb.heap.size := by have := G2.out.kp.size; have := HB6.out; omega
         refine step_append_own_at rfl (.tmp 62) (.tmp 65) 26 rfl w.heap.size 3 ii (.int .i64 0) 1 8 Tryz.underlying26 hii hiz his hib rfl (by decide) (.slice Ia Im Ic) ids.length (ids.map (Value.int .i64)) rfl G2.out.own1 ⟨wa.heap.size, 0, none⟩ 1 1 [.int .i64 id] rfl rfl hn1 hone1 hmx1 (by omega) hb1 ?_
         intro v5 we ho5 hg5 ha5
         have G3 := hdd (G2.out.app1 ho5 hg5 ha5)
         have hn2 := news_kept hn2 hz2 ((Keep.refl (fun i => (Value.slice Ia Im Ic).ownBlock = some i) wb).grown hg5 (fun _ e _ => e)) (fun e => by have := HO1.out _ e; have := G0.out.kp.size; have := G1.out.kp.size; omega)
         refine hK.out _ _ (fun _ => HC.out _ G3.out.kp) ?_
         clear hK K ho5 ha5
         try simp only [Act.put, List.setIfInBounds_toArray, List.set_cons_zero, List.set_cons_succ]
         refine wpAnyP_plain 11 (some 72) (.pointer (some ⟨n0 + 1, 5, none⟩)) rfl (by kernel_rfl) (by kernel_rfl) (by kernel_rfl) (by kernel_rfl) (fun _ _ _ h => h) (fun W => ?_) (fun _ => HC.out _ G3.out.kp) ?_
         ·go_simp
         try simp only [Act.put, List.setIfInBounds_toArray, List.set_cons_zero, List.set_cons_succ]
         refine wpAnyP_ready [10] (by kernel_rfl) (by simp) ?_
         refine AllReadyP.cons (i := 10) (o := ⟨some 71, _, _, _, _, none⟩) rfl (fun K hK => ?_) ?_
         ·have hb2 : w.heap.size ≤ we.heap.size := by have := G3.out.kp.size; have := HB6.out; omega
          refine step_append_own_at rfl (.tmp 68) (.tmp 70) 27 rfl w.heap.size 29 vi (.agg zVal) 7 104 Tryz.underlying27 hvi hvz hvs hvb rfl (by decide) (.slice La Lm Lc) vs.length rows.flatten rfl G3.out.own2 ⟨wd.heap.size, 0, none⟩ 1 1 ((valC T' N' (.slice Sa Sm Sc) KT' E' (.slice Ja Jm Jc) (.slice Ma Mm Mc))).toList rfl rfl hn2 hone2 hmx2 (by omega) hb2 ?_
          intro v6 wf ho6 hg6 ha6
          have G4 := hdd (G3.out.app2 ho6 hg6 ha6)
          refine hK.out _ _ (fun _ => HC.out _ G4.out.kp) ?_
          clear hK K ho6 hg6 ha6
          try simp only [Act.put, List.setIfInBounds_toArray, List.set_cons_zero, List.set_cons_succ]
          obtain ⟨e5a, e5m, e5c, rfl⟩ := own_shape G4.out.own1
          obtain ⟨e6a, e6m, e6c, rfl⟩ := own_shape G4.out.own2
          obtain ⟨p0, p1, p2, p3, p4, p5, p6⟩ := got_cells (HC.out _ G4.out.kp).1
          obtain ⟨q0, q1, q2, q3, q4, q5, q6⟩ := got_free (HC.out _ G4.out.kp).1
          refine wpAnyP_ready [12] (by kernel_rfl) (by simp) ?_
          refine AllReadyP.cons (i := 12) (o := ⟨none, _, _, _, _, none⟩) rfl (fun K hK => ?_) ?_
          ·go_simp
           refine hK.out _ _ (fun q => quiet_no q (by kernel_rfl)) ?_
           clear hK K
           try simp only [Act.put, List.setIfInBounds_toArray, List.set_cons_zero, List.set_cons_succ]
           refine wpAnyP_plain 13 (some 73) (.pointer (some ⟨n0 + 1, 6, none⟩)) rfl (by kernel_rfl) (by kernel_rfl) (by kernel_rfl) (by kernel_rfl) (fun _ _ _ h => h) (fun W => ?_) (fun q => quiet_no q (by kernel_rfl)) ?_
           ·go_simp
           try simp only [Act.put, List.setIfInBounds_toArray, List.set_cons_zero, List.set_cons_succ]
           refine wpAnyP_ready [14] (by kernel_rfl) (by simp) ?_
           refine AllReadyP.cons (i := 14) (o := ⟨none, _, _, _, _, none⟩) rfl (fun K hK => ?_) ?_
           ·go_simp
            refine hK.out _ _ (fun q => quiet_no q (by kernel_rfl)) ?_
            clear hK K
            refine wpAnyP_done (by kernel_rfl) ?_ _
            go_wp2_with fail
            go_simp
            go_meet
            exact ⟨_, _, wf, rfl, G4.out⟩
           ·exact AllReadyP.nil
          ·exact AllReadyP.nil
         ·exact AllReadyP.nil
        ·exact AllReadyP.nil
       ·exact AllReadyP.nil
      ·exact AllReadyP.nil
    case rest =>
    obtain ⟨v5, v6, wy, rfl, hg⟩ := hcut
    obtain ⟨e5a, e5m, e5c, rfl⟩ := own_shape hg.own1
    obtain ⟨e6a, e6m, e6c, rfl⟩ := own_shape hg.own2
    clear hone1 hone2 hmx1 hmx2 hvi hvz hvs hvb hii hiz his hib
    have hUy := (HC.out _ hg.kp).1
    have hUz := heap_set_same (i := 6) (heap_set_same (i := 5) hUy (.slice e5a e5m e5c)) (.slice e6a e6m e6c)
    obtain ⟨hR1, hR2, hR3⟩ := HF3.out.still (n0, zVal, 29) (by simp)
    have hR6 := (HK6.out.block n0 (lt_of_heap hR2) (fun x => x)).trans hR2
    have hn6 := lt_of_heap hR6
    have hRy := (hg.kp.block n0 hn6 (fun e => e.elim (fun e => (HMN.out n0 (.inr (.inl e))).2.2.1 (n0, zVal, 29) (by simp) rfl) (fun e => (HMN.out n0 (.inr (.inr e))).2.2.1 (n0, zVal, 29) (by simp) rfl))).trans hR6
    have hRz := (heap_set_other (p := ⟨n0 + 1, 6, none⟩) (b := n0) (.slice e6a e6m e6c) (by simp)).trans ((heap_set_other (p := ⟨n0 + 1, 5, none⟩) (b := n0) (.slice e5a e5m e5c) (by simp)).trans hRy)
    have hkz : Keep (fun i => n0 + 1 = i ∨ (Value.slice Ia Im Ic).ownBlock = some i ∨ (Value.slice La Lm Lc).ownBlock = some i) w3 ((wy.setCell ⟨n0 + 1, 5, none⟩ (.slice e5a e5m e5c)).setCell ⟨n0 + 1, 6, none⟩ (.slice e6a e6m e6c)) :=
     (((HK6.out.weak (fun _ _ x => x.elim)).then (hg.kp.weak (fun _ _ e => .inr e))).set (n0 + 1) 5 (fun _ => .inl rfl) _).set (n0 + 1) 6 (fun _ => .inl rfl) _
    by_cases hz3 : (gt K.pr d t (K.pr.fS s1)).1 = 0
    ·have hev : ev = .nilIface := by have := HP3.out.err; rw [hz3] at this; exact this.isNil
     subst hev
     have i3 := HP3.out.inv hz3
     have hM6 := (K.turn h HF3.out.kp i3 HK6.out (fun _ x => x.elim)).2.2
     obtain ⟨F8, I8⟩ := Rp.Frame.two (x := (gt K.pr d t (K.pr.fS s1)).2.2) (id := id) h (Rp.Frame.fresh h HF3.out i3 HK6.out) (i3.fresh HK6.out)
      (((HVAL.out hz3).keep HK6.out (fun _ _ => (fun y => y))).weak (fun i _ hi => ⟨fun j hj e => by have := (HMN.out j hj).2.1; have := hi.1; omega, by have := hi.1; have := HF2.out.kp.size; omega, fun p hp e => by have := lt_of_heap (HF2.out.still p hp).2.1; have := hi.1; omega, fun m => hi.2 (hM6 i m)⟩)) hg
     have a1 := gt_len K.ok d _ _ hz3
     have a2 := gt_dep K.ok d _ _ hz3
     have HA := hdd (And.intro a1 a2)
     have HZ3 := hdd hz3
     clear hz3 hM6 a1 a2 hg hUy hRy hR6 hn6 hR1 hR2 hR3 hkz
     generalize (wy.setCell ⟨n0 + 1, 5, none⟩ (.slice e5a e5m e5c)).setCell ⟨n0 + 1, 6, none⟩ (.slice e6a e6m e6c) = wz at *
     have HF8 := hdd F8
     have HI8 := hdd I8
     clear F8 I8
     go_wp2_with fail
     go_cut [14] from 78 to 83 (fun s14 wx => s14 = .nilIface ∧ Rp.Post K wz.drew wx 0 .nilIface (K.pr.feS (gt K.pr d t (K.pr.fS s1)).2.1))
     case first =>
      go_region_with (first | (go_at_call 28; refine (ctx_at _).mono ?_; rintro e w' ⟨rfl, rfl⟩) | (refine (K.readFieldEnd (w := wz.drew) (HI8.out.fresh ((Keep.refl _ wz).drew))).mono ?_; rintro e w5 ⟨rfl, hp5⟩; have HP5 := hdd hp5; clear hp5))
      all_goals
       go_wp2_with fail
       go_simp
       go_meet
       exact ⟨rfl, HP5.out⟩
     case rest =>
     obtain ⟨rfl, hp5⟩ := hcut
     have HF9 := hdd ((Rp.Frame.fresh h HF8.out HI8.out ((Keep.refl _ wz).drew)).call hp5.keep)
     have HI9 := hdd (hp5.inv rfl)
     clear hp5
     go_wp2_with fail
     go_roundg k
     case measure => exact Nat.lt_succ_self _
     case rel =>
      have ok := K.ok
      have a1 := HA.out
      have a2 := HNUM.out
      have a3 := ok.fe (gt K.pr d t (K.pr.fS s1)).2.1
      have a4 := ok.dfe (gt K.pr d t (K.pr.fS s1)).2.1
      have a5 := ok.f s1 HZ.out
      have a6 := ok.df s1 HZ.out
      refine ⟨_, _, _, _, _, _, HI9.out, HF9.out, by omega, ?_, by omega, by omega, by simp; omega, by simp; omega⟩
      rw [← HF.out]
      have e0 := gflds_ok (p := K.pr) (f := gt K.pr d) (n := k) (s := s1) (ids := ids) (l := vs) HZ.out HNE.out (by rw [← HTT.out]; exact HZ3.out)
      rw [← HTT.out, ← HID.out] at e0
      exact e0.symm
    ·obtain ⟨tt, x, rfl⟩ := HP3.out.err.held hz3
     have HZ3 := hdd hz3
     have HKZ := hdd hkz
     have HRZ := hdd hRz
     clear hz3 hg hUy hRy hR6 hn6 hR1 hR2 hR3 hkz
     generalize (wy.setCell ⟨n0 + 1, 5, none⟩ (.slice e5a e5m e5c)).setCell ⟨n0 + 1, 6, none⟩ (.slice e6a e6m e6c) = wz at *
     obtain ⟨x0, x1, x2, x3, x4, x5, x6⟩ := got_cells hUz
     obtain ⟨r0, r1, r2, r3, r4, r5, r6⟩ := got_cells hRz
     obtain ⟨z0, z1, z2, z3, z4, z5, z6⟩ := got_free hRz
     clear hUz hRz
     go_wp2_with fail
     have hk9 := val_keep (M := fun i => n0 + 1 = i ∨ ((Value.slice Ia Im Ic).ownBlock = some i ∨ (Value.slice La Lm Lc).ownBlock = some i) ∨ n0 = i) (HKZ.out.weak (fun i _ e => e.elim .inl (fun e => .inr (.inl e)))) (R := n0) (fun _ => .inr (.inr rfl)) (.int .i64 12) (.int .i64 0) (.slice none 0 0) (.int .i64 0) (.int .i64 0) (.slice e5a e5m e5c) (.slice e6a e6m e6c)
     refine ret_cell2 (U := n0) (T := 29) Tryz.results59 rfl rfl rfl (val_set HRZ.out (.int .i64 12) (.int .i64 0) (.slice none 0 0) (.int .i64 0) (.int .i64 0) (.slice e5a e5m e5c) (.slice e6a e6m e6c)) Tryz.underlying29 ival_size ?_
     have hth := K.thru h HF2.out.kp (HP2.out.inv HZ.out) HP3.out hk9 (fun i e => by
      rcases e with e | (e | e) | e
      ·have := HMN.out i (.inl e); exact ⟨this.1, this.2.1, this.2.2.2⟩
      ·have := HMN.out i (.inr (.inl e)); exact ⟨this.1, this.2.1, this.2.2.2⟩
      ·have := HMN.out i (.inr (.inr e)); exact ⟨this.1, this.2.1, this.2.2.2⟩
      ·subst e
       obtain ⟨q1, q2, q3⟩ := HF2.out.still (n0, zVal, 29) (by simp)
       exact ⟨q1, lt_of_heap q2, q3⟩)
     have e1 : tot = ((gt K.pr d t (K.pr.fS s1)).1, (gt K.pr d t (K.pr.fS s1)).2.1, V.zero) := by
      rw [← HF.out]
      have e0 := gflds_bad (p := K.pr) (f := gt K.pr d) (n := k) (s := s1) (ids := ids) (l := vs) HZ.out HNE.out (by rw [← HTT.out]; exact HZ3.out)
      rw [← HTT.out] at e0
      exact e0
     rw [e1]
     exact ⟨12, 0, none, 0, 0, 0, 0, e5a, e5m, e5c, e6a, e6m, e6c, _, rfl, hth.1, fun hz => absurd hz HZ3.out⟩
  ·obtain ⟨tt, x, rfl⟩ := HP2.out.err.held hz
   have HZ := hdd hz
   obtain ⟨x0, x1, x2, x3, x4, x5, x6⟩ := got_cells HF2.out.vb.blk
   obtain ⟨r0, r1, r2, r3, r4, r5, r6⟩ := got_cells hR2
   obtain ⟨z0, z1, z2, z3, z4, z5, z6⟩ := got_free hR2
   clear hz hv2 hR1 hR2 hR3
   go_wp2_with fail
   have hk9 := val_keep (M := fun i => n0 = i) (Keep.refl _ wc) (R := n0) (fun _ => rfl) (.int .i64 12) (.int .i64 0) (.slice none 0 0) (.int .i64 0) (.int .i64 0) (.slice Ia Im Ic) (.slice La Lm Lc)
   refine ret_cell2 (U := n0) (T := 29) Tryz.results59 rfl rfl rfl (val_set HR2.out (.int .i64 12) (.int .i64 0) (.slice none 0 0) (.int .i64 0) (.int .i64 0) (.slice Ia Im Ic) (.slice La Lm Lc)) Tryz.underlying29 ival_size ?_
   have hth := K.thru h HFD.out.kp (hi1.fresh ((Keep.refl _ wr).drew)) HP2.out hk9 (fun i e => by
    subst e
    obtain ⟨q1, q2, q3⟩ := HFD.out.still (n0, zVal, 29) (by simp)
    exact ⟨q1, lt_of_heap q2, q3⟩)
   have e1 : tot = (K.pr.fK s1, K.pr.fS s1, V.zero) := by
    rw [← HF.out]
    exact gflds_err HZ.out
   rw [e1]
   exact ⟨12, 0, none, 0, 0, 0, 0, Ia, Im, Ic, La, Lm, Lc, _, rfl, hth.1, fun hz => absurd hz HZ.out⟩
set_option maxRecDepth 100000 in
theorem Rp.get_zero {St : Type} (K : Rp.Ctx St) : Rp.Gets K 0 := by
 intro deep t s w hd hlo hhi h0 h1 h _
 have hle : deep ≤ 0 := by omega
 have htw : IntKind.i64.wrap t = t := IntWalk.i64_in _ (by omega)
 have hk0 : Keep (fun _ => False) w ((w.alloc (.cells (valC t 0 nilB 0 0 (.slice none 0 0) (.slice none 0 0)) 29 (0, 0))).alloc (.cells (valC t 0 nilB 0 0 (.slice none 0 0) (.slice none 0 0)) 29 (0, 0))) := ((Keep.refl _ w).alloc _).alloc _
 have hR0 : ((w.alloc (.cells (valC t 0 nilB 0 0 (.slice none 0 0) (.slice none 0 0)) 29 (0, 0))).alloc (.cells (valC t 0 nilB 0 0 (.slice none 0 0) (.slice none 0 0)) 29 (0, 0))).heap[w.heap.size]? = some (.cells (valC t 0 nilB 0 0 (.slice none 0 0) (.slice none 0 0)) 29 (0, 0)) := (Below.heap_alloc _ _ _ (by simp)).trans (heap_alloc_new w _)
 go_enter Tryz.func29, Tryz.ntmps29
 go_wp2_with fail
 generalize (w.alloc (.cells (valC t 0 nilB 0 0 (.slice none 0 0) (.slice none 0 0)) 29 (0, 0))).alloc (.cells (valC t 0 nilB 0 0 (.slice none 0 0) (.slice none 0 0)) 29 (0, 0)) = w1 at *
 refine ret_cell2 (U := w.heap.size) (T := 29) Tryz.results29 rfl rfl rfl hR0 Tryz.underlying29 ival_size ?_
 have hp : Rp.Post K w1 w1 50 (.iface 138 (.int .i64 50)) s := ⟨.inr (.inr (.inr (.inr ⟨by decide, by decide, rfl⟩))), fun e => absurd e (by decide), K.isSome (h.fresh hk0), Kpt.refl _ _⟩
 exact ⟨t, 0, none, 0, 0, 0, 0, none, 0, 0, none, 0, 0, _, rfl, Rp.through h hk0 hp (Keep.refl (fun _ => False) w1) (fun i hi => hi.elim), fun hz => absurd hz (by show ¬ (50 : Int) = 0; decide)⟩
set_option maxRecDepth 100000 in
theorem Rp.get12 {St : Type} (K : Rp.Ctx St) (d : Nat) (ih : Rp.Gets K d) (deep : Int) (s : St) (w : World) (hdq : deep.toNat = d + 1) (hd : 0 < deep) (hhi : deep ≤ 9223372036854775807) (h : K.Inv s w) (hroom : K.pr.Room s) :
  Calls Tryz.prog 29 #[K.V, .int .u8 12, .int .i64 deep] w (Rp.GetP K (d + 1) w (gflds K.pr (gt K.pr d) (K.pr.len (K.pr.sbS s) + 1) (K.pr.sbS s) [] [])) := by
 go_enter Tryz.func29, Tryz.ntmps29
 go_wp2_with fail
 obtain ⟨hk0, hR, hV, hG, hs⟩ := getW_facts w 12
 obtain ⟨n0, hn⟩ : ∃ n0, w.heap.size = n0 := ⟨_, rfl⟩
 rw [hn] at hR hV hG hs ⊢
 unfold getW at hk0 hR hV hG hs
 generalize ((w.alloc (.cells zVal 29 (0, 0))).alloc (.cells (valC 12 0 nilB 0 0 (.slice none 0 0) (.slice none 0 0)) 29 (0, 0))).alloc (.cells zGot 139 (0, 0)) = w1 at *
 have HN := hdd hn
 have HR := hdd hR
 have HS := hdd hs
 have HM := hdd (Rp.M_new h hk0)
 obtain ⟨x0, x1, x2, x3, x4, x5, x6⟩ := got_cells hV
 clear hn hR hV hG hs
 refine (Rp.getStruct K d ih deep s w1 hdq hd hhi (h.fresh hk0) hroom).mono ?_
 rintro e w3 ⟨T', N', Sa, Sm, Sc, KT', E', Ia, Im, Ic, La, Lm, Lc, ev, rfl, hp, hval⟩
 have hR3 := (hp.keep.block n0 (lt_of_heap HR.out) (fun x => by have := HM.out n0 x; have := HN.out; omega)).trans HR.out
 have HP := hdd hp
 have HVAL := hdd hval
 have HR3 := hdd hR3
 clear x0 x1 x2 x3 x4 x5 x6
 obtain ⟨r0, r1, r2, r3, r4, r5, r6⟩ := got_cells hR3
 obtain ⟨z0, z1, z2, z3, z4, z5, z6⟩ := got_free hR3
 clear hp hval hR3
 go_wp2_with fail
 have hn0 := HN.out
 have hs1 := HS.out
 have hk9 := val_keep (M := fun i => n0 ≤ i ∧ i < n0 + 3) (Keep.refl _ w3) (R := n0) (fun _ => by omega) (.int .i64 T') (.int .i64 N') (.slice Sa Sm Sc) (.int .i64 KT') (.int .i64 E') (.slice Ia Im Ic) (.slice La Lm Lc)
 refine ret_cell2 (U := n0) (T := 29) Tryz.results29 rfl rfl rfl (val_set HR3.out (.int .i64 T') (.int .i64 N') (.slice Sa Sm Sc) (.int .i64 KT') (.int .i64 E') (.slice Ia Im Ic) (.slice La Lm Lc)) Tryz.underlying29 ival_size ?_
 refine ⟨T', N', Sa, Sm, Sc, KT', E', Ia, Im, Ic, La, Lm, Lc, ev, rfl, Rp.through h hk0 HP.out hk9 (fun i hi => by omega), fun hz => ?_⟩
 exact ((HVAL.out hz).keep hk9 (fun i hi e => by have := hi.1; omega)).weak (fun i _ hi => ⟨by have := hi.1; omega, fun x => hi.2 (Rp.through_M h hk0 HP.out hk9 (fun i hi => by omega) i x)⟩)
set_option maxRecDepth 100000 in
theorem Rp.get13 {St : Type} (K : Rp.Ctx St) (d : Nat) (ih : Rp.Gets K d) (deep : Int) (s : St) (w : World) (hdq : deep.toNat = d + 1) (hd : 0 < deep) (hhi : deep ≤ 9223372036854775807) (h : K.Inv s w) (hroom : K.pr.Room s) :
  Calls Tryz.prog 29 #[K.V, .int .u8 13, .int .i64 deep] w (Rp.GetP K (d + 1) w (gt K.pr (d + 1) 13 s)) := by
 go_enter Tryz.func29, Tryz.ntmps29
 go_wp2_with fail
 obtain ⟨hk0, hR, hV, hG, hs⟩ := getW_facts w 13
 obtain ⟨n0, hn⟩ : ∃ n0, w.heap.size = n0 := ⟨_, rfl⟩
 rw [hn] at hR hV hG hs ⊢
 unfold getW at hk0 hR hV hG hs
 generalize ((w.alloc (.cells zVal 29 (0, 0))).alloc (.cells (valC 13 0 nilB 0 0 (.slice none 0 0) (.slice none 0 0)) 29 (0, 0))).alloc (.cells zGot 139 (0, 0)) = w1 at *
 have HN := hdd hn
 have HR := hdd hR
 have HS := hdd hs
 have HM := hdd (Rp.M_new h hk0)
 obtain ⟨x0, x1, x2, x3, x4, x5, x6⟩ := got_cells hV
 clear hn hR hV hG hs
 refine (Rp.getMap K d ih deep s w1 hdq hd hhi (h.fresh hk0) hroom).mono ?_
 rintro e w3 ⟨T', N', Sa, Sm, Sc, KT', E', Ia, Im, Ic, La, Lm, Lc, ev, rfl, hp, hval⟩
 have hR3 := (hp.keep.block n0 (lt_of_heap HR.out) (fun x => by have := HM.out n0 x; have := HN.out; omega)).trans HR.out
 have HP := hdd hp
 have HVAL := hdd hval
 have HR3 := hdd hR3
 clear x0 x1 x2 x3 x4 x5 x6
 obtain ⟨r0, r1, r2, r3, r4, r5, r6⟩ := got_cells hR3
 obtain ⟨z0, z1, z2, z3, z4, z5, z6⟩ := got_free hR3
 clear hp hval hR3
 go_wp2_with fail
 have hn0 := HN.out
 have hs1 := HS.out
 have hk9 := val_keep (M := fun i => n0 ≤ i ∧ i < n0 + 3) (Keep.refl _ w3) (R := n0) (fun _ => by omega) (.int .i64 T') (.int .i64 N') (.slice Sa Sm Sc) (.int .i64 KT') (.int .i64 E') (.slice Ia Im Ic) (.slice La Lm Lc)
 refine ret_cell2 (U := n0) (T := 29) Tryz.results29 rfl rfl rfl (val_set HR3.out (.int .i64 T') (.int .i64 N') (.slice Sa Sm Sc) (.int .i64 KT') (.int .i64 E') (.slice Ia Im Ic) (.slice La Lm Lc)) Tryz.underlying29 ival_size ?_
 refine ⟨T', N', Sa, Sm, Sc, KT', E', Ia, Im, Ic, La, Lm, Lc, ev, rfl, Rp.through h hk0 HP.out hk9 (fun i hi => by omega), fun hz => ?_⟩
 exact ((HVAL.out hz).keep hk9 (fun i hi e => by have := hi.1; omega)).weak (fun i _ hi => ⟨by have := hi.1; omega, fun x => hi.2 (Rp.through_M h hk0 HP.out hk9 (fun i hi => by omega) i x)⟩)
set_option maxRecDepth 100000 in
theorem Rp.get14 {St : Type} (K : Rp.Ctx St) (d : Nat) (ih : Rp.Gets K d) (deep : Int) (s : St) (w : World) (hdq : deep.toNat = d + 1) (hd : 0 < deep) (hhi : deep ≤ 9223372036854775807) (h : K.Inv s w) (hroom : K.pr.Room s) :
  Calls Tryz.prog 29 #[K.V, .int .u8 14, .int .i64 deep] w (Rp.GetP K (d + 1) w (gt K.pr (d + 1) 14 s)) := by
 go_enter Tryz.func29, Tryz.ntmps29
 go_wp2_with fail
 obtain ⟨hk0, hR, hV, hG, hs⟩ := getW_facts w 14
 obtain ⟨n0, hn⟩ : ∃ n0, w.heap.size = n0 := ⟨_, rfl⟩
 rw [hn] at hR hV hG hs ⊢
 unfold getW at hk0 hR hV hG hs
 generalize ((w.alloc (.cells zVal 29 (0, 0))).alloc (.cells (valC 14 0 nilB 0 0 (.slice none 0 0) (.slice none 0 0)) 29 (0, 0))).alloc (.cells zGot 139 (0, 0)) = w1 at *
 have HN := hdd hn
 have HR := hdd hR
 have HS := hdd hs
 have HM := hdd (Rp.M_new h hk0)
 obtain ⟨x0, x1, x2, x3, x4, x5, x6⟩ := got_cells hV
 clear hn hR hV hG hs
 refine (Rp.getList11 K d ih deep s w1 hdq hd hhi (h.fresh hk0) hroom).mono ?_
 rintro e w3 ⟨T', N', Sa, Sm, Sc, KT', E', Ia, Im, Ic, La, Lm, Lc, ev, rfl, hp, hval⟩
 have hR3 := (hp.keep.block n0 (lt_of_heap HR.out) (fun x => by have := HM.out n0 x; have := HN.out; omega)).trans HR.out
 have HP := hdd hp
 have HVAL := hdd hval
 have HR3 := hdd hR3
 clear x0 x1 x2 x3 x4 x5 x6
 obtain ⟨r0, r1, r2, r3, r4, r5, r6⟩ := got_cells hR3
 obtain ⟨z0, z1, z2, z3, z4, z5, z6⟩ := got_free hR3
 clear hp hval hR3
 go_wp2_with fail
 have hn0 := HN.out
 have hs1 := HS.out
 have hk9 := val_keep (M := fun i => n0 ≤ i ∧ i < n0 + 3) (Keep.refl _ w3) (R := n0) (fun _ => by omega) (.int .i64 T') (.int .i64 N') (.slice Sa Sm Sc) (.int .i64 KT') (.int .i64 E') (.slice Ia Im Ic) (.slice La Lm Lc)
 refine ret_cell2 (U := n0) (T := 29) Tryz.results29 rfl rfl rfl (val_set HR3.out (.int .i64 T') (.int .i64 N') (.slice Sa Sm Sc) (.int .i64 KT') (.int .i64 E') (.slice Ia Im Ic) (.slice La Lm Lc)) Tryz.underlying29 ival_size ?_
 refine ⟨T', N', Sa, Sm, Sc, KT', E', Ia, Im, Ic, La, Lm, Lc, ev, rfl, Rp.through h hk0 HP.out hk9 (fun i hi => by omega), fun hz => ?_⟩
 exact ((HVAL.out hz).keep hk9 (fun i hi e => by have := hi.1; omega)).weak (fun i _ hi => ⟨by have := hi.1; omega, fun x => hi.2 (Rp.through_M h hk0 HP.out hk9 (fun i hi => by omega) i x)⟩)
set_option maxRecDepth 100000 in
theorem Rp.get15 {St : Type} (K : Rp.Ctx St) (d : Nat) (ih : Rp.Gets K d) (deep : Int) (s : St) (w : World) (hdq : deep.toNat = d + 1) (hd : 0 < deep) (hhi : deep ≤ 9223372036854775807) (h : K.Inv s w) (hroom : K.pr.Room s) :
  Calls Tryz.prog 29 #[K.V, .int .u8 15, .int .i64 deep] w (Rp.GetP K (d + 1) w (gt K.pr (d + 1) 15 s)) := by
 go_enter Tryz.func29, Tryz.ntmps29
 go_wp2_with fail
 obtain ⟨hk0, hR, hV, hG, hs⟩ := getW_facts w 15
 obtain ⟨n0, hn⟩ : ∃ n0, w.heap.size = n0 := ⟨_, rfl⟩
 rw [hn] at hR hV hG hs ⊢
 unfold getW at hk0 hR hV hG hs
 generalize ((w.alloc (.cells zVal 29 (0, 0))).alloc (.cells (valC 15 0 nilB 0 0 (.slice none 0 0) (.slice none 0 0)) 29 (0, 0))).alloc (.cells zGot 139 (0, 0)) = w1 at *
 have HN := hdd hn
 have HR := hdd hR
 have HS := hdd hs
 have HM := hdd (Rp.M_new h hk0)
 obtain ⟨x0, x1, x2, x3, x4, x5, x6⟩ := got_cells hV
 clear hn hR hV hG hs
 refine (Rp.getList9 K d ih deep s w1 hdq hd hhi (h.fresh hk0) hroom).mono ?_
 rintro e w3 ⟨T', N', Sa, Sm, Sc, KT', E', Ia, Im, Ic, La, Lm, Lc, ev, rfl, hp, hval⟩
 have hR3 := (hp.keep.block n0 (lt_of_heap HR.out) (fun x => by have := HM.out n0 x; have := HN.out; omega)).trans HR.out
 have HP := hdd hp
 have HVAL := hdd hval
 have HR3 := hdd hR3
 clear x0 x1 x2 x3 x4 x5 x6
 obtain ⟨r0, r1, r2, r3, r4, r5, r6⟩ := got_cells hR3
 obtain ⟨z0, z1, z2, z3, z4, z5, z6⟩ := got_free hR3
 clear hp hval hR3
 go_wp2_with fail
 have hn0 := HN.out
 have hs1 := HS.out
 have hk9 := val_keep (M := fun i => n0 ≤ i ∧ i < n0 + 3) (Keep.refl _ w3) (R := n0) (fun _ => by omega) (.int .i64 T') (.int .i64 N') (.slice Sa Sm Sc) (.int .i64 KT') (.int .i64 E') (.slice Ia Im Ic) (.slice La Lm Lc)
 refine ret_cell2 (U := n0) (T := 29) Tryz.results29 rfl rfl rfl (val_set HR3.out (.int .i64 T') (.int .i64 N') (.slice Sa Sm Sc) (.int .i64 KT') (.int .i64 E') (.slice Ia Im Ic) (.slice La Lm Lc)) Tryz.underlying29 ival_size ?_
 refine ⟨T', N', Sa, Sm, Sc, KT', E', Ia, Im, Ic, La, Lm, Lc, ev, rfl, Rp.through h hk0 HP.out hk9 (fun i hi => by omega), fun hz => ?_⟩
 exact ((HVAL.out hz).keep hk9 (fun i hi e => by have := hi.1; omega)).weak (fun i _ hi => ⟨by have := hi.1; omega, fun x => hi.2 (Rp.through_M h hk0 HP.out hk9 (fun i hi => by omega) i x)⟩)
set_option maxRecDepth 100000 in
theorem Rp.get_other {St : Type} (K : Rp.Ctx St) (d : Nat) (deep t : Int) (s : St) (w : World) (hd : 0 < deep) (h0 : 0 ≤ t) (h1 : t ≤ 255) (h : K.Inv s w) (hsc : isSc t = false) (h12 : ¬ t = 12) (h13 : ¬ t = 13) (h14 : ¬ t = 14) (h15 : ¬ t = 15) :
  Calls Tryz.prog 29 #[K.V, .int .u8 t, .int .i64 deep] w (Rp.GetP K (d + 1) w (51, s, V.zero)) := by
 have hle : ¬ deep ≤ 0 := by omega
 have htw : IntKind.i64.wrap t = t := IntWalk.i64_in _ (by omega)
 obtain ⟨g2, g3, g6, g8, g10, g4, g11, g16⟩ : ¬ t = 2 ∧ ¬ t = 3 ∧ ¬ t = 6 ∧ ¬ t = 8 ∧ ¬ t = 10 ∧ ¬ t = 4 ∧ ¬ t = 11 ∧ ¬ t = 16 := by
  simp [isSc] at hsc; omega
 go_enter Tryz.func29, Tryz.ntmps29
 go_wp2_with fail
 obtain ⟨hk0, hR, hV, hG, hs⟩ := getW_facts w t
 obtain ⟨n0, hn⟩ : ∃ n0, w.heap.size = n0 := ⟨_, rfl⟩
 rw [hn] at hR hV hG hs ⊢
 unfold getW at hk0 hR hV hG hs
 generalize ((w.alloc (.cells zVal 29 (0, 0))).alloc (.cells (valC t 0 nilB 0 0 (.slice none 0 0) (.slice none 0 0)) 29 (0, 0))).alloc (.cells zGot 139 (0, 0)) = w1 at *
 have HN := hdd hn
 have HR := hdd hR
 have HS := hdd hs
 have HM := hdd (Rp.M_new h hk0)
 obtain ⟨u0, u1, u2, u3, u4, u5, u6⟩ := got_cells hG
 obtain ⟨x0, x1, x2, x3, x4, x5, x6⟩ := got_cells hV
 obtain ⟨y0, y1, y2, y3, y4, y5, y6⟩ := got_free hV
 obtain ⟨r0, r1, r2, r3, r4, r5, r6⟩ := got_cells hR
 obtain ⟨z0, z1, z2, z3, z4, z5, z6⟩ := got_free hR
 have HV := hdd hV
 clear hn hR hV hG hs
 go_region
 all_goals
  go_wp2_with fail
  have hn0 := HN.out
  have hs1 := HS.out
  have hR4 : ((w1.setCell ⟨n0 + 1, 1, none⟩ (.int .i64 0)).setCell ⟨n0 + 1, 2, none⟩ (.slice none 0 0)).heap[n0]? = some (.cells zVal 29 (0, 0)) := (heap_set_other (p := ⟨n0 + 1, 2, none⟩) _ (by simp)).trans ((heap_set_other (p := ⟨n0 + 1, 1, none⟩) _ (by simp)).trans HR.out)
  have hkN : Keep (fun i => n0 ≤ i ∧ i < n0 + 3) w1 w1 := Keep.refl _ _
  have hkW := (((((((((hkN.set (n0 + 1) 1 (fun _ => by omega) (.int .i64 0)).set (n0 + 1) 2 (fun _ => by omega) (.slice none 0 0)).set n0 0 (fun _ => by omega) (.int .i64 t)).set n0 1 (fun _ => by omega) (.int .i64 0)).set n0 2 (fun _ => by omega) (.slice none 0 0)).set n0 3 (fun _ => by omega) (.int .i64 0)).set n0 4 (fun _ => by omega) (.int .i64 0)).set n0 5 (fun _ => by omega) (.slice none 0 0)).set n0 6 (fun _ => by omega) (.slice none 0 0)).drew
  have hR5 := val_set hR4 (.int .i64 t) (.int .i64 0) (.slice none 0 0) (.int .i64 0) (.int .i64 0) (.slice none 0 0) (.slice none 0 0)
  generalize ((((((((w1.setCell ⟨n0 + 1, 1, none⟩ (.int .i64 0)).setCell ⟨n0 + 1, 2, none⟩ (.slice none 0 0)).setCell ⟨n0, 0, none⟩ (.int .i64 t)).setCell ⟨n0, 1, none⟩ (.int .i64 0)).setCell ⟨n0, 2, none⟩ (.slice none 0 0)).setCell ⟨n0, 3, none⟩ (.int .i64 0)).setCell ⟨n0, 4, none⟩ (.int .i64 0)).setCell ⟨n0, 5, none⟩ (.slice none 0 0)).setCell ⟨n0, 6, none⟩ (.slice none 0 0) = w4 at *
  have hR6 : w4.drew.heap[n0]? = some (.cells #[.int .i64 t, .int .i64 0, .slice none 0 0, .int .i64 0, .int .i64 0, .slice none 0 0, .slice none 0 0] 29 (0, 0)) := hR5
  refine ret_cell2 (U := n0) (T := 29) Tryz.results29 rfl rfl rfl hR6 Tryz.underlying29 ival_size ?_
  have hp : Rp.Post K w1 w1 51 (.iface 138 (.int .i64 51)) s := ⟨.inr (.inr (.inr (.inr ⟨by decide, by decide, rfl⟩))), fun e => absurd e (by decide), K.isSome (h.fresh hk0), Kpt.refl _ _⟩
  exact ⟨t, 0, none, 0, 0, 0, 0, none, 0, 0, none, 0, 0, _, rfl, Rp.through h hk0 hp hkW (fun i hi => by omega), fun hz => absurd hz (by show ¬ (51 : Int) = 0; decide)⟩
theorem Rp.GetP.leaf {St : Type} {K : Rp.Ctx St} {d : Nat} {w w' : World} {e : Ending} {k : Int} {s : St} {T N KT E : Int} {S : List UInt8} {IDs : List Int} (h : Rp.GetP K 1 w (k, s, .mk T N S KT E IDs []) e w') : Rp.GetP K (d + 1) w (k, s, .mk T N S KT E IDs []) e w' := by
 obtain ⟨T1, N1, a1, a2, a3, a4, a5, b1, b2, b3, c1, c2, c3, ev, h1, h2, h3⟩ := h
 refine ⟨T1, N1, a1, a2, a3, a4, a5, b1, b2, b3, c1, c2, c3, ev, h1, h2, fun hz => ?_⟩
 obtain ⟨sv, iv, lv, q1, q2, q3, q4⟩ := h3 hz
 exact ⟨sv, iv, lv, q1, q2, q3, .inl (q4.elim (fun x => x) (fun x => absurd rfl x.1))⟩
theorem Rp.gets {St : Type} (K : Rp.Ctx St) (d : Nat) : Rp.Gets K d := by
 induction d with
 | zero => exact Rp.get_zero K
 | succ d ih =>
  intro deep t s w hd hlo hhi h0 h1 h hroom
  have hd0 : 0 < deep := by omega
  by_cases hsc : isSc t = true
  ·have e : gt K.pr (d + 1) t s = (K.pr.scK t s, K.pr.scS t s, .mk t (K.pr.scN t s) (K.pr.scB t s) 0 0 [] []) := by simp only [gt]; rw [if_pos hsc]
   rw [e]
   have ht : t = 2 ∨ t = 3 ∨ t = 6 ∨ t = 8 ∨ t = 10 ∨ t = 4 ∨ t = 11 ∨ t = 16 := by simpa [isSc, or_assoc] using hsc
   rcases ht with rfl | rfl | rfl | rfl | rfl | rfl | rfl | rfl
   ·exact (Rp.gets2 K deep hd0 s w h).mono (fun e w' q => q.leaf)
   ·exact (Rp.gets3 K deep hd0 s w h).mono (fun e w' q => q.leaf)
   ·exact (Rp.gets6 K deep hd0 s w h).mono (fun e w' q => q.leaf)
   ·exact (Rp.gets8 K deep hd0 s w h).mono (fun e w' q => q.leaf)
   ·exact (Rp.gets10 K deep hd0 s w h).mono (fun e w' q => q.leaf)
   ·exact (Rp.gets4 K deep hd0 s w h).mono (fun e w' q => q.leaf)
   ·exact (Rp.gets11 K deep hd0 s w h).mono (fun e w' q => q.leaf)
   ·exact (Rp.gets16 K deep hd0 s w h).mono (fun e w' q => q.leaf)
  ·by_cases h12 : t = 12
   ·subst h12
    have e : gt K.pr (d + 1) 12 s = gflds K.pr (gt K.pr d) (K.pr.len (K.pr.sbS s) + 1) (K.pr.sbS s) [] [] := by simp [gt, isSc]
    rw [e]
    exact Rp.get12 K d ih deep s w hd hd0 hhi h hroom
   ·by_cases h13 : t = 13
    ·subst h13; exact Rp.get13 K d ih deep s w hd hd0 hhi h hroom
    ·by_cases h14 : t = 14
     ·subst h14; exact Rp.get14 K d ih deep s w hd hd0 hhi h hroom
     ·by_cases h15 : t = 15
      ·subst h15; exact Rp.get15 K d ih deep s w hd hd0 hhi h hroom
      ·have e : gt K.pr (d + 1) t s = (51, s, V.zero) := by
        simp only [gt]; rw [if_neg hsc, if_neg h12, if_neg h13, if_neg (by omega)]
       rw [e]
       exact Rp.get_other K d deep t s w hd0 h0 h1 h (by simpa using hsc) h12 h13 h14 h15
theorem cnew_cells (w : World) (cs : Array Value) (T : TypeId) : ∀ j u, cs.toList[j]? = some u → (w.alloc (.cells cs T)).cell? ((⟨w.heap.size, 0, none⟩ : Addr).add j) = some u := by
 intro j u hj
 rw [Addr.add_lit, Nat.zero_add, cellAt (heap_alloc_new w _)]
 simpa using hj
theorem cown_shape {w : World} {B n size : Nat} {e : TypeId} {v : Value} {xs : List Value} (h : w.ownsRow B e size v n xs) : ∃ a m c, v = .slice a m c := by
 rcases h.2 with ⟨rfl, _⟩ | ⟨g, cap, cur, rfl, _⟩
 ·exact ⟨_, _, _, rfl⟩
 ·exact ⟨_, _, _, rfl⟩
section
variable {E : Env} {P MB B D : Nat} {a : Option Addr} {c : Cfg} {s s' : Cmp.St} {fv : Value} {sc sc' : List UInt8} {w w' : World}
def CSb (E : Env) (P MB B D : Nat) (a : Option Addr) (c : Cfg) (s : Cmp.St) (fv : Value) (sc : List UInt8) (w : World) (e : Ending) (w' : World) : Prop :=
 ∃ fv', e = .returned (.tuple #[.string ⟨#[]⟩, .nilIface]) ∧ CmpP E P MB B D a c (Cmp.sbS s) fv' sc w' ∧ Keep (fun i => P = i ∨ fv.ownBlock = some i) w w' ∧ (∀ j, fv'.ownBlock = some j → fv.ownBlock = some j ∨ w.heap.size ≤ j)
set_option maxRecDepth 100000 in
theorem cmp_structBegin (h : CmpP E P MB B D a c s fv sc w) (hd : s.outer.length < 1099511627776) :
  Calls Tryz.prog 196 #[.pointer (some ⟨P, 0, none⟩), ctxV] w (CSb E P MB B D a c s fv sc w) := by
 obtain ⟨_, _, _, c3, c4, _, _⟩ := h.cells
 have f3 := cell_free h.blk 3
 have f4 := cell_free h.blk 4
 have hlP := h.ltP
 obtain ⟨a0, m0, cc0, rfl⟩ := cown_shape h.row
 obtain ⟨fv, hfv⟩ : ∃ fv, Value.slice a0 m0 cc0 = fv := ⟨_, rfl⟩
 have HFV := hdd hfv
 obtain ⟨ii, hii, hiz, his, hib⟩ := int_info
 have hkA : Keep (fun _ => False) w (w.drew.alloc (.cells #[.int .i64 s.last] 3)) := ((Keep.refl _ w).drew).alloc _
 have HROW := hdd (row_keep h.row hkA (fun _ _ x => x))
 have hn1 := cnew_cells w.drew #[.int .i64 s.last] 3
 have hone1 : ∀ u ∈ [Value.int .i64 s.last], u.oneCell' = true := by
  intro u hu
  simp only [List.mem_cons, List.not_mem_nil, or_false] at hu
  subst hu; rfl
 have hmx : s.outer.length + 1 ≤ maxLen := by simp only [maxLen]; omega
 have hbase : E.base ≤ (w.drew.alloc (.cells #[.int .i64 s.last] 3)).heap.size := by have := h.base; have := hlP; simp; omega
 have HKA := hdd hkA
 have HH := hdd h
 clear h hkA hfv
 go_enter Tryz.func196, Tryz.ntmps196
 go_wp2_with fail
 go_region_law (refine step_append_own_at rfl (.tmp 10) (.tmp 15) 26 rfl E.base 3 ii (.int .i64 0) 1 8 Tryz.underlying26 hii hiz his hib rfl (by decide) (.slice a0 m0 cc0) s.outer.length (s.outer.map (Value.int .i64)) rfl HROW.out ⟨w.heap.size, 0, none⟩ 1 1 [.int .i64 s.last] rfl rfl hn1 hone1 hmx (by omega) hbase ?_; intro v' w2 hown hg hat; obtain ⟨va, vm, vc, rfl⟩ := cown_shape hown; have HOWN := hdd hown; have HG := hdd hg; have HAT := hdd hat; have hb2 := (hg.block P (by first | (simp; done) | (simp; omega)) (fun e => (HH.out.rowB P e.symm).1 rfl)).trans ((HKA.out.block P hlP id).trans HH.out.blk); have HB2 := hdd hb2; have f3 := cell_free hb2 3; have f4 := cell_free hb2 4; have c3 : w2.cell? ⟨P, 3, none⟩ = some (.slice a0 m0 cc0) := (by simp [cellAt hb2]); have c4 : w2.cell? ⟨P, 4, none⟩ = some (.int .i64 s.last) := (by simp [cellAt hb2]); clear hown hg hat hb2)
 all_goals
  have d4 : w2.cell? ⟨P, 4, none⟩ = some (.int .i64 s.last) := by simp [cellAt HB2.out]
  go_wp2_with fail
  go_ret2
  have hown := HOWN.out
  have hg := HG.out
  have hat := HAT.out
  have hs0 : w.heap.size ≤ w2.heap.size := Nat.le_trans HKA.out.size hg.size
  have hk2 : Keep (fun i => fv.ownBlock = some i) w w2 := (HKA.out.weak (fun _ _ x => x.elim)).grown hg (fun k e _ => by rw [← HFV.out]; exact e)
  have hk4 : Keep (fun i => P = i ∨ fv.ownBlock = some i) w ((w2.setCell ⟨P, 3, none⟩ (.slice va vm vc)).setCell ⟨P, 4, none⟩ (.int .i64 0)) := ((hk2.weak (fun _ _ x => .inr x)).set P 3 (fun _ => .inl rfl) _).set P 4 (fun _ => .inl rfl) _
  have hkP : Keep (fun i => P = i) w2 ((w2.setCell ⟨P, 3, none⟩ (.slice va vm vc)).setCell ⟨P, 4, none⟩ (.int .i64 0)) := ((Keep.refl _ w2).set P 3 (fun _ => rfl) _).set P 4 (fun _ => rfl) _
  have hb4 := heap_set_same (i := 4) (heap_set_same (i := 3) HB2.out (.slice va vm vc)) (.int .i64 0)
  have hH := HH.out
  have hnew : ∀ j, (Value.slice va vm vc).ownBlock = some j → fv.ownBlock = some j ∨ w.heap.size ≤ j := fun j e => by
   rcases hat with e2 | e2
   ·left; rw [← HFV.out, ← e2]; exact e
   ·right
    rw [e2] at e
    cases e
    exact HKA.out.size
  have hD := hH.mem.ltD
  have hMB := hH.mem.lts
  have hrb : ∀ i, fv.ownBlock = some i → i ≠ P ∧ i ≠ MB ∧ i ≠ B ∧ i ≠ D := fun i e => hH.rowB i (by rw [HFV.out]; exact e)
  refine ⟨_, rfl, ⟨hH.sc64, by simpa [Cmp.sbS] using hb4, ?_, ?_, ⟨show (-32768 : Int) ≤ 0 by decide, show (0 : Int) ≤ 32767 by decide⟩, ?_, ?_, ?_, ?_, hH.cok, hH.base, hH.neM, hH.neB, hH.neD⟩, ?_, ?_⟩
  ·have := row_keep hown hkP (fun i e x => by
    subst x
    rcases hnew _ e with e2 | e2
    ·exact (hrb _ e2).1 rfl
    ·omega)
   simpa [Cmp.sbS] using this
  ·intro i e
   rcases hnew i e with e2 | e2
   ·exact hrb i e2
   ·exact ⟨by omega, by omega, by omega, by omega⟩
  ·intro x hx
   simp only [Cmp.sbS, List.mem_append, List.mem_cons, List.not_mem_nil, or_false] at hx
   rcases hx with hx | rfl
   ·exact hH.out16 x hx
   ·exact hH.last16
  ·exact hH.mem.keep hk4 (fun e => e.elim (fun e => hH.neM e) (fun e => (hrb MB e).2.1 rfl)) (fun e => e.elim (fun e => hH.neB e) (fun e => (hrb B e).2.2.1 rfl)) (fun e => e.elim (fun e => hH.neD e) (fun e => (hrb D e).2.2.2 rfl))
  ·exact hH.glob.keep hk4 (fun i e => e.elim (fun e => by have := hH.base; omega) (fun e => (hH.row.lt i (by rw [HFV.out]; exact e)).1))
  ·have h1 : CfgAt (fun i => CM P B fv i ∨ CM P B (.slice va vm vc) i) w a c := (hH.cfg).weak (fun i hi x => by
    rw [HFV.out]
    rcases x with x | x
    ·exact x
    ·rcases x with x | x | x
     ·exact .inl x
     ·exact .inr (.inl x)
     ·rcases hnew i x with e2 | e2
      ·exact .inr (.inr e2)
      ·omega)
   exact (h1.keep hk4 (fun i e => .inl (e.elim (fun e => .inr (.inl e)) (fun e => .inr (.inr e))))).weak (fun i _ x => .inr x)
  ·rw [HFV.out]; exact hk4
  ·rw [HFV.out]; exact hnew
def CSe (E : Env) (P MB B D : Nat) (a : Option Addr) (c : Cfg) (s : Cmp.St) (fv : Value) (sc : List UInt8) (w : World) (e : Ending) (w' : World) : Prop :=
 ∃ fv', e = .returned .nilIface ∧ CmpP E P MB B D a c (Cmp.seS s) fv' sc w' ∧ Keep (fun i => P = i) w w' ∧ (∀ j, fv'.ownBlock = some j → fv.ownBlock = some j)
set_option maxRecDepth 100000 in
theorem cmp_structEnd (h : CmpP E P MB B D a c s fv sc w) (hd : 1 ≤ s.outer.length) :
  Calls Tryz.prog 197 #[.pointer (some ⟨P, 0, none⟩), ctxV] w (CSe E P MB B D a c s fv sc w) := by
 obtain ⟨rem, last, outer, pend, val⟩ := s
 obtain ⟨o', x, rfl⟩ : ∃ o' x, outer = o' ++ [x] := ⟨outer.dropLast, outer.getLast (by intro e; rw [e] at hd; simp at hd), (List.dropLast_concat_getLast _).symm⟩
 obtain ⟨k, hk⟩ : ∃ k, o'.length = k := ⟨_, rfl⟩
 rcases h.row.2 with ⟨hn, hn2⟩ | ⟨g, cap, cur, hfv, hbg, hg, hnc, hcm, hcs, htake⟩
 ·simp at hn2
 subst hfv
 have hlen : (o' ++ [x]).length = k + 1 := by simp [hk]
 have hn3 : ({ rem := rem, last := last, outer := o' ++ [x], pend := pend, val := val } : Cmp.St).outer.length = k + 1 := hlen
 rw [hn3] at h hnc htake
 have hkc : k + 1 ≤ cap := hnc
 have hcx : w.cell? ⟨g, k, none⟩ = some (.int .i64 x) := by
  have h1 := h.row.cells (g := g) rfl k (.int .i64 x) (by simp [← hk])
  rw [Addr.add_lit] at h1
  simpa using h1
 obtain ⟨_, _, _, c3, c4, _, _⟩ := h.cells
 have f3 := cell_free h.blk 3
 have f4 := cell_free h.blk 4
 have HH := hdd h
 have HT := hdd (And.intro hg (And.intro hbg (And.intro hcm (And.intro hcs htake))))
 have HK := hdd hk
 have hmax : (cap : Int) ≤ 9223372036854775807 := by simp only [maxLen] at hcm; omega
 have hw : IntKind.i64.wrap (((k + 1 : Nat) : Int) - 1) = (k : Nat) := by rw [show (((k + 1 : Nat) : Int) - 1) = (k : Nat) by omega]; exact IntWalk.i64_in _ (by omega)
 clear h hg hbg hcm hcs htake hk hnc hlen hn3 hd
 go_enter Tryz.func197, Tryz.ntmps197
 go_wp2_with fail
 go_cut [] from 13 to 27 (fun wx => wx.heap[P]? = some (.cells (cmpC MB a (.slice (some ⟨g, 0, none⟩) (k + 1) cap) x val pend sc).toArray 223 (0, 0)) ∧ Keep (fun i => P = i) w wx)
 case first =>
  go_region
  all_goals
   go_wp2_with fail
   go_simp
   go_meet
   have hb := heap_set_same (i := 4) HH.out.blk (.int .i64 x)
   have hk := (Keep.refl (fun i => P = i) w).set P 4 (fun _ => rfl) (.int .i64 x)
   first
   | exact ⟨(show (w.setCell ⟨P, 4, none⟩ (.int .i64 x)).heap[P]? = _ by simpa using hb), hk.drew⟩
   | exact ⟨by simpa using hb, ((Keep.refl (fun i => P = i) w).drew).set P 4 (fun _ => rfl) (.int .i64 x)⟩
 case rest =>
 obtain ⟨hb, hk⟩ := hcut
 have HB := hdd hb
 have HKC := hdd hk
 have c3' : wc.cell? ⟨P, 3, none⟩ = some (.slice (some ⟨g, 0, none⟩) (k + 1) cap) := by simp [cellAt hb]
 have f3' := cell_free hb 3
 clear hb hk
 go_wp2_with fail
 go_region
 all_goals
  go_wp2_with fail
  go_ret
  have hH := HH.out
  obtain ⟨hg, hbg, hcm, hcs, htake⟩ := HT.out
  have hgP : g ≠ P := (hH.rowB g rfl).1
  have hb5 := heap_set_same (i := 3) HB.out (.slice (some ⟨g, 0, none⟩) k cap)
  have hk5 : Keep (fun i => P = i) w (wc.setCell ⟨P, 3, none⟩ (.slice (some ⟨g, 0, none⟩) k cap)).drew := (HKC.out.set P 3 (fun _ => rfl) _).drew
  have hg5 : (wc.setCell ⟨P, 3, none⟩ (.slice (some ⟨g, 0, none⟩) k cap)).drew.heap[g]? = some (.cells cur 3 (0, 0)) := (hk5.block g (lt_of_heap hg) (fun e => hgP e.symm)).trans hg
  have hdl : (o' ++ [x]).dropLast = o' := by simp
  have hse : Cmp.seS ⟨rem, last, o' ++ [x], pend, val⟩ = ⟨rem, x, o', pend, val⟩ := by simp [Cmp.seS]
  refine ⟨.slice (some ⟨g, 0, none⟩) k cap, rfl, ?_, hk5, fun j e => e⟩
  rw [hse]
  refine ⟨hH.sc64, (show (wc.setCell ⟨P, 3, none⟩ (.slice (some ⟨g, 0, none⟩) k cap)).heap[P]? = _ by simpa using hb5), ?_, fun i e => hH.rowB i e, hH.out16 x (by simp), fun y hy => hH.out16 y (by simp [hy]), hH.mem.keep hk5 hH.neM (fun e => hH.neB e) hH.neD, hH.glob.keep hk5 (fun i e => by have := hH.base; omega), ?_, hH.cok, hH.base, hH.neM, hH.neB, hH.neD⟩
  ·refine ⟨by simp, .inr ⟨g, cap, cur, by rw [HK.out], hbg, hg5, by rw [HK.out]; omega, hcm, hcs, ?_⟩⟩
   have := congrArg (List.take k) htake
   rw [List.take_take] at this
   rw [HK.out, Nat.mul_one]
   rw [show min k ((k + 1) * 1) = k by omega] at this
   rw [this, List.map_append, List.take_append_of_le_length (by simp [HK.out]), List.take_of_length_le (by simp [HK.out])]
  ·exact ((hH.cfg).keep hk5 (fun i e => .inr (.inl e))).weak (fun i _ x => x)
theorem cmp_fieldEnd (p c : Value) (w : World) : Calls Tryz.prog 183 #[p, c] w fun e w' => e = .returned .nilIface ∧ w = w' := by
 go_enter Tryz.func183, Tryz.ntmps183
 go_wp2_with fail
 go_ret
 exact ⟨rfl, rfl⟩
theorem cmp_mapEnd (p c : Value) (w : World) : Calls Tryz.prog 190 #[p, c] w fun e w' => e = .returned .nilIface ∧ w = w' := by
 go_enter Tryz.func190, Tryz.ntmps190
 go_wp2_with fail
 go_ret
 exact ⟨rfl, rfl⟩
theorem cmp_listEnd (p c : Value) (w : World) : Calls Tryz.prog 188 #[p, c] w fun e w' => e = .returned .nilIface ∧ w = w' := by
 go_enter Tryz.func188, Tryz.ntmps188
 go_wp2_with fail
 go_ret
 exact ⟨rfl, rfl⟩
theorem cmp_setEnd (p c : Value) (w : World) : Calls Tryz.prog 194 #[p, c] w fun e w' => e = .returned .nilIface ∧ w = w' := by
 go_enter Tryz.func194, Tryz.ntmps194
 go_wp2_with fail
 go_ret
 exact ⟨rfl, rfl⟩
theorem cmp_msgEnd (p c : Value) (w : World) : Calls Tryz.prog 192 #[p, c] w fun e w' => e = .returned .nilIface ∧ w = w' := by
 go_enter Tryz.func192, Tryz.ntmps192
 go_wp2_with fail
 go_ret
 exact ⟨rfl, rfl⟩
end
end Go.Proofs.YthehmlbolajljaaGreatDoor
