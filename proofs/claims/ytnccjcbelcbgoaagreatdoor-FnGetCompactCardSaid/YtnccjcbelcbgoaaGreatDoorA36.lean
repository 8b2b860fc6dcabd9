/- Part 36 of the proof: GetSCmp, GetTCmp. -/
import Derived.Test.YtnccjcbelcbgoaaGreatDoorA35
import Derived.Test.YtnccjcbelcbgoaaGreatDoorA34
set_option linter.unusedVariables false
set_option linter.unusedSimpArgs false
set_option linter.unusedSectionVars false
/- The thin package: get of a struct. -/
namespace Go.Proofs.YtnccjcbelcbgoaaGreatDoor
open Go Go.RowKit

theorem Cmp.na_ReadStructBegin (K : Cmp.Ctx) (w : World) : (nilAhead 491 106 (.pointer (some ⟨K.P, 0, none⟩)) "ReadStructBegin").run Tryz.prog w = .ok (some false) w := by kernel_rfl
theorem Cmp.na_ReadStructEnd (K : Cmp.Ctx) (w : World) : (nilAhead 491 106 (.pointer (some ⟨K.P, 0, none⟩)) "ReadStructEnd").run Tryz.prog w = .ok (some false) w := by kernel_rfl
theorem Cmp.na_ReadFieldBegin (K : Cmp.Ctx) (w : World) : (nilAhead 491 106 (.pointer (some ⟨K.P, 0, none⟩)) "ReadFieldBegin").run Tryz.prog w = .ok (some false) w := by kernel_rfl
theorem Cmp.na_ReadFieldEnd (K : Cmp.Ctx) (w : World) : (nilAhead 491 106 (.pointer (some ⟨K.P, 0, none⟩)) "ReadFieldEnd").run Tryz.prog w = .ok (some false) w := by kernel_rfl

/-- What holds ahead of each field. -/
def Cmp.SRel (K : Cmp.Ctx) (w : World) (U : Nat) (S : List (Nat × Array Value × TypeId)) (d : Nat) (f : Int → Cmp.St → Int × Cmp.St × _root_.Go.Proofs.YtnccjcbelcbgoaaGreatDoor.V) (tot : Int × Cmp.St × _root_.Go.Proofs.YtnccjcbelcbgoaaGreatDoor.V) (b k : Nat) (wr : World) : Prop :=
  ∃ s1 ids vs iv lv rows, Cmp.Inv K s1 wr ∧ Cmp.Frame K w U S d 12 0 0 ids vs iv lv rows wr ∧ (Cmp.pr K).len s1 < k ∧ gflds (Cmp.pr K) f k s1 ids vs = tot ∧ (Cmp.pr K).one ≤ (Cmp.pr K).dep s1 ∧ (Cmp.pr K).len s1 + (Cmp.pr K).dep s1 ≤ b ∧ ids.length = vs.length ∧ vs.length + (Cmp.pr K).len s1 ≤ b

set_option maxRecDepth 100000 in
set_option maxHeartbeats 8000000 in
theorem Cmp.getStruct (K : Cmp.Ctx) (d : Nat) (ih : Cmp.Gets K d) (deep : Int) (s : Cmp.St) (w : World) (hdd : deep.toNat = d + 1) (hd : 0 < deep) (hhi : deep ≤ 9223372036854775807) (h : Cmp.Inv K s w) (hroom : (Cmp.pr K).Room s) :
    Calls Tryz.prog 50 #[Cmp.V K, .int .i64 deep] w (Cmp.GetP K (d + 1) w (gflds (Cmp.pr K) (gt (Cmp.pr K) d) ((Cmp.pr K).len ((Cmp.pr K).sbS s) + 1) ((Cmp.pr K).sbS s) [] [])) := by
  obtain ⟨tot, htot⟩ : ∃ tot, gflds (Cmp.pr K) (gt (Cmp.pr K) d) ((Cmp.pr K).len ((Cmp.pr K).sbS s) + 1) ((Cmp.pr K).sbS s) [] [] = tot := ⟨_, rfl⟩
  rw [htot]
  have HT := Lib.hid htot
  have hR : (Cmp.pr K).len s + (Cmp.pr K).dep s < 1099511627776 := hroom
  have HRM := Lib.hid hR
  have hd1 : (deep - 1).toNat = d := by omega
  have HD := Lib.hid hd1
  have HDD := Lib.hid hdd
  clear htot hroom hd1 hdd hR
  have hna := Cmp.na_ReadStructBegin K
  have hnb := Cmp.na_ReadStructEnd K
  have hnc := Cmp.na_ReadFieldBegin K
  have hnd := Cmp.na_ReadFieldEnd K
  have hk0 : Keep (fun _ => False) w ((w.alloc (.cells zVal 38 (0, 0))).alloc (.cells (valC 12 0 nilB 0 0 (.slice none 0 0) (.slice none 0 0)) 38 (0, 0))) := ((Keep.refl _ w).alloc _).alloc _
  have hR0 : ((w.alloc (.cells zVal 38 (0, 0))).alloc (.cells (valC 12 0 nilB 0 0 (.slice none 0 0) (.slice none 0 0)) 38 (0, 0))).heap[w.heap.size]? = some (.cells zVal 38 (0, 0)) := (Below.heap_alloc _ _ _ (by simp)).trans (heap_alloc_new w _)
  have hU0 : ((w.alloc (.cells zVal 38 (0, 0))).alloc (.cells (valC 12 0 nilB 0 0 (.slice none 0 0) (.slice none 0 0)) 38 (0, 0))).heap[w.heap.size + 1]? = some (.cells (valC 12 0 nilB 0 0 (.slice none 0 0) (.slice none 0 0)) 38 (0, 0)) := heap_alloc_at (by simp) _
  have hs0 : ((w.alloc (.cells zVal 38 (0, 0))).alloc (.cells (valC 12 0 nilB 0 0 (.slice none 0 0) (.slice none 0 0)) 38 (0, 0))).heap.size = w.heap.size + 2 := by simp
  go_enter Tryz.func50, Tryz.ntmps50
  go_wp2_with fail
  obtain ⟨n0, hn⟩ : ∃ n0, w.heap.size = n0 := ⟨_, rfl⟩
  rw [hn] at hU0 hR0 hs0 ⊢
  generalize (w.alloc (.cells zVal 38 (0, 0))).alloc (.cells (valC 12 0 nilB 0 0 (.slice none 0 0) (.slice none 0 0)) 38 (0, 0)) = w1 at *
  have HN := Lib.hid hn
  have HU0 := Lib.hid hU0
  have HR0 := Lib.hid hR0
  have HS0 := Lib.hid hs0
  have HM := Lib.hid (Cmp.M_new h hk0)
  clear hn hU0 hR0 hs0
  go_cut [7, 8] from 16 to 24 (fun s7 s8 wx => s8 = .nilIface ∧ Cmp.Post K w1.drew wx 0 .nilIface ((Cmp.pr K).sbS s))
  case first =>
    go_region_with (first | (go_at_call 21; refine (ctx_at _).mono ?_; rintro e w' ⟨rfl, rfl⟩) | (go_at_call 172; refine (Cmp.readStructBegin (w := w1.drew) (h.fresh hk0.drew) (by have := HRM.out; omega)).mono ?_; rintro e w2 ⟨l, rfl, hp⟩; have HP := Lib.hid hp; clear hp))
    all_goals
      go_wp2_with fail
      go_simp
      go_meet
      exact ⟨rfl, HP.out⟩
  case rest =>
  obtain ⟨rfl, hp⟩ := hcut
  have hs1 := HS0.out
  have hN := HN.out
  have hl0 : n0 < w1.heap.size := by omega
  have hl1 : n0 + 1 < w1.heap.size := by omega
  have hR2 := (hp.keep.block n0 (by simpa using hl0) (fun x => by have := HM.out _ x; omega)).trans HR0.out
  have hU2 := (hp.keep.block (n0 + 1) (by simpa using hl1) (fun x => by have := HM.out _ x; omega)).trans HU0.out
  have HP := Lib.hid hp
  have HU2 := Lib.hid hU2
  have HR2 := Lib.hid hR2
  clear hp hU2 hR2 hs1 hN hl0 hl1
  go_wp2_with fail
  go_loopg [] ((Cmp.pr K).len ((Cmp.pr K).sbS s) + 1) (fun k wr => Cmp.SRel K w (n0 + 1) [(n0, zVal, 38)] d (gt (Cmp.pr K) d) tot ((Cmp.pr K).len s + (Cmp.pr K).dep s + (Cmp.pr K).one) k wr)
  case atStart =>
    have hN := HN.out
    have hs1 := HS0.out
    have hnM : ∀ j, n0 ≤ j → j < w1.heap.size → ¬ Cmp.M K wc j := fun j hj hl => HP.out.keep.not (by simpa using hl) (fun x => by have := HM.out _ x; omega)
    have ok := Cmp.ok K
    have e1 := ok.dsb s
    have e2 := ok.sb s
    refine ⟨_, [], [], _, _, [], HP.out.inv rfl, ⟨(Cmp.kept h hk0.drew).then HP.out.keep, ivb_start HU2.out ⟨by omega, by simp, hnM _ (by omega) (by omega)⟩ (fun i x => x.1), ?_⟩, Nat.lt_succ_self _, HT.out, by omega, by omega, rfl, by simp; omega⟩
    intro p hp
    simp only [List.mem_cons, List.not_mem_nil, or_false] at hp
    subst hp
    exact ⟨by show w.heap.size ≤ n0; omega, HR2.out, hnM _ (Nat.le_refl _) (by omega)⟩
  case round =>
    obtain ⟨s1, ids, vs, iv, lv, rows, hi1, hfr, hlt, hfl, hdp, hbd, hil, hvl⟩ := hrel
    cases gk with
    | zero => exact absurd hlt (Nat.not_lt_zero _)
    | succ k =>
    have HF := Lib.hid hfl
    have HFR := Lib.hid hfr
    have HNUM := Lib.hid (And.intro hlt (And.intro hdp (And.intro hbd (And.intro hil hvl))))
    clear hfl hfr hlt hdp hbd hil hvl
    go_wp2_with fail
    go_cut [9, 10, 11, 12] from 29 to 39 (fun s9 s10 s11 s12 wx => ∃ t id ev, s10 = .int .u8 t ∧ s11 = .int .i16 id ∧ s12 = ev ∧ Cmp.Post K wr.drew wx ((Cmp.pr K).fK s1) ev ((Cmp.pr K).fS s1) ∧ ((Cmp.pr K).fK s1 = 0 → t = (Cmp.pr K).fT s1 ∧ id = (Cmp.pr K).fI s1))
    case first =>
      go_region_with (first | (go_at_call 21; refine (ctx_at _).mono ?_; rintro e w' ⟨rfl, rfl⟩) | (go_at_call 158; refine (Cmp.readFieldBegin (w := wr.drew) (hi1.fresh ((Keep.refl _ wr).drew))).mono ?_; rintro e w2 ⟨l, t, id, ev, rfl, hp, hv⟩; have HP2 := Lib.hid hp; have HV2 := Lib.hid hv; clear hp hv))
      all_goals
        go_wp2_with fail
        go_simp
        go_meet
        exact ⟨_, _, _, rfl, rfl, rfl, HP2.out, HV2.out⟩
    case rest =>
    obtain ⟨t, id, ev, rfl, rfl, he, hp2, hv2⟩ := hcut
    have he := he.symm
    subst he
    have hfd := Cmp.Frame.fresh h HFR.out hi1 ((Keep.refl _ wr).drew)
    have HF2 := Lib.hid (hfd.call hp2.keep)
    have HFD := Lib.hid hfd
    have HP2 := Lib.hid hp2
    clear hfd hp2
    obtain ⟨Ia, Im, Ic, rfl⟩ := own_shape HFR.out.vb.ids
    obtain ⟨La, Lm, Lc, rfl⟩ := own_shape HFR.out.vb.parts
    obtain ⟨hR1, hR2, hR3⟩ := HF2.out.still (n0, zVal, 38) (by simp)
    have HR2 := Lib.hid hR2
    by_cases hz : (Cmp.pr K).fK s1 = 0
    · have hev : ev = .nilIface := by have := HP2.out.err; rw [hz] at this; exact this.isNil
      subst hev
      obtain ⟨ht, hid⟩ := hv2 hz
      have HZ := Lib.hid hz
      have HTT := Lib.hid ht
      have HID := Lib.hid hid
      clear hz ht hid hv2
      by_cases ht0 : t = 0
      · subst ht0
        obtain ⟨x0, x1, x2, x3, x4, x5, x6⟩ := got_cells HF2.out.vb.blk
        clear hR1 hR2 hR3
        go_wp2_with fail
        go_cut [5] from 46 to 52 (fun s5 wx => s5 = .nilIface ∧ ∃ w5, wx = ((((((((w5).setCell ⟨n0, 0, none⟩ (.int .i64 12)).setCell ⟨n0, 1, none⟩ (.int .i64 0)).setCell ⟨n0, 2, none⟩ (.slice none 0 0)).setCell ⟨n0, 3, none⟩ (.int .i64 0)).setCell ⟨n0, 4, none⟩ (.int .i64 0)).setCell ⟨n0, 5, none⟩ (.slice Ia Im Ic)).setCell ⟨n0, 6, none⟩ (.slice La Lm Lc)) ∧ Cmp.Post K wc.drew w5 0 .nilIface ((Cmp.pr K).seS ((Cmp.pr K).fS s1)))
        case first =>
          go_region_with (first | (go_at_call 21; refine (ctx_at _).mono ?_; rintro e w' ⟨rfl, rfl⟩) | (go_at_call 173; refine (Cmp.readStructEnd (w := wc.drew) ((HP2.out.inv HZ.out).fresh ((Keep.refl _ wc).drew)) (by rw [(Cmp.ok K).df s1 HZ.out]; exact HNUM.out.2.1)).mono ?_; rintro e w5 ⟨rfl, hp5⟩; have HP5 := Lib.hid hp5; have HF5 := Lib.hid ((Cmp.Frame.fresh h HF2.out (HP2.out.inv HZ.out) ((Keep.refl _ wc).drew)).call hp5.keep); clear hp5; obtain ⟨hR1, hR2, hR3⟩ := HF5.out.still (n0, zVal, 38) (by simp); obtain ⟨p0, p1, p2, p3, p4, p5, p6⟩ := got_cells HF5.out.vb.blk; obtain ⟨r0, r1, r2, r3, r4, r5, r6⟩ := got_cells hR2; obtain ⟨z0, z1, z2, z3, z4, z5, z6⟩ := got_free hR2; clear hR1 hR2 hR3))
          all_goals
            go_wp2_with fail
            go_simp
            go_meet
            exact ⟨rfl, _, rfl, HP5.out⟩
        case rest =>
        obtain ⟨rfl, w5, rfl, hp5⟩ := hcut
        have hfd := Cmp.Frame.fresh h HF2.out (HP2.out.inv HZ.out) ((Keep.refl _ wc).drew)
        have HF5 := Lib.hid (hfd.call hp5.keep)
        have HP5 := Lib.hid hp5
        have HFE := Lib.hid hfd
        obtain ⟨hR1, hR2, hR3⟩ := HF5.out.still (n0, zVal, 38) (by simp)
        have HR5 := Lib.hid hR2
        clear hfd hp5 x0 x1 x2 x3 x4 x5 x6 hR1 hR2 hR3
        go_wp2_with fail
        have hk9 := val_keep (M := fun i => n0 = i) (Keep.refl _ w5) (R := n0) (fun _ => rfl) (.int .i64 12) (.int .i64 0) (.slice none 0 0) (.int .i64 0) (.int .i64 0) (.slice Ia Im Ic) (.slice La Lm Lc)
        refine ret_cell2 (U := n0) (T := 38) Tryz.results50 rfl rfl rfl (val_set HR5.out (.int .i64 12) (.int .i64 0) (.slice none 0 0) (.int .i64 0) (.int .i64 0) (.slice Ia Im Ic) (.slice La Lm Lc)) Tryz.underlying38 ival_size ?_
        have i5 := (HP2.out.inv HZ.out).fresh ((Keep.refl _ wc).drew)
        have hth := Cmp.thru h HFE.out.kp i5 HP5.out hk9 (fun i e => by
          subst e
          obtain ⟨q1, q2, q3⟩ := HFE.out.still (n0, zVal, 38) (by simp)
          exact ⟨q1, lt_of_heap q2, q3⟩)
        have e1 : tot = (0, (Cmp.pr K).seS ((Cmp.pr K).fS s1), .mk 12 0 [] 0 0 ids vs) := by
          rw [← HF.out]
          exact gflds_stop HZ.out HTT.out.symm
        rw [e1]
        refine ⟨12, 0, none, 0, 0, 0, 0, Ia, Im, Ic, La, Lm, Lc, _, rfl, hth.1, fun hz => ?_⟩
        have hv := HF5.out.vb.val (by have := HNUM.out; have := HRM.out; have := (Cmp.ok K).one1; omega)
        exact (hv.keep hk9 (fun i hi e => hi.2.1 (n0, zVal, 38) (by simp) e.symm)).weak (fun i _ hi => ⟨hi.1, fun m => hi.2.2 (hth.2 i m)⟩)
      · have ok := Cmp.ok K
        have hne : ¬ (Cmp.pr K).fT s1 = 0 := fun hh => ht0 (HTT.out.trans hh)
        have htb := Cmp.fT_bd K s1
        rw [← HTT.out] at htb
        have HNE := Lib.hid hne
        clear hne hR1 hR2 hR3
        go_wp2_with fail
        refine (ih (deep - 1) t _ wc HD.out (by omega) (by omega) htb.1 htb.2 (HP2.out.inv HZ.out) (by have a1 := ok.df s1 HZ.out; have a2 := ok.f s1 HZ.out; have a3 := HNUM.out; have a4 := ok.one1; have a5 := HRM.out; show _ + _ < _; omega)).mono ?_
        rintro e w3 ⟨T', N', Sa, Sm, Sc, KT', E', Ja, Jm, Jc, Ma, Mm, Mc, ev, rfl, hp3, hval⟩
        have HF3 := Lib.hid (HF2.out.call hp3.keep)
        have HP3 := Lib.hid hp3
        have HVAL := Lib.hid hval
        clear hp3 hval htb
        have HMN := Lib.hid HF2.out.mine
        go_wp2_with fail
        obtain ⟨w6, hw6⟩ : ∃ w6, w3.alloc (.cells (valC T' N' (.slice Sa Sm Sc) KT' E' (.slice Ja Jm Jc) (.slice Ma Mm Mc)) 38 (0, 0)) = w6 := ⟨_, rfl⟩
        have hk6 : Keep (fun _ => False) w3 w6 := by rw [← hw6]; exact (Keep.refl _ w3).alloc _
        have hX6 : w6.heap[w3.heap.size]? = some (.cells (valC T' N' (.slice Sa Sm Sc) KT' E' (.slice Ja Jm Jc) (.slice Ma Mm Mc)) 38 (0, 0)) := by rw [← hw6]; exact heap_alloc_new w3 _
        rw [hw6]
        clear hw6
        obtain ⟨X, hX⟩ : ∃ X, w3.heap.size = X := ⟨_, rfl⟩
        rw [hX] at hX6 ⊢
        have hidb := Cmp.fI_bd K s1
        rw [← HID.out] at hidb
        have hiw : IntKind.i64.wrap id = id := IntWalk.i64_in _ (by omega)
        have HV6 := Lib.hid (HF3.out.vb.keep hk6 (fun _ _ x => x))
        have HO1 : Hid (∀ i, (Value.slice Ia Im Ic).ownBlock = some i → i < w6.heap.size) := Lib.hid (fun i e => (HV6.out.ids.lt i e).2)
        have HB6 : Hid (w.heap.size ≤ w6.heap.size) := Lib.hid (Nat.le_trans HF3.out.kp.size hk6.size)
        have HC : Hid (∀ W, Keep (fun i => (Value.slice Ia Im Ic).ownBlock = some i ∨ (Value.slice La Lm Lc).ownBlock = some i) w6 W → W.heap[n0 + 1]? = some (.cells (valC 12 0 nilB 0 0 (.slice Ia Im Ic) (.slice La Lm Lc)) 38 (0, 0)) ∧ W.heap[X]? = some (.cells (valC T' N' (.slice Sa Sm Sc) KT' E' (.slice Ja Jm Jc) (.slice Ma Mm Mc)) 38 (0, 0)) ∧ True) := Lib.hid (fun W k =>
          ⟨(k.block _ (lt_of_heap HV6.out.blk) (fun e => e.elim HV6.out.neI HV6.out.neL)).trans HV6.out.blk,
           (k.block _ (lt_of_heap hX6) (fun e => e.elim (fun e => by have := (HF3.out.vb.ids.lt _ e).2; omega) (fun e => by have := (HF3.out.vb.parts.lt _ e).2; omega))).trans hX6, trivial⟩)
        have hmxv : vs.length + 1 ≤ 1099511627778 := by have := HNUM.out; have := HRM.out; have := (Cmp.ok K).one1; omega
        have hmxi : ids.length + 1 ≤ 1099511627778 := by have := HNUM.out; omega
        have hmx1 : ids.length + 1 ≤ maxLen := by simp only [maxLen]; omega
        have hmx2 : vs.length + 1 ≤ maxLen := by simp only [maxLen]; omega
        obtain ⟨vi, hvi, hvz, hvs, hvb⟩ := ival_info
        obtain ⟨ii, hii, hiz, his, hib⟩ := int_info
        have hone1 : ∀ u ∈ [Value.int .i64 id], u.oneCell' = true := by
          intro u hu
          simp only [List.mem_cons, List.not_mem_nil, or_false] at hu
          subst hu; rfl
        have hone2 : ∀ u ∈ (valC T' N' (.slice Sa Sm Sc) KT' E' (.slice Ja Jm Jc) (.slice Ma Mm Mc)).toList, u.oneCell' = true := by
          intro u hu
          simp only [List.mem_cons, List.not_mem_nil, or_false] at hu
          rcases hu with rfl | rfl | rfl | rfl | rfl | rfl | rfl <;> rfl
        have HK6 := Lib.hid hk6
        have HX := Lib.hid hX
        clear hk6 hX6 hidb hX
        go_cut [] from 61 to 73 (fun wx => ∃ v5 v6 wy, wx = (wy.setCell ⟨n0 + 1, 5, none⟩ v5).setCell ⟨n0 + 1, 6, none⟩ v6 ∧ Grw 38 w.heap.size (.slice Ia Im Ic) (.slice La Lm Lc) w6 v5 v6 (ids.length + 1) (ids.map (Value.int .i64) ++ [.int .i64 id]) (vs.length + 1) (rows.flatten ++ (valC T' N' (.slice Sa Sm Sc) KT' E' (.slice Ja Jm Jc) (.slice Ma Mm Mc)).toList) wy)
        case first =>
          refine wp_region_quiet (fun W => W.heap[n0 + 1]? = some (.cells (valC 12 0 nilB 0 0 (.slice Ia Im Ic) (.slice La Lm Lc)) 38 (0, 0)) ∧ W.heap[X]? = some (.cells (valC T' N' (.slice Sa Sm Sc) KT' E' (.slice Ja Jm Jc) (.slice Ma Mm Mc)) 38 (0, 0)) ∧ True) [12, 14] (by kernel_rfl) ?_
          have G0 := Lib.hid ((Grw.start HV6.out).keep (Keep.refl (fun _ => False) w6).drew)
          generalize w6.drew = wd at *
          refine wpAnyP_plain 0 (some 61) (.pointer (some ⟨n0 + 1, 5, none⟩)) rfl (by kernel_rfl) (by kernel_rfl) (by kernel_rfl) (by kernel_rfl) (fun _ _ _ h => h) (fun W => ?_) (fun _ => HC.out _ G0.out.kp) ?_
          · go_simp
          try simp only [Act.put, List.setIfInBounds_toArray, List.set_cons_zero, List.set_cons_succ]
          refine wpAnyP_load 1 [12, 14] (some 62) (.slice Ia Im Ic) rfl (by kernel_rfl) (by kernel_rfl) (by kernel_rfl) (by kernel_rfl) (fun _ _ _ h => h) (fun W hW => ?_) (HC.out _ G0.out.kp) ?_
          · obtain ⟨p0, p1, p2, p3, p4, p5, p6⟩ := got_cells hW.1; go_simp
          try simp only [Act.put, List.setIfInBounds_toArray, List.set_cons_zero, List.set_cons_succ]
          refine wpAnyP_plain 2 (some 63) (.int .i16 id) rfl (by kernel_rfl) (by kernel_rfl) (by kernel_rfl) (by kernel_rfl) (fun _ _ _ h => h) (fun W => ?_) (fun _ => HC.out _ G0.out.kp) ?_
          · go_simp
          try simp only [Act.put, List.setIfInBounds_toArray, List.set_cons_zero, List.set_cons_succ]
          refine wpAnyP_plain 3 (some 64) (.int .i64 id) rfl (by kernel_rfl) (by kernel_rfl) (by kernel_rfl) (by kernel_rfl) (fun _ _ _ h => h) (fun W => ?_) (fun _ => HC.out _ G0.out.kp) ?_
          · go_simp
          try simp only [Act.put, List.setIfInBounds_toArray, List.set_cons_zero, List.set_cons_succ]
          refine wpAnyP_plain 6 (some 67) (.pointer (some ⟨n0 + 1, 6, none⟩)) rfl (by kernel_rfl) (by kernel_rfl) (by kernel_rfl) (by kernel_rfl) (fun _ _ _ h => h) (fun W => ?_) (fun _ => HC.out _ G0.out.kp) ?_
          · go_simp
          try simp only [Act.put, List.setIfInBounds_toArray, List.set_cons_zero, List.set_cons_succ]
          refine wpAnyP_load 7 [12, 14] (some 68) (.slice La Lm Lc) rfl (by kernel_rfl) (by kernel_rfl) (by kernel_rfl) (by kernel_rfl) (fun _ _ _ h => h) (fun W hW => ?_) (HC.out _ G0.out.kp) ?_
          · obtain ⟨p0, p1, p2, p3, p4, p5, p6⟩ := got_cells hW.1; go_simp
          try simp only [Act.put, List.setIfInBounds_toArray, List.set_cons_zero, List.set_cons_succ]
          refine wpAnyP_load 8 [9, 10, 12, 14] (some 69) (.agg (valC T' N' (.slice Sa Sm Sc) KT' E' (.slice Ja Jm Jc) (.slice Ma Mm Mc))) rfl (by kernel_rfl) (by kernel_rfl) (by kernel_rfl) (by kernel_rfl) (fun _ _ _ h => h) (fun W hW => ?_) (HC.out _ G0.out.kp) ?_
          · obtain ⟨p0, p1, p2, p3, p4, p5, p6⟩ := got_cells hW.2.1; go_simp
          try simp only [Act.put, List.setIfInBounds_toArray, List.set_cons_zero, List.set_cons_succ]
          refine wpAnyP_ready [4, 9] (by kernel_rfl) (by simp) ?_
          refine AllReadyP.cons (i := 4) (o := ⟨some 65, _, _, _, _, none⟩) rfl (fun K hK => ?_) ?_
          · go_simp
            have hn1 := new_cells wd #[.int .i64 id] 3
            have hz1 : wd.heap.size < (wd.alloc (.cells #[.int .i64 id] 3 (0, 0))).heap.size := by simp
            have G1 := Lib.hid (G0.out.alloc (.cells #[.int .i64 id] 3 (0, 0)))
            refine hK.out _ _ (fun _ => HC.out _ G1.out.kp) ?_
            clear hK K
            try simp only [Act.put, List.setIfInBounds_toArray, List.set_cons_zero, List.set_cons_succ]
            generalize wd.alloc (.cells #[.int .i64 id] 3 (0, 0)) = wa at *
            refine wpAnyP_ready [5, 9] (by kernel_rfl) (by simp) ?_
            refine AllReadyP.cons (i := 5) (o := ⟨some 66, _, _, _, _, none⟩) rfl (fun K hK => ?_) ?_
            · have hb1 : w.heap.size ≤ wa.heap.size := by have := G1.out.kp.size; have := HB6.out; omega
              refine step_append_own_at rfl (.tmp 62) (.tmp 65) 35 rfl w.heap.size 3 ii (.int .i64 0) 1 8 Tryz.underlying35 hii hiz his hib rfl (by decide) (.slice Ia Im Ic) ids.length (ids.map (Value.int .i64)) rfl G1.out.own1 ⟨wd.heap.size, 0, none⟩ 1 1 [.int .i64 id] rfl rfl hn1 hone1 hmx1 (by omega) hb1 ?_
              intro v5 wb ho5 hg5 ha5
              have G2 := Lib.hid (G1.out.app1 ho5 hg5 ha5)
              refine hK.out _ _ (fun _ => HC.out _ G2.out.kp) ?_
              clear hK K ho5 ha5
              try simp only [Act.put, List.setIfInBounds_toArray, List.set_cons_zero, List.set_cons_succ]
              refine wpAnyP_plain 11 (some 72) (.pointer (some ⟨n0 + 1, 5, none⟩)) rfl (by kernel_rfl) (by kernel_rfl) (by kernel_rfl) (by kernel_rfl) (fun _ _ _ h => h) (fun W => ?_) (fun _ => HC.out _ G2.out.kp) ?_
              · go_simp
              try simp only [Act.put, List.setIfInBounds_toArray, List.set_cons_zero, List.set_cons_succ]
              refine wpAnyP_ready [9] (by kernel_rfl) (by simp) ?_
              refine AllReadyP.cons (i := 9) (o := ⟨some 70, _, _, _, _, none⟩) rfl (fun K hK => ?_) ?_
              · go_simp
                have hn2 := new_cells wb (valC T' N' (.slice Sa Sm Sc) KT' E' (.slice Ja Jm Jc) (.slice Ma Mm Mc)) 38
                have hz2 : wb.heap.size < (wb.alloc (.cells (valC T' N' (.slice Sa Sm Sc) KT' E' (.slice Ja Jm Jc) (.slice Ma Mm Mc)) 38 (0, 0))).heap.size := by simp
                have G3 := Lib.hid (G2.out.alloc (.cells (valC T' N' (.slice Sa Sm Sc) KT' E' (.slice Ja Jm Jc) (.slice Ma Mm Mc)) 38 (0, 0)))
                refine hK.out _ _ (fun _ => HC.out _ G3.out.kp) ?_
                clear hK K
                try simp only [Act.put, List.setIfInBounds_toArray, List.set_cons_zero, List.set_cons_succ]
                generalize wb.alloc (.cells (valC T' N' (.slice Sa Sm Sc) KT' E' (.slice Ja Jm Jc) (.slice Ma Mm Mc)) 38 (0, 0)) = we at *
                refine wpAnyP_ready [10] (by kernel_rfl) (by simp) ?_
                refine AllReadyP.cons (i := 10) (o := ⟨some 71, _, _, _, _, none⟩) rfl (fun K hK => ?_) ?_
                · have hb2 : w.heap.size ≤ we.heap.size := by have := G3.out.kp.size; have := HB6.out; omega
                  refine step_append_own_at rfl (.tmp 68) (.tmp 70) 36 rfl w.heap.size 38 vi (.agg zVal) 7 104 Tryz.underlying36 hvi hvz hvs hvb rfl (by decide) (.slice La Lm Lc) vs.length rows.flatten rfl G3.out.own2 ⟨wb.heap.size, 0, none⟩ 1 1 ((valC T' N' (.slice Sa Sm Sc) KT' E' (.slice Ja Jm Jc) (.slice Ma Mm Mc))).toList rfl rfl hn2 hone2 hmx2 (by omega) hb2 ?_
                  intro v6 wf ho6 hg6 ha6
                  have G4 := Lib.hid (G3.out.app2 ho6 hg6 ha6)
                  refine hK.out _ _ (fun _ => HC.out _ G4.out.kp) ?_
                  clear hK K ho6 hg6 ha6
                  try simp only [Act.put, List.setIfInBounds_toArray, List.set_cons_zero, List.set_cons_succ]
                  obtain ⟨e5a, e5m, e5c, rfl⟩ := own_shape G4.out.own1
                  obtain ⟨e6a, e6m, e6c, rfl⟩ := own_shape G4.out.own2
                  obtain ⟨p0, p1, p2, p3, p4, p5, p6⟩ := got_cells (HC.out _ G4.out.kp).1
                  obtain ⟨q0, q1, q2, q3, q4, q5, q6⟩ := got_free (HC.out _ G4.out.kp).1
                  refine wpAnyP_ready [12] (by kernel_rfl) (by simp) ?_
                  refine AllReadyP.cons (i := 12) (o := ⟨none, _, _, _, _, none⟩) rfl (fun K hK => ?_) ?_
                  · go_simp
                    refine hK.out _ _ (fun q => quiet_no q (by kernel_rfl)) ?_
                    clear hK K
                    try simp only [Act.put, List.setIfInBounds_toArray, List.set_cons_zero, List.set_cons_succ]
                    refine wpAnyP_plain 13 (some 73) (.pointer (some ⟨n0 + 1, 6, none⟩)) rfl (by kernel_rfl) (by kernel_rfl) (by kernel_rfl) (by kernel_rfl) (fun _ _ _ h => h) (fun W => ?_) (fun q => quiet_no q (by kernel_rfl)) ?_
                    · go_simp
                    try simp only [Act.put, List.setIfInBounds_toArray, List.set_cons_zero, List.set_cons_succ]
                    refine wpAnyP_ready [14] (by kernel_rfl) (by simp) ?_
                    refine AllReadyP.cons (i := 14) (o := ⟨none, _, _, _, _, none⟩) rfl (fun K hK => ?_) ?_
                    · go_simp
                      refine hK.out _ _ (fun q => quiet_no q (by kernel_rfl)) ?_
                      clear hK K
                      refine wpAnyP_done (by kernel_rfl) ?_ _
                      go_wp2_with fail
                      go_simp
                      go_meet
                      exact ⟨_, _, wf, rfl, G4.out⟩
                    · exact AllReadyP.nil
                  · exact AllReadyP.nil
                · exact AllReadyP.nil
              · exact AllReadyP.nil
            · refine AllReadyP.cons (i := 9) (o := ⟨some 70, _, _, _, _, none⟩) rfl (fun K hK => ?_) ?_
              · go_simp
                have hn2 := new_cells wa (valC T' N' (.slice Sa Sm Sc) KT' E' (.slice Ja Jm Jc) (.slice Ma Mm Mc)) 38
                have hz2 : wa.heap.size < (wa.alloc (.cells (valC T' N' (.slice Sa Sm Sc) KT' E' (.slice Ja Jm Jc) (.slice Ma Mm Mc)) 38 (0, 0))).heap.size := by simp
                have G2 := Lib.hid (G1.out.alloc (.cells (valC T' N' (.slice Sa Sm Sc) KT' E' (.slice Ja Jm Jc) (.slice Ma Mm Mc)) 38 (0, 0)))
                have hn1 := news_alloc hn1 hz1 (.cells (valC T' N' (.slice Sa Sm Sc) KT' E' (.slice Ja Jm Jc) (.slice Ma Mm Mc)) 38 (0, 0))
                refine hK.out _ _ (fun _ => HC.out _ G2.out.kp) ?_
                clear hK K
                try simp only [Act.put, List.setIfInBounds_toArray, List.set_cons_zero, List.set_cons_succ]
                generalize wa.alloc (.cells (valC T' N' (.slice Sa Sm Sc) KT' E' (.slice Ja Jm Jc) (.slice Ma Mm Mc)) 38 (0, 0)) = wb at *
                refine wpAnyP_ready [5] (by kernel_rfl) (by simp) ?_
                refine AllReadyP.cons (i := 5) (o := ⟨some 66, _, _, _, _, none⟩) rfl (fun K hK => ?_) ?_
                · have hb1 : w.heap.size ≤ wb.heap.size := by have := G2.out.kp.size; have := HB6.out; omega
                  refine step_append_own_at rfl (.tmp 62) (.tmp 65) 35 rfl w.heap.size 3 ii (.int .i64 0) 1 8 Tryz.underlying35 hii hiz his hib rfl (by decide) (.slice Ia Im Ic) ids.length (ids.map (Value.int .i64)) rfl G2.out.own1 ⟨wd.heap.size, 0, none⟩ 1 1 [.int .i64 id] rfl rfl hn1 hone1 hmx1 (by omega) hb1 ?_
                  intro v5 we ho5 hg5 ha5
                  have G3 := Lib.hid (G2.out.app1 ho5 hg5 ha5)
                  have hn2 := news_kept hn2 hz2 ((Keep.refl (fun i => (Value.slice Ia Im Ic).ownBlock = some i) wb).grown hg5 (fun _ e _ => e)) (fun e => by have := HO1.out _ e; have := G0.out.kp.size; have := G1.out.kp.size; omega)
                  refine hK.out _ _ (fun _ => HC.out _ G3.out.kp) ?_
                  clear hK K ho5 ha5
                  try simp only [Act.put, List.setIfInBounds_toArray, List.set_cons_zero, List.set_cons_succ]
                  refine wpAnyP_plain 11 (some 72) (.pointer (some ⟨n0 + 1, 5, none⟩)) rfl (by kernel_rfl) (by kernel_rfl) (by kernel_rfl) (by kernel_rfl) (fun _ _ _ h => h) (fun W => ?_) (fun _ => HC.out _ G3.out.kp) ?_
                  · go_simp
                  try simp only [Act.put, List.setIfInBounds_toArray, List.set_cons_zero, List.set_cons_succ]
                  refine wpAnyP_ready [10] (by kernel_rfl) (by simp) ?_
                  refine AllReadyP.cons (i := 10) (o := ⟨some 71, _, _, _, _, none⟩) rfl (fun K hK => ?_) ?_
                  · have hb2 : w.heap.size ≤ we.heap.size := by have := G3.out.kp.size; have := HB6.out; omega
                    refine step_append_own_at rfl (.tmp 68) (.tmp 70) 36 rfl w.heap.size 38 vi (.agg zVal) 7 104 Tryz.underlying36 hvi hvz hvs hvb rfl (by decide) (.slice La Lm Lc) vs.length rows.flatten rfl G3.out.own2 ⟨wa.heap.size, 0, none⟩ 1 1 ((valC T' N' (.slice Sa Sm Sc) KT' E' (.slice Ja Jm Jc) (.slice Ma Mm Mc))).toList rfl rfl hn2 hone2 hmx2 (by omega) hb2 ?_
                    intro v6 wf ho6 hg6 ha6
                    have G4 := Lib.hid (G3.out.app2 ho6 hg6 ha6)
                    refine hK.out _ _ (fun _ => HC.out _ G4.out.kp) ?_
                    clear hK K ho6 hg6 ha6
                    try simp only [Act.put, List.setIfInBounds_toArray, List.set_cons_zero, List.set_cons_succ]
                    obtain ⟨e5a, e5m, e5c, rfl⟩ := own_shape G4.out.own1
                    obtain ⟨e6a, e6m, e6c, rfl⟩ := own_shape G4.out.own2
                    obtain ⟨p0, p1, p2, p3, p4, p5, p6⟩ := got_cells (HC.out _ G4.out.kp).1
                    obtain ⟨q0, q1, q2, q3, q4, q5, q6⟩ := got_free (HC.out _ G4.out.kp).1
                    refine wpAnyP_ready [12] (by kernel_rfl) (by simp) ?_
                    refine AllReadyP.cons (i := 12) (o := ⟨none, _, _, _, _, none⟩) rfl (fun K hK => ?_) ?_
                    · go_simp
                      refine hK.out _ _ (fun q => quiet_no q (by kernel_rfl)) ?_
                      clear hK K
                      try simp only [Act.put, List.setIfInBounds_toArray, List.set_cons_zero, List.set_cons_succ]
                      refine wpAnyP_plain 13 (some 73) (.pointer (some ⟨n0 + 1, 6, none⟩)) rfl (by kernel_rfl) (by kernel_rfl) (by kernel_rfl) (by kernel_rfl) (fun _ _ _ h => h) (fun W => ?_) (fun q => quiet_no q (by kernel_rfl)) ?_
                      · go_simp
                      try simp only [Act.put, List.setIfInBounds_toArray, List.set_cons_zero, List.set_cons_succ]
                      refine wpAnyP_ready [14] (by kernel_rfl) (by simp) ?_
                      refine AllReadyP.cons (i := 14) (o := ⟨none, _, _, _, _, none⟩) rfl (fun K hK => ?_) ?_
                      · go_simp
                        refine hK.out _ _ (fun q => quiet_no q (by kernel_rfl)) ?_
                        clear hK K
                        refine wpAnyP_done (by kernel_rfl) ?_ _
                        go_wp2_with fail
                        go_simp
                        go_meet
                        exact ⟨_, _, wf, rfl, G4.out⟩
                      · exact AllReadyP.nil
                    · exact AllReadyP.nil
                  · exact AllReadyP.nil
                · exact AllReadyP.nil
              · exact AllReadyP.nil
          · refine AllReadyP.cons (i := 9) (o := ⟨some 70, _, _, _, _, none⟩) rfl (fun K hK => ?_) ?_
            · go_simp
              have hn2 := new_cells wd (valC T' N' (.slice Sa Sm Sc) KT' E' (.slice Ja Jm Jc) (.slice Ma Mm Mc)) 38
              have hz2 : wd.heap.size < (wd.alloc (.cells (valC T' N' (.slice Sa Sm Sc) KT' E' (.slice Ja Jm Jc) (.slice Ma Mm Mc)) 38 (0, 0))).heap.size := by simp
              have G1 := Lib.hid (G0.out.alloc (.cells (valC T' N' (.slice Sa Sm Sc) KT' E' (.slice Ja Jm Jc) (.slice Ma Mm Mc)) 38 (0, 0)))
              refine hK.out _ _ (fun _ => HC.out _ G1.out.kp) ?_
              clear hK K
              try simp only [Act.put, List.setIfInBounds_toArray, List.set_cons_zero, List.set_cons_succ]
              generalize wd.alloc (.cells (valC T' N' (.slice Sa Sm Sc) KT' E' (.slice Ja Jm Jc) (.slice Ma Mm Mc)) 38 (0, 0)) = wa at *
              refine wpAnyP_ready [4] (by kernel_rfl) (by simp) ?_
              refine AllReadyP.cons (i := 4) (o := ⟨some 65, _, _, _, _, none⟩) rfl (fun K hK => ?_) ?_
              · have hn2' := news_alloc hn2 hz2 (.cells #[.int .i64 id] 3 (0, 0))
                go_simp
                have hn1 := new_cells wa #[.int .i64 id] 3
                have hz1 : wa.heap.size < (wa.alloc (.cells #[.int .i64 id] 3 (0, 0))).heap.size := by simp
                have G2 := Lib.hid (G1.out.alloc (.cells #[.int .i64 id] 3 (0, 0)))
                refine hK.out _ _ (fun _ => HC.out _ G2.out.kp) ?_
                clear hK K
                try simp only [Act.put, List.setIfInBounds_toArray, List.set_cons_zero, List.set_cons_succ]
                generalize wa.alloc (.cells #[.int .i64 id] 3 (0, 0)) = wb at *
                have hz2 := Nat.lt_trans hz2 hz1
                have hn2 := hn2'
                refine wpAnyP_ready [5] (by kernel_rfl) (by simp) ?_
                refine AllReadyP.cons (i := 5) (o := ⟨some 66, _, _, _, _, none⟩) rfl (fun K hK => ?_) ?_
                · have hb1 : w.heap.size ≤ wb.heap.size := by have := G2.out.kp.size; have := HB6.out; omega
                  refine step_append_own_at rfl (.tmp 62) (.tmp 65) 35 rfl w.heap.size 3 ii (.int .i64 0) 1 8 Tryz.underlying35 hii hiz his hib rfl (by decide) (.slice Ia Im Ic) ids.length (ids.map (Value.int .i64)) rfl G2.out.own1 ⟨wa.heap.size, 0, none⟩ 1 1 [.int .i64 id] rfl rfl hn1 hone1 hmx1 (by omega) hb1 ?_
                  intro v5 we ho5 hg5 ha5
                  have G3 := Lib.hid (G2.out.app1 ho5 hg5 ha5)
                  have hn2 := news_kept hn2 hz2 ((Keep.refl (fun i => (Value.slice Ia Im Ic).ownBlock = some i) wb).grown hg5 (fun _ e _ => e)) (fun e => by have := HO1.out _ e; have := G0.out.kp.size; have := G1.out.kp.size; omega)
                  refine hK.out _ _ (fun _ => HC.out _ G3.out.kp) ?_
                  clear hK K ho5 ha5
                  try simp only [Act.put, List.setIfInBounds_toArray, List.set_cons_zero, List.set_cons_succ]
                  refine wpAnyP_plain 11 (some 72) (.pointer (some ⟨n0 + 1, 5, none⟩)) rfl (by kernel_rfl) (by kernel_rfl) (by kernel_rfl) (by kernel_rfl) (fun _ _ _ h => h) (fun W => ?_) (fun _ => HC.out _ G3.out.kp) ?_
                  · go_simp
                  try simp only [Act.put, List.setIfInBounds_toArray, List.set_cons_zero, List.set_cons_succ]
                  refine wpAnyP_ready [10] (by kernel_rfl) (by simp) ?_
                  refine AllReadyP.cons (i := 10) (o := ⟨some 71, _, _, _, _, none⟩) rfl (fun K hK => ?_) ?_
                  · have hb2 : w.heap.size ≤ we.heap.size := by have := G3.out.kp.size; have := HB6.out; omega
                    refine step_append_own_at rfl (.tmp 68) (.tmp 70) 36 rfl w.heap.size 38 vi (.agg zVal) 7 104 Tryz.underlying36 hvi hvz hvs hvb rfl (by decide) (.slice La Lm Lc) vs.length rows.flatten rfl G3.out.own2 ⟨wd.heap.size, 0, none⟩ 1 1 ((valC T' N' (.slice Sa Sm Sc) KT' E' (.slice Ja Jm Jc) (.slice Ma Mm Mc))).toList rfl rfl hn2 hone2 hmx2 (by omega) hb2 ?_
                    intro v6 wf ho6 hg6 ha6
                    have G4 := Lib.hid (G3.out.app2 ho6 hg6 ha6)
                    refine hK.out _ _ (fun _ => HC.out _ G4.out.kp) ?_
                    clear hK K ho6 hg6 ha6
                    try simp only [Act.put, List.setIfInBounds_toArray, List.set_cons_zero, List.set_cons_succ]
                    obtain ⟨e5a, e5m, e5c, rfl⟩ := own_shape G4.out.own1
                    obtain ⟨e6a, e6m, e6c, rfl⟩ := own_shape G4.out.own2
                    obtain ⟨p0, p1, p2, p3, p4, p5, p6⟩ := got_cells (HC.out _ G4.out.kp).1
                    obtain ⟨q0, q1, q2, q3, q4, q5, q6⟩ := got_free (HC.out _ G4.out.kp).1
                    refine wpAnyP_ready [12] (by kernel_rfl) (by simp) ?_
                    refine AllReadyP.cons (i := 12) (o := ⟨none, _, _, _, _, none⟩) rfl (fun K hK => ?_) ?_
                    · go_simp
                      refine hK.out _ _ (fun q => quiet_no q (by kernel_rfl)) ?_
                      clear hK K
                      try simp only [Act.put, List.setIfInBounds_toArray, List.set_cons_zero, List.set_cons_succ]
                      refine wpAnyP_plain 13 (some 73) (.pointer (some ⟨n0 + 1, 6, none⟩)) rfl (by kernel_rfl) (by kernel_rfl) (by kernel_rfl) (by kernel_rfl) (fun _ _ _ h => h) (fun W => ?_) (fun q => quiet_no q (by kernel_rfl)) ?_
                      · go_simp
                      try simp only [Act.put, List.setIfInBounds_toArray, List.set_cons_zero, List.set_cons_succ]
                      refine wpAnyP_ready [14] (by kernel_rfl) (by simp) ?_
                      refine AllReadyP.cons (i := 14) (o := ⟨none, _, _, _, _, none⟩) rfl (fun K hK => ?_) ?_
                      · go_simp
                        refine hK.out _ _ (fun q => quiet_no q (by kernel_rfl)) ?_
                        clear hK K
                        refine wpAnyP_done (by kernel_rfl) ?_ _
                        go_wp2_with fail
                        go_simp
                        go_meet
                        exact ⟨_, _, wf, rfl, G4.out⟩
                      · exact AllReadyP.nil
                    · exact AllReadyP.nil
                  · exact AllReadyP.nil
                · exact AllReadyP.nil
              · exact AllReadyP.nil
            · exact AllReadyP.nil
        case rest =>
        obtain ⟨v5, v6, wy, rfl, hg⟩ := hcut
        obtain ⟨e5a, e5m, e5c, rfl⟩ := own_shape hg.own1
        obtain ⟨e6a, e6m, e6c, rfl⟩ := own_shape hg.own2
        clear hone1 hone2 hmx1 hmx2 hvi hvz hvs hvb hii hiz his hib
        have hUy := (HC.out _ hg.kp).1
        have hUz := heap_set_same (i := 6) (heap_set_same (i := 5) hUy (.slice e5a e5m e5c)) (.slice e6a e6m e6c)
        obtain ⟨hR1, hR2, hR3⟩ := HF3.out.still (n0, zVal, 38) (by simp)
        have hR6 := (HK6.out.block n0 (lt_of_heap hR2) (fun x => x)).trans hR2
        have hn6 := lt_of_heap hR6
        have hRy := (hg.kp.block n0 hn6 (fun e => e.elim (fun e => (HMN.out n0 (.inr (.inl e))).2.2.1 (n0, zVal, 38) (by simp) rfl) (fun e => (HMN.out n0 (.inr (.inr e))).2.2.1 (n0, zVal, 38) (by simp) rfl))).trans hR6
        have hRz := (heap_set_other (p := ⟨n0 + 1, 6, none⟩) (b := n0) (.slice e6a e6m e6c) (by simp)).trans ((heap_set_other (p := ⟨n0 + 1, 5, none⟩) (b := n0) (.slice e5a e5m e5c) (by simp)).trans hRy)
        have hkz : Keep (fun i => n0 + 1 = i ∨ (Value.slice Ia Im Ic).ownBlock = some i ∨ (Value.slice La Lm Lc).ownBlock = some i) w3 ((wy.setCell ⟨n0 + 1, 5, none⟩ (.slice e5a e5m e5c)).setCell ⟨n0 + 1, 6, none⟩ (.slice e6a e6m e6c)) :=
          (((HK6.out.weak (fun _ _ x => x.elim)).then (hg.kp.weak (fun _ _ e => .inr e))).set (n0 + 1) 5 (fun _ => .inl rfl) _).set (n0 + 1) 6 (fun _ => .inl rfl) _
        by_cases hz3 : (gt (Cmp.pr K) d t ((Cmp.pr K).fS s1)).1 = 0
        · have hev : ev = .nilIface := by have := HP3.out.err; rw [hz3] at this; exact this.isNil
          subst hev
          have i3 := HP3.out.inv hz3
          have hM6 := (Cmp.turn h HF3.out.kp i3 HK6.out (fun _ x => x.elim)).2.2
          obtain ⟨F8, I8⟩ := Cmp.Frame.two (x := (gt (Cmp.pr K) d t ((Cmp.pr K).fS s1)).2.2) (id := id) h (Cmp.Frame.fresh h HF3.out i3 HK6.out) (i3.fresh HK6.out)
            (((HVAL.out hz3).keep HK6.out (fun _ _ => (fun y => y))).weak (fun i _ hi => ⟨fun j hj e => by have := (HMN.out j hj).2.1; have := hi.1; omega, by have := hi.1; have := HF2.out.kp.size; omega, fun p hp e => by have := lt_of_heap (HF2.out.still p hp).2.1; have := hi.1; omega, fun m => hi.2 (hM6 i m)⟩)) hg
          have a1 := gt_len (Cmp.ok K) d _ _ hz3
          have a2 := gt_dep (Cmp.ok K) d _ _ hz3
          have HA := Lib.hid (And.intro a1 a2)
          have HZ3 := Lib.hid hz3
          clear hz3 hM6 a1 a2 hg hUy hRy hR6 hn6 hR1 hR2 hR3 hkz
          generalize (wy.setCell ⟨n0 + 1, 5, none⟩ (.slice e5a e5m e5c)).setCell ⟨n0 + 1, 6, none⟩ (.slice e6a e6m e6c) = wz at *
          have HF8 := Lib.hid F8
          have HI8 := Lib.hid I8
          clear F8 I8
          go_wp2_with fail
          go_cut [14] from 78 to 83 (fun s14 wx => s14 = .nilIface ∧ Cmp.Post K wz.drew wx 0 .nilIface ((Cmp.pr K).feS (gt (Cmp.pr K) d t ((Cmp.pr K).fS s1)).2.1))
          case first =>
            go_region_with (first | (go_at_call 21; refine (ctx_at _).mono ?_; rintro e w' ⟨rfl, rfl⟩) | (go_at_call 159; refine (Cmp.readFieldEnd (w := wz.drew) (HI8.out.fresh ((Keep.refl _ wz).drew))).mono ?_; rintro e w5 ⟨rfl, hp5⟩; have HP5 := Lib.hid hp5; clear hp5))
            all_goals
              go_wp2_with fail
              go_simp
              go_meet
              exact ⟨rfl, HP5.out⟩
          case rest =>
          obtain ⟨rfl, hp5⟩ := hcut
          have HF9 := Lib.hid ((Cmp.Frame.fresh h HF8.out HI8.out ((Keep.refl _ wz).drew)).call hp5.keep)
          have HI9 := Lib.hid (hp5.inv rfl)
          clear hp5
          go_wp2_with fail
          go_roundg k
          case measure => exact Nat.lt_succ_self _
          case rel =>
            have ok := Cmp.ok K
            have a1 := HA.out
            have a2 := HNUM.out
            have a3 := ok.fe (gt (Cmp.pr K) d t ((Cmp.pr K).fS s1)).2.1
            have a4 := ok.dfe (gt (Cmp.pr K) d t ((Cmp.pr K).fS s1)).2.1
            have a5 := ok.f s1 HZ.out
            have a6 := ok.df s1 HZ.out
            refine ⟨_, _, _, _, _, _, HI9.out, HF9.out, by omega, ?_, by omega, by omega, by simp; omega, by simp; omega⟩
            rw [← HF.out]
            have e0 := gflds_ok (p := Cmp.pr K) (f := gt (Cmp.pr K) d) (n := k) (s := s1) (ids := ids) (l := vs) HZ.out HNE.out (by rw [← HTT.out]; exact HZ3.out)
            rw [← HTT.out, ← HID.out] at e0
            exact e0.symm
        · obtain ⟨tt, x, rfl⟩ := HP3.out.err.held hz3
          have HZ3 := Lib.hid hz3
          have HKZ := Lib.hid hkz
          have HRZ := Lib.hid hRz
          clear hz3 hg hUy hRy hR6 hn6 hR1 hR2 hR3 hkz
          generalize (wy.setCell ⟨n0 + 1, 5, none⟩ (.slice e5a e5m e5c)).setCell ⟨n0 + 1, 6, none⟩ (.slice e6a e6m e6c) = wz at *
          obtain ⟨x0, x1, x2, x3, x4, x5, x6⟩ := got_cells hUz
          obtain ⟨r0, r1, r2, r3, r4, r5, r6⟩ := got_cells hRz
          obtain ⟨z0, z1, z2, z3, z4, z5, z6⟩ := got_free hRz
          clear hUz hRz
          go_wp2_with fail
          have hk9 := val_keep (M := fun i => n0 + 1 = i ∨ ((Value.slice Ia Im Ic).ownBlock = some i ∨ (Value.slice La Lm Lc).ownBlock = some i) ∨ n0 = i) (HKZ.out.weak (fun i _ e => e.elim .inl (fun e => .inr (.inl e)))) (R := n0) (fun _ => .inr (.inr rfl)) (.int .i64 12) (.int .i64 0) (.slice none 0 0) (.int .i64 0) (.int .i64 0) (.slice e5a e5m e5c) (.slice e6a e6m e6c)
          refine ret_cell2 (U := n0) (T := 38) Tryz.results50 rfl rfl rfl (val_set HRZ.out (.int .i64 12) (.int .i64 0) (.slice none 0 0) (.int .i64 0) (.int .i64 0) (.slice e5a e5m e5c) (.slice e6a e6m e6c)) Tryz.underlying38 ival_size ?_
          have hth := Cmp.thru h HF2.out.kp (HP2.out.inv HZ.out) HP3.out hk9 (fun i e => by
            rcases e with e | (e | e) | e
            · have := HMN.out i (.inl e); exact ⟨this.1, this.2.1, this.2.2.2⟩
            · have := HMN.out i (.inr (.inl e)); exact ⟨this.1, this.2.1, this.2.2.2⟩
            · have := HMN.out i (.inr (.inr e)); exact ⟨this.1, this.2.1, this.2.2.2⟩
            · subst e
              obtain ⟨q1, q2, q3⟩ := HF2.out.still (n0, zVal, 38) (by simp)
              exact ⟨q1, lt_of_heap q2, q3⟩)
          have e1 : tot = ((gt (Cmp.pr K) d t ((Cmp.pr K).fS s1)).1, (gt (Cmp.pr K) d t ((Cmp.pr K).fS s1)).2.1, V.zero) := by
            rw [← HF.out]
            have e0 := gflds_bad (p := Cmp.pr K) (f := gt (Cmp.pr K) d) (n := k) (s := s1) (ids := ids) (l := vs) HZ.out HNE.out (by rw [← HTT.out]; exact HZ3.out)
            rw [← HTT.out] at e0
            exact e0
          rw [e1]
          exact ⟨12, 0, none, 0, 0, 0, 0, e5a, e5m, e5c, e6a, e6m, e6c, _, rfl, hth.1, fun hz => absurd hz HZ3.out⟩
    · obtain ⟨tt, x, rfl⟩ := HP2.out.err.held hz
      have HZ := Lib.hid hz
      obtain ⟨x0, x1, x2, x3, x4, x5, x6⟩ := got_cells HF2.out.vb.blk
      obtain ⟨r0, r1, r2, r3, r4, r5, r6⟩ := got_cells hR2
      obtain ⟨z0, z1, z2, z3, z4, z5, z6⟩ := got_free hR2
      clear hz hv2 hR1 hR2 hR3
      go_wp2_with fail
      have hk9 := val_keep (M := fun i => n0 = i) (Keep.refl _ wc) (R := n0) (fun _ => rfl) (.int .i64 12) (.int .i64 0) (.slice none 0 0) (.int .i64 0) (.int .i64 0) (.slice Ia Im Ic) (.slice La Lm Lc)
      refine ret_cell2 (U := n0) (T := 38) Tryz.results50 rfl rfl rfl (val_set HR2.out (.int .i64 12) (.int .i64 0) (.slice none 0 0) (.int .i64 0) (.int .i64 0) (.slice Ia Im Ic) (.slice La Lm Lc)) Tryz.underlying38 ival_size ?_
      have hth := Cmp.thru h HFD.out.kp (hi1.fresh ((Keep.refl _ wr).drew)) HP2.out hk9 (fun i e => by
        subst e
        obtain ⟨q1, q2, q3⟩ := HFD.out.still (n0, zVal, 38) (by simp)
        exact ⟨q1, lt_of_heap q2, q3⟩)
      have e1 : tot = ((Cmp.pr K).fK s1, (Cmp.pr K).fS s1, V.zero) := by
        rw [← HF.out]
        exact gflds_err HZ.out
      rw [e1]
      exact ⟨12, 0, none, 0, 0, 0, 0, Ia, Im, Ic, La, Lm, Lc, _, rfl, hth.1, fun hz => absurd hz HZ.out⟩

end Go.Proofs.YtnccjcbelcbgoaaGreatDoor

/- The thin package: get of a set. -/
namespace Go.Proofs.YtnccjcbelcbgoaaGreatDoor
open Go Go.RowKit

set_option maxRecDepth 100000 in
set_option maxHeartbeats 4000000 in
theorem Cmp.getList11 (K : Cmp.Ctx) (d : Nat) (ih : Cmp.Gets K d) (deep : Int) (s : Cmp.St) (w : World) (hdd : deep.toNat = d + 1) (hd : 0 < deep) (hhi : deep ≤ 9223372036854775807) (h : Cmp.Inv K s w) (hroom : (Cmp.pr K).Room s) :
    Calls Tryz.prog 52 #[Cmp.V K, .agg (valC 14 0 nilB 0 0 (.slice none 0 0) (.slice none 0 0)), .int .i64 11, .int .i64 deep] w (Cmp.GetP K (d + 1) w (gt (Cmp.pr K) (d + 1) 14 s)) := by
  have hk0 : Keep (fun _ => False) w ((w.alloc (.cells (valC 14 0 nilB 0 0 (.slice none 0 0) (.slice none 0 0)) 38 (0, 0))).alloc (.cells zVal 38 (0, 0))) := ((Keep.refl _ w).alloc _).alloc _
  have hU0 : ((w.alloc (.cells (valC 14 0 nilB 0 0 (.slice none 0 0) (.slice none 0 0)) 38 (0, 0))).alloc (.cells zVal 38 (0, 0))).heap[w.heap.size]? = some (.cells (valC 14 0 nilB 0 0 (.slice none 0 0) (.slice none 0 0)) 38 (0, 0)) := (Below.heap_alloc _ _ _ (by simp)).trans (heap_alloc_new w _)
  have hR0 : ((w.alloc (.cells (valC 14 0 nilB 0 0 (.slice none 0 0) (.slice none 0 0)) 38 (0, 0))).alloc (.cells zVal 38 (0, 0))).heap[w.heap.size + 1]? = some (.cells zVal 38 (0, 0)) := heap_alloc_at (by simp) _
  have hs0 : ((w.alloc (.cells (valC 14 0 nilB 0 0 (.slice none 0 0) (.slice none 0 0)) 38 (0, 0))).alloc (.cells zVal 38 (0, 0))).heap.size = w.heap.size + 2 := by simp
  by_cases hz : (Cmp.pr K).lK s = 0
  · by_cases hbig : (Cmp.pr K).lN s > 100000
    · have e0 : gt (Cmp.pr K) (d + 1) 14 s = (52, (Cmp.pr K).lS s, V.zero) := by simp [gt, isSc, hz, hbig]
      rw [e0]
      have HZ := Lib.hid hz
      have HB := Lib.hid hbig
      clear hroom hdd hz hbig e0
      go_enter Tryz.func52, Tryz.ntmps52
      go_wp2_with fail
      obtain ⟨n0, hn⟩ : ∃ n0, w.heap.size = n0 := ⟨_, rfl⟩
      rw [hn] at hU0 hR0 hs0 ⊢
      generalize (w.alloc (.cells (valC 14 0 nilB 0 0 (.slice none 0 0) (.slice none 0 0)) 38 (0, 0))).alloc (.cells zVal 38 (0, 0)) = w1 at *
      have HN := Lib.hid hn
      have HU0 := Lib.hid hU0
      have HR0 := Lib.hid hR0
      have HS0 := Lib.hid hs0
      have HM := Lib.hid (Cmp.M_new h hk0)
      clear hn hU0 hR0 hs0
      refine (Cmp.begun11 K s w1 (h.fresh hk0)).mono ?_
      rintro e w2 ⟨t, n, ev, rfl, hp, hv⟩
      have hU2 := (hp.keep.block n0 (lt_of_heap HU0.out) (fun x => by have := HM.out _ x; have := HN.out; omega)).trans HU0.out
      have hR2 := (hp.keep.block (n0 + 1) (lt_of_heap HR0.out) (fun x => by have := HM.out _ x; have := HN.out; omega)).trans HR0.out
      have HP := Lib.hid hp
      have HU2 := Lib.hid hU2
      have HR2 := Lib.hid hR2
      obtain ⟨ht, hn⟩ := hv HZ.out
      have hev : ev = .nilIface := by have := hp.err; rw [HZ.out] at this; exact this.isNil
      subst hev
      have hnb : 100000 < n := by have := HB.out; omega
      have hlt2 := lt_of_heap hU2
      have hU3 := (Below.heap_alloc w2 (.cells (gotA 0 t 0 n 0 0 nilB) 148 (0, 0)) _ hlt2).trans hU2
      have hne1 : ¬ n0 = w2.heap.size := by omega
      have hne2 : ¬ w2.heap.size = n0 := by omega
      obtain ⟨x0, x1, x2, x3, x4, x5, x6⟩ := got_cells hU3
      obtain ⟨y0, y1, y2, y3, y4, y5, y6⟩ := got_free hU3
      clear hv ht hn hp hU2 hR2 hU3
      go_wp2_with (with_reducible refine wpList_named 31 rfl ?_)
      intro w4 hw4
      have hk3 : Keep (fun i => n0 = i) w2 w4 := by rw [← hw4]; exact ((Keep.refl _ w2).set n0 4 (fun _ => rfl) _).alloc _
      have hU4 : w4.heap[n0]? = some (.cells (valC 14 0 nilB 0 t (.slice none 0 0) (.slice none 0 0)) 38 (0, 0)) := by rw [← hw4]; exact (Below.heap_alloc _ _ _ (by simpa [World.setCell] using hlt2)).trans (by simpa using heap_set_same (i := 4) HU2.out (.int .i64 t))
      have hR4 := (hk3.block (n0 + 1) (lt_of_heap HR2.out) (by omega)).trans HR2.out
      clear hw4 x0 x1 x2 x3 x4 x5 x6 y0 y1 y2 y3 y4 y5 y6
      have HK3 := Lib.hid hk3
      have HR4 := Lib.hid hR4
      obtain ⟨p0, p1, p2, p3, p4, p5, p6⟩ := got_cells hU4
      obtain ⟨q0, q1, q2, q3, q4, q5, q6⟩ := got_cells hR4
      obtain ⟨o0, o1, o2, o3, o4, o5, o6⟩ := got_free hR4
      clear hU4 hR4 hk3
      go_wp2_with fail
      have hk9 := val_keep (M := fun i => n0 ≤ i ∧ i < n0 + 2) (HK3.out.weak (fun i _ e => by omega)) (R := n0 + 1) (fun _ => by omega) (.int .i64 14) (.int .i64 0) (.slice none 0 0) (.int .i64 0) (.int .i64 t) (.slice none 0 0) (.slice none 0 0)
      refine ret_cell2 (U := n0 + 1) (T := 38) Tryz.results52 rfl rfl rfl (val_set HR4.out (.int .i64 14) (.int .i64 0) (.slice none 0 0) (.int .i64 0) (.int .i64 t) (.slice none 0 0) (.slice none 0 0)) Tryz.underlying38 ival_size ?_
      have hn0 := HN.out
      have hs1 := HS0.out
      exact ⟨14, 0, none, 0, 0, 0, t, none, 0, 0, none, 0, 0, _, rfl, Cmp.through h hk0 (HP.out.own 52 (by decide) (by decide)) hk9 (fun i hi => by omega), fun hz => absurd hz (by show ¬ (52 : Int) = 0; decide)⟩
    · obtain ⟨tot, htot⟩ : ∃ tot, gseq (gt (Cmp.pr K) d ((Cmp.pr K).lT s)) ((Cmp.pr K).lN s).toNat ((Cmp.pr K).lS s) [] = tot := ⟨_, rfl⟩
      have e0 : gt (Cmp.pr K) (d + 1) 14 s = gend (Cmp.pr K).leS (fun l => .mk 14 0 [] 0 ((Cmp.pr K).lT s) [] l) tot := by rw [← htot]; simp [gt, isSc, hz, hbig]
      rw [e0]
      have HT := Lib.hid htot
      have HRM := Lib.hid hroom
      have hd1 : (deep - 1).toNat = d := by omega
      have HD := Lib.hid hd1
      have HDD := Lib.hid hdd
      have HZ := Lib.hid hz
      have HB := Lib.hid hbig
      clear htot hroom hd1 hdd hz hbig e0
      go_enter Tryz.func52, Tryz.ntmps52
      go_wp2_with fail
      obtain ⟨n0, hn⟩ : ∃ n0, w.heap.size = n0 := ⟨_, rfl⟩
      rw [hn] at hU0 hR0 hs0 ⊢
      generalize (w.alloc (.cells (valC 14 0 nilB 0 0 (.slice none 0 0) (.slice none 0 0)) 38 (0, 0))).alloc (.cells zVal 38 (0, 0)) = w1 at *
      have HN := Lib.hid hn
      have HU0 := Lib.hid hU0
      have HR0 := Lib.hid hR0
      have HS0 := Lib.hid hs0
      have HM := Lib.hid (Cmp.M_new h hk0)
      clear hn hU0 hR0 hs0
      refine (Cmp.begun11 K s w1 (h.fresh hk0)).mono ?_
      rintro e w2 ⟨t, n, ev, rfl, hp, hv⟩
      obtain ⟨ht, hn⟩ := hv HZ.out
      have hev : ev = .nilIface := by have := hp.err; rw [HZ.out] at this; exact this.isNil
      subst hev
      have hnb : n ≤ 100000 := by have := HB.out; omega
      have HTT := Lib.hid ht
      have HNN := Lib.hid hn
      have hU2 := (hp.keep.block n0 (lt_of_heap HU0.out) (fun x => by have := HM.out _ x; have := HN.out; omega)).trans HU0.out
      have hR2 := (hp.keep.block (n0 + 1) (lt_of_heap HR0.out) (fun x => by have := HM.out _ x; have := HN.out; omega)).trans HR0.out
      have HP := Lib.hid hp
      have HU2 := Lib.hid hU2
      have HR2 := Lib.hid hR2
      have hlt2 := lt_of_heap hU2
      have hU3 := (Below.heap_alloc w2 (.cells (gotA 0 t 0 n 0 0 nilB) 148 (0, 0)) _ hlt2).trans hU2
      have hne1 : ¬ n0 = w2.heap.size := by omega
      have hne2 : ¬ w2.heap.size = n0 := by omega
      obtain ⟨x0, x1, x2, x3, x4, x5, x6⟩ := got_cells hU3
      obtain ⟨y0, y1, y2, y3, y4, y5, y6⟩ := got_free hU3
      clear hv ht hn hp hU2 hR2 hU3
      go_wp2_with fail
      have hk3 : Keep (fun i => n0 = i) w2 ((w2.setCell ⟨n0, 4, none⟩ (.int .i64 t)).alloc (.cells (gotA 0 t 0 n 0 0 nilB) 148 (0, 0))) := ((Keep.refl _ w2).set n0 4 (fun _ => rfl) _).alloc _
      have hU4 : ((w2.setCell ⟨n0, 4, none⟩ (.int .i64 t)).alloc (.cells (gotA 0 t 0 n 0 0 nilB) 148 (0, 0))).heap[n0]? = some (.cells (valC 14 0 nilB 0 t (.slice none 0 0) (.slice none 0 0)) 38 (0, 0)) := (Below.heap_alloc _ _ _ (by simpa [World.setCell] using hlt2)).trans (by simpa using heap_set_same (i := 4) HU2.out (.int .i64 t))
      have hG4 : ((w2.setCell ⟨n0, 4, none⟩ (.int .i64 t)).alloc (.cells (gotA 0 t 0 n 0 0 nilB) 148 (0, 0))).heap[w2.heap.size]? = some (.cells (gotA 0 t 0 n 0 0 nilB) 148 (0, 0)) := heap_alloc_at (by simp [World.setCell]) _
      have hR4 := (hk3.block (n0 + 1) (lt_of_heap HR2.out) (by omega)).trans HR2.out
      generalize hw4 : (w2.setCell ⟨n0, 4, none⟩ (.int .i64 t)).alloc (.cells (gotA 0 t 0 n 0 0 nilB) 148 (0, 0)) = w4 at *
      clear hw4 x0 x1 x2 x3 x4 x5 x6 y0 y1 y2 y3 y4 y5 y6
      obtain ⟨G, hG⟩ : ∃ G, w2.heap.size = G := ⟨_, rfl⟩
      rw [hG] at hG4 hne1 hne2 hlt2 ⊢
      have HG := Lib.hid hG
      have HU4 := Lib.hid hU4
      have HG4 := Lib.hid hG4
      have HR4 := Lib.hid hR4
      have HK3 := Lib.hid hk3
      clear hU4 hG4 hR4 hk3 hG
      go_loopg [35] n.toNat (fun k v wr => Cmp.GRel K w n0 [(n0 + 1, zVal, 38), (G, gotA 0 t 0 n 0 0 nilB, 148)] d 14 0 t (fun q l k => gseq (gt (Cmp.pr K) d ((Cmp.pr K).lT s)) k q l) n 1 tot k v wr)
      case atStart =>
        have hN := HN.out
        have hnM : ∀ j, n0 ≤ j → j < w1.heap.size → ¬ Cmp.M K w2 j := fun j hj hl => HP.out.keep.not hl (fun x => by have := HM.out _ x; omega)
        have hs1 := HS0.out
        obtain ⟨j1, j2, j3⟩ := Cmp.turn h ((Cmp.kept h hk0).then HP.out.keep) (HP.out.inv HZ.out) HK3.out (fun i e => by subst e; exact ⟨by omega, hnM _ (Nat.le_refl _) (by omega)⟩)
        have hlt := Cmp.M_lt (HP.out.inv HZ.out)
        have hGs := HG.out
        have hp2 := HP.out.keep.size
        refine ⟨0, _, [], _, [], rfl, by omega, by rw [Int.sub_zero], by simp, j1, ⟨j2, ivb_start HU4.out ⟨by omega, by simp; omega, fun m => hnM _ (Nat.le_refl _) (by omega) (j3 _ m)⟩ (fun i x => x.1), ?_⟩, by rw [HNN.out]; show gseq _ _ _ _ = _; exact HT.out, ?_⟩
        · intro p hp
          simp only [List.mem_cons, List.not_mem_nil, or_false] at hp
          rcases hp with rfl | rfl
          · exact ⟨by show w.heap.size ≤ n0 + 1; omega, HR4.out, fun m => hnM _ (by omega) (by omega) (j3 _ m)⟩
          · exact ⟨by show w.heap.size ≤ G; omega, HG4.out, fun m => by have := hlt _ (j3 _ m); omega⟩
        · have a1 := (Cmp.ok K).l s HZ.out
          have a2 := (Cmp.ok K).dl s HZ.out
          have a3 : _ + _ < _ := HRM.out
          show _ + _ < _
          omega
      case round =>
        obtain ⟨i, s1, vs, lv, rows, rfl, hi0, hk, hvl, hi1, hfr, hgs, hrm⟩ := hrel
        obtain ⟨hR1, hR2, hR3⟩ := hfr.still (n0 + 1, zVal, 38) (by simp)
        obtain ⟨hG1, hG2, hG3⟩ := hfr.still (G, gotA 0 t 0 n 0 0 nilB, 148) (by simp)
        by_cases hin : i < n
        · cases gk with
          | zero => omega
          | succ k =>
          have HK := Lib.hid hk
          have HGS := Lib.hid hgs
          have HFR := Lib.hid hfr
          have HVL := Lib.hid hvl
          obtain ⟨u0, u1, u2, u3, u4, u5, u6⟩ := got_cells hG2
          clear hk hgs hfr hR1 hR2 hR3 hG1 hG2 hG3
          go_wp2_with fail
          refine (typ_at t _).mono ?_
          rintro e w' ⟨rfl, rfl⟩
          go_wp2_with fail
          have hb8 := Cmp.lT_bd K s
          have h8 : ty8 t = (Cmp.pr K).lT s := by rw [HTT.out]; exact ty8_id hb8
          rw [h8]
          clear h8
          refine (ih (deep - 1) _ s1 wr HD.out (by omega) (by omega) hb8.1 hb8.2 hi1 hrm).mono ?_
          rintro e w3 ⟨T', N', Sa, Sm, Sc, KT', E', Ia, Im, Ic, La, Lm, Lc, ev, rfl, hp3, hval⟩
          have HF3 := Lib.hid (HFR.out.call hp3.keep)
          have hU5 := HF3.out.vb.blk
          have hUl := lt_of_heap hU5
          have hU6 := (Below.heap_alloc w3 (.cells (valC T' N' (.slice Sa Sm Sc) KT' E' (.slice Ia Im Ic) (.slice La Lm Lc)) 38 (0, 0)) _ hUl).trans hU5
          have hne3 : ¬ n0 = w3.heap.size := by omega
          have hne4 : ¬ w3.heap.size = n0 := by omega
          have HP3 := Lib.hid hp3
          have HVAL := Lib.hid hval
          obtain ⟨x0, x1, x2, x3, x4, x5, x6⟩ := got_cells hU6
          clear hp3 hval hU6 hU5 hb8
          obtain ⟨vi, hvi, hvz, hvs, hvb⟩ := ival_info
          have hvs1 : vs.length + 1 ≤ 100000 := by have := HVL.out; omega
          have hnews := new_cells (w3.alloc (.cells (valC T' N' (.slice Sa Sm Sc) KT' E' (.slice Ia Im Ic) (.slice La Lm Lc)) 38)) (valC T' N' (.slice Sa Sm Sc) KT' E' (.slice Ia Im Ic) (.slice La Lm Lc)) 38
          rw [show (w3.alloc (.cells (valC T' N' (.slice Sa Sm Sc) KT' E' (.slice Ia Im Ic) (.slice La Lm Lc)) 38)).heap.size = w3.heap.size + 1 by simp] at hnews
          have hone : ∀ u ∈ ((valC T' N' (.slice Sa Sm Sc) KT' E' (.slice Ia Im Ic) (.slice La Lm Lc))).toList, u.oneCell' = true := by
            intro u hu
            simp only [List.mem_cons, List.not_mem_nil, or_false] at hu
            rcases hu with rfl | rfl | rfl | rfl | rfl | rfl | rfl <;> rfl
          have hb0 : w.heap.size ≤ ((w3.alloc (.cells (valC T' N' (.slice Sa Sm Sc) KT' E' (.slice Ia Im Ic) (.slice La Lm Lc)) 38)).alloc (.cells (valC T' N' (.slice Sa Sm Sc) KT' E' (.slice Ia Im Ic) (.slice La Lm Lc)) 38)).heap.size := by have := HF3.out.kp.size; simp; omega
          have hmx : vs.length + 1 ≤ maxLen := by simp only [maxLen]; omega
          go_wp2_with (at_builtin; refine wpList_append_own_at _ rfl (.tmp 48) (.tmp 50) 36 rfl w.heap.size 38 vi (.agg zVal) 7 104 Tryz.underlying36 hvi hvz hvs hvb rfl (by decide) lv vs.length rows.flatten rfl ((HF3.out.vb.parts.alloc _).alloc _) ⟨w3.heap.size + 1, 0, none⟩ 1 1 ((valC T' N' (.slice Sa Sm Sc) KT' E' (.slice Ia Im Ic) (.slice La Lm Lc))).toList rfl rfl hnews hone hmx (by omega) hb0 ?_)
          intro v' w7 hown hgrow hnil hat
          obtain ⟨va, vm, vc, rfl⟩ := own_shape hown
          have hmn := HFR.out.mine
          have hkk : Keep (fun _ => False) w3 ((w3.alloc (.cells (valC T' N' (.slice Sa Sm Sc) KT' E' (.slice Ia Im Ic) (.slice La Lm Lc)) 38)).alloc (.cells (valC T' N' (.slice Sa Sm Sc) KT' E' (.slice Ia Im Ic) (.slice La Lm Lc)) 38)) := ((Keep.refl _ w3).alloc _).alloc _
          have hk7 : Keep (fun i => lv.ownBlock = some i) w3 w7 := (hkk.weak (fun _ _ x => x.elim)).grown hgrow (fun k e _ => e)
          have hU7 := (hk7.block n0 hUl HF3.out.vb.neL).trans HF3.out.vb.blk
          obtain ⟨hR1, hR2, hR3⟩ := HF3.out.still (n0 + 1, zVal, 38) (by simp)
          have hR7 := (hk7.block (n0 + 1) (lt_of_heap hR2) (fun e => (hmn _ (.inr (.inr e))).2.2.1 (n0 + 1, zVal, 38) (by simp) rfl)).trans hR2
          have HOWN := Lib.hid hown
          have HGROW := Lib.hid hgrow
          have HAT := Lib.hid hat
          have HK7 := Lib.hid hk7
          have HKK := Lib.hid hkk
          have HR7 := Lib.hid hR7
          have HMN := Lib.hid hmn
          clear x0 x1 x2 x3 x4 x5 x6 hnews hone hb0 hmx hown hgrow hat hnil hk7 hkk hR1 hR2 hR3 hmn hvi hvz hvs hvb
          obtain ⟨x0, x1, x2, x3, x4, x5, x6⟩ := got_cells hU7
          obtain ⟨y0, y1, y2, y3, y4, y5, y6⟩ := got_free hU7
          clear hU7
          by_cases hz3 : (gt (Cmp.pr K) d ((Cmp.pr K).lT s) s1).1 = 0
          · have hev : ev = .nilIface := by have := HP3.out.err; rw [hz3] at this; exact this.isNil
            subst hev
            have HZ3 := Lib.hid hz3
            clear hz3
            go_wp2_with fail
            go_roundg k
            case measure => exact Nat.lt_succ_self _
            case rel =>
              have i3 := HP3.out.inv HZ3.out
              have hM6 := (Cmp.turn h HF3.out.kp i3 HKK.out (fun _ x => x.elim)).2.2
              obtain ⟨F8, I8⟩ := Cmp.Frame.part (x := (gt (Cmp.pr K) d ((Cmp.pr K).lT s) s1).2.2) h (Cmp.Frame.fresh h HF3.out i3 HKK.out) (i3.fresh HKK.out)
                (((HVAL.out HZ3.out).keep HKK.out (fun _ _ => id)).weak (fun i _ hi => ⟨fun j hj e => by have := (HMN.out j hj).2.1; have := hi.1; omega, by have := hi.1; have := HFR.out.kp.size; omega, fun p hp e => by have := lt_of_heap (HFR.out.still p hp).2.1; have := hi.1; omega, fun m => hi.2 (hM6 i m)⟩)) HOWN.out HGROW.out (by simpa using HAT.out)
              refine ⟨i + 1, _, _, _, _, rfl, by omega, by have := HK.out; omega, by have := HVL.out; simp; omega, I8, F8, ?_, ?_⟩
              · show gseq _ _ _ _ = _
                rw [← HGS.out]
                exact (gseq_ok HZ3.out).symm
              · have a1 := gt_len (Cmp.ok K) d _ _ HZ3.out
                have a2 := gt_dep (Cmp.ok K) d _ _ HZ3.out
                have a3 : _ + _ < _ := hrm
                show _ + _ < _
                omega
          · obtain ⟨tt, x, rfl⟩ := HP3.out.err.held hz3
            have HZ3 := Lib.hid hz3
            clear hz3
            obtain ⟨r0, r1, r2, r3, r4, r5, r6⟩ := got_cells HR7.out
            obtain ⟨z0, z1, z2, z3, z4, z5, z6⟩ := got_free HR7.out
            go_wp2_with fail
            have hR8 : (w7.setCell ⟨n0, 6, none⟩ (.slice va vm vc)).heap[n0 + 1]? = some (.cells zVal 38 (0, 0)) := (heap_set_other (p := ⟨n0, 6, none⟩) _ (by simp)).trans HR7.out
            have hk9 := val_keep (M := fun i => n0 = i ∨ lv.ownBlock = some i ∨ n0 + 1 = i) ((HK7.out.weak (fun i _ e => .inr (.inl e))).set n0 6 (fun _ => .inl rfl) (.slice va vm vc)) (R := n0 + 1) (fun _ => .inr (.inr rfl)) (.int .i64 14) (.int .i64 0) (.slice none 0 0) (.int .i64 0) (.int .i64 t) (.slice none 0 0) (.slice va vm vc)
            refine ret_cell2 (U := n0 + 1) (T := 38) Tryz.results52 rfl rfl rfl (val_set hR8 (.int .i64 14) (.int .i64 0) (.slice none 0 0) (.int .i64 0) (.int .i64 t) (.slice none 0 0) (.slice va vm vc)) Tryz.underlying38 ival_size ?_
            have hth := Cmp.thru h HFR.out.kp hi1 HP3.out hk9 (fun i e => by
              rcases e with e | e | e
              · have := HMN.out i (.inl e); exact ⟨this.1, this.2.1, this.2.2.2⟩
              · have := HMN.out i (.inr (.inr e)); exact ⟨this.1, this.2.1, this.2.2.2⟩
              · subst e
                obtain ⟨q1, q2, q3⟩ := HFR.out.still (n0 + 1, zVal, 38) (by simp)
                exact ⟨q1, lt_of_heap q2, q3⟩)
            have e1 : gend (Cmp.pr K).leS (fun l => .mk 14 0 [] 0 ((Cmp.pr K).lT s) [] l) tot = ((gt (Cmp.pr K) d ((Cmp.pr K).lT s) s1).1, (gt (Cmp.pr K) d ((Cmp.pr K).lT s) s1).2.1, V.zero) := by
              have e2 : tot = ((gt (Cmp.pr K) d ((Cmp.pr K).lT s) s1).1, (gt (Cmp.pr K) d ((Cmp.pr K).lT s) s1).2.1, vs) := by rw [← HGS.out]; exact gseq_bad HZ3.out
              rw [e2]
              exact gend_bad HZ3.out
            rw [e1]
            exact ⟨14, 0, none, 0, 0, 0, t, none, 0, 0, va, vm, vc, _, rfl, hth.1, fun hz => absurd hz HZ3.out⟩
        · have hgk : gk = 0 := by omega
          subst hgk
          obtain ⟨La, Lm, Lc, rfl⟩ := own_shape hfr.vb.parts
          have HGS := Lib.hid hgs
          have HFR := Lib.hid hfr
          clear hk hgs hfr hR1 hR2 hR3 hG1 hG2 hG3
          go_wp2_with fail
          refine (Cmp.begun12 K s1 wr hi1).mono ?_
          rintro e w5 ⟨v, rfl, hp5⟩
          have HF5 := Lib.hid (HFR.out.call hp5.keep)
          obtain ⟨hR1, hR2, hR3⟩ := HF5.out.still (n0 + 1, zVal, 38) (by simp)
          have HR5 := Lib.hid hR2
          have HP5 := Lib.hid hp5
          obtain ⟨x0, x1, x2, x3, x4, x5, x6⟩ := got_cells HF5.out.vb.blk
          obtain ⟨r0, r1, r2, r3, r4, r5, r6⟩ := got_cells hR2
          obtain ⟨z0, z1, z2, z3, z4, z5, z6⟩ := got_free hR2
          clear hR1 hR2 hR3 hp5
          go_wp2_with fail
          have hk9 := val_keep (M := fun i => n0 + 1 = i) (Keep.refl _ w5) (R := n0 + 1) (fun _ => rfl) (.int .i64 14) (.int .i64 0) (.slice none 0 0) (.int .i64 0) (.int .i64 t) (.slice none 0 0) (.slice La Lm Lc)
          refine ret_cell2 (U := n0 + 1) (T := 38) Tryz.results52 rfl rfl rfl (val_set HR5.out (.int .i64 14) (.int .i64 0) (.slice none 0 0) (.int .i64 0) (.int .i64 t) (.slice none 0 0) (.slice La Lm Lc)) Tryz.underlying38 ival_size ?_
          have hth := Cmp.thru h HFR.out.kp hi1 HP5.out hk9 (fun i e => by
            subst e
            obtain ⟨q1, q2, q3⟩ := HFR.out.still (n0 + 1, zVal, 38) (by simp)
            exact ⟨q1, lt_of_heap q2, q3⟩)
          have e1 : gend (Cmp.pr K).leS (fun l => .mk 14 0 [] 0 ((Cmp.pr K).lT s) [] l) tot = (0, (Cmp.pr K).leS s1, .mk 14 0 [] 0 ((Cmp.pr K).lT s) [] vs) := by
            have e2 : tot = (0, s1, vs) := by rw [← HGS.out]; rfl
            rw [e2]
            exact gend_ok rfl
          rw [e1]
          refine ⟨14, 0, none, 0, 0, 0, t, none, 0, 0, La, Lm, Lc, _, rfl, hth.1, fun hz => ?_⟩
          have hv := HF5.out.vb.val (by simp)
          rw [← HTT.out]
          exact (hv.keep hk9 (fun i hi e => hi.2.1 (n0 + 1, zVal, 38) (by simp) e.symm)).weak (fun i _ hi => ⟨hi.1, fun m => hi.2.2 (hth.2 i m)⟩)
  · have e0 : gt (Cmp.pr K) (d + 1) 14 s = ((Cmp.pr K).lK s, (Cmp.pr K).lS s, V.zero) := by simp [gt, isSc, hz]
    rw [e0]
    have HZ := Lib.hid hz
    clear hroom hdd hz e0
    go_enter Tryz.func52, Tryz.ntmps52
    go_wp2_with fail
    obtain ⟨n0, hn⟩ : ∃ n0, w.heap.size = n0 := ⟨_, rfl⟩
    rw [hn] at hU0 hR0 hs0 ⊢
    generalize (w.alloc (.cells (valC 14 0 nilB 0 0 (.slice none 0 0) (.slice none 0 0)) 38 (0, 0))).alloc (.cells zVal 38 (0, 0)) = w1 at *
    have HN := Lib.hid hn
    have HU0 := Lib.hid hU0
    have HR0 := Lib.hid hR0
    have HS0 := Lib.hid hs0
    have HM := Lib.hid (Cmp.M_new h hk0)
    clear hn hU0 hR0 hs0
    refine (Cmp.begun11 K s w1 (h.fresh hk0)).mono ?_
    rintro e w2 ⟨t, n, ev, rfl, hp, hv⟩
    have hU2 := (hp.keep.block n0 (lt_of_heap HU0.out) (fun x => by have := HM.out _ x; have := HN.out; omega)).trans HU0.out
    have hR2 := (hp.keep.block (n0 + 1) (lt_of_heap HR0.out) (fun x => by have := HM.out _ x; have := HN.out; omega)).trans HR0.out
    have HP := Lib.hid hp
    have HU2 := Lib.hid hU2
    have HR2 := Lib.hid hR2
    obtain ⟨tt, x, rfl⟩ := hp.err.held HZ.out
    clear hv hp hU2 hR2
    go_wp2_with (with_reducible refine wpList_named 23 rfl ?_)
    intro w4 hw4
    have hk3 : Keep (fun _ => False) w2 w4 := by rw [← hw4]; exact (Keep.refl _ w2).alloc _
    have hU4 := (hk3.block n0 (lt_of_heap HU2.out) id).trans HU2.out
    have hR4 := (hk3.block (n0 + 1) (lt_of_heap HR2.out) id).trans HR2.out
    clear hw4
    have HK3 := Lib.hid hk3
    have HR4 := Lib.hid hR4
    obtain ⟨p0, p1, p2, p3, p4, p5, p6⟩ := got_cells hU4
    obtain ⟨q0, q1, q2, q3, q4, q5, q6⟩ := got_cells hR4
    obtain ⟨o0, o1, o2, o3, o4, o5, o6⟩ := got_free hR4
    clear hU4 hR4 hk3
    go_wp2_with fail
    have hk9 := val_keep (M := fun i => n0 ≤ i ∧ i < n0 + 2) (HK3.out.weak (fun i _ e => e.elim)) (R := n0 + 1) (fun _ => by omega) (.int .i64 14) (.int .i64 0) (.slice none 0 0) (.int .i64 0) (.int .i64 0) (.slice none 0 0) (.slice none 0 0)
    refine ret_cell2 (U := n0 + 1) (T := 38) Tryz.results52 rfl rfl rfl (val_set HR4.out (.int .i64 14) (.int .i64 0) (.slice none 0 0) (.int .i64 0) (.int .i64 0) (.slice none 0 0) (.slice none 0 0)) Tryz.underlying38 ival_size ?_
    have hn0 := HN.out
    have hs1 := HS0.out
    exact ⟨14, 0, none, 0, 0, 0, 0, none, 0, 0, none, 0, 0, _, rfl, Cmp.through h hk0 HP.out hk9 (fun i hi => by omega), fun hz => absurd hz HZ.out⟩

end Go.Proofs.YtnccjcbelcbgoaaGreatDoor
