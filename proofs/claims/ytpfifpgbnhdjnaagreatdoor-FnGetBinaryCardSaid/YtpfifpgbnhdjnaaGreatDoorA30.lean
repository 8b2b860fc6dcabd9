/- Part 30 of the proof: GetSBin, GetZBin. -/
import Derived.Test.YtpfifpgbnhdjnaaGreatDoorA27
import Derived.Test.YtpfifpgbnhdjnaaGreatDoorA29
import Derived.Test.YtpfifpgbnhdjnaaGreatDoorA17
import Derived.Test.YtpfifpgbnhdjnaaGreatDoorA26
import Derived.Test.YtpfifpgbnhdjnaaGreatDoorA25
set_option linter.unusedVariables false
set_option linter.unusedSimpArgs false
set_option linter.unusedSectionVars false
/- The thin package: get of a struct. -/
namespace Go.Proofs.YtpfifpgbnhdjnaaGreatDoor
open Go Go.RowKit

theorem Bin.na_ReadStructBegin (K : Bin.Ctx) (w : World) : (nilAhead 484 112 (.pointer (some ⟨K.P, 0, none⟩)) "ReadStructBegin").run Tryz.prog w = .ok (some false) w := by kernel_rfl
theorem Bin.na_ReadStructEnd (K : Bin.Ctx) (w : World) : (nilAhead 484 112 (.pointer (some ⟨K.P, 0, none⟩)) "ReadStructEnd").run Tryz.prog w = .ok (some false) w := by kernel_rfl
theorem Bin.na_ReadFieldBegin (K : Bin.Ctx) (w : World) : (nilAhead 484 112 (.pointer (some ⟨K.P, 0, none⟩)) "ReadFieldBegin").run Tryz.prog w = .ok (some false) w := by kernel_rfl
theorem Bin.na_ReadFieldEnd (K : Bin.Ctx) (w : World) : (nilAhead 484 112 (.pointer (some ⟨K.P, 0, none⟩)) "ReadFieldEnd").run Tryz.prog w = .ok (some false) w := by kernel_rfl

/-- What holds ahead of each field. -/
def Bin.SRel (K : Bin.Ctx) (w : World) (U : Nat) (S : List (Nat × Array Value × TypeId)) (d : Nat) (f : Int → Bin.St → Int × Bin.St × _root_.Go.Proofs.YtpfifpgbnhdjnaaGreatDoor.V) (tot : Int × Bin.St × _root_.Go.Proofs.YtpfifpgbnhdjnaaGreatDoor.V) (b k : Nat) (wr : World) : Prop :=
  ∃ s1 ids vs iv lv rows, Bin.Inv K s1 wr ∧ Bin.Frame K w U S d 12 0 0 ids vs iv lv rows wr ∧ (Bin.pr K).len s1 < k ∧ gflds (Bin.pr K) f k s1 ids vs = tot ∧ (Bin.pr K).one ≤ (Bin.pr K).dep s1 ∧ (Bin.pr K).len s1 + (Bin.pr K).dep s1 ≤ b ∧ ids.length = vs.length ∧ vs.length + (Bin.pr K).len s1 ≤ b

theorem gflds_stop {σ : Type} {p : Pr σ} {f : Int → σ → Int × σ × V} {n : Nat} {s : σ} {ids : List Int} {l : List V} (h : p.fK s = 0) (h2 : p.fT s = 0) : gflds p f (n + 1) s ids l = (0, p.seS (p.fS s), .mk 12 0 [] 0 0 ids l) := by
  simp only [gflds]; rw [if_pos h, if_pos h2]
theorem gflds_ok {σ : Type} {p : Pr σ} {f : Int → σ → Int × σ × V} {n : Nat} {s : σ} {ids : List Int} {l : List V} (h : p.fK s = 0) (h2 : ¬ p.fT s = 0) (h3 : (f (p.fT s) (p.fS s)).1 = 0) : gflds p f (n + 1) s ids l = gflds p f n (p.feS (f (p.fT s) (p.fS s)).2.1) (ids ++ [p.fI s]) (l ++ [(f (p.fT s) (p.fS s)).2.2]) := by
  simp only [gflds]; rw [if_pos h, if_neg h2, if_pos h3]
theorem gflds_bad {σ : Type} {p : Pr σ} {f : Int → σ → Int × σ × V} {n : Nat} {s : σ} {ids : List Int} {l : List V} (h : p.fK s = 0) (h2 : ¬ p.fT s = 0) (h3 : ¬ (f (p.fT s) (p.fS s)).1 = 0) : gflds p f (n + 1) s ids l = ((f (p.fT s) (p.fS s)).1, (f (p.fT s) (p.fS s)).2.1, V.zero) := by
  simp only [gflds]; rw [if_pos h, if_neg h2, if_neg h3]
theorem gflds_err {σ : Type} {p : Pr σ} {f : Int → σ → Int × σ × V} {n : Nat} {s : σ} {ids : List Int} {l : List V} (h : ¬ p.fK s = 0) : gflds p f (n + 1) s ids l = (p.fK s, p.fS s, V.zero) := by
  simp only [gflds]; rw [if_neg h]

set_option maxRecDepth 100000 in
set_option maxHeartbeats 8000000 in
theorem Bin.getStruct (K : Bin.Ctx) (d : Nat) (ih : Bin.Gets K d) (deep : Int) (s : Bin.St) (w : World) (hdd : deep.toNat = d + 1) (hd : 0 < deep) (hhi : deep ≤ 9223372036854775807) (h : Bin.Inv K s w) (hroom : (Bin.pr K).Room s) :
    Calls Tryz.prog 49 #[Bin.V K, .int .i64 deep] w (Bin.GetP K (d + 1) w (gflds (Bin.pr K) (gt (Bin.pr K) d) ((Bin.pr K).len ((Bin.pr K).sbS s) + 1) ((Bin.pr K).sbS s) [] [])) := by
  obtain ⟨tot, htot⟩ : ∃ tot, gflds (Bin.pr K) (gt (Bin.pr K) d) ((Bin.pr K).len ((Bin.pr K).sbS s) + 1) ((Bin.pr K).sbS s) [] [] = tot := ⟨_, rfl⟩
  rw [htot]
  have HT := Lib.hid htot
  have hR : (Bin.pr K).len s + (Bin.pr K).dep s < 1099511627776 := hroom
  have HRM := Lib.hid hR
  have hd1 : (deep - 1).toNat = d := by omega
  have HD := Lib.hid hd1
  have HDD := Lib.hid hdd
  clear htot hroom hd1 hdd hR
  have hna := Bin.na_ReadStructBegin K
  have hnb := Bin.na_ReadStructEnd K
  have hnc := Bin.na_ReadFieldBegin K
  have hnd := Bin.na_ReadFieldEnd K
  have hk0 : Keep (fun _ => False) w ((w.alloc (.cells zVal 34 (0, 0))).alloc (.cells (valC 12 0 nilB 0 0 (.slice none 0 0) (.slice none 0 0)) 34 (0, 0))) := ((Keep.refl _ w).alloc _).alloc _
  have hR0 : ((w.alloc (.cells zVal 34 (0, 0))).alloc (.cells (valC 12 0 nilB 0 0 (.slice none 0 0) (.slice none 0 0)) 34 (0, 0))).heap[w.heap.size]? = some (.cells zVal 34 (0, 0)) := (Below.heap_alloc _ _ _ (by simp)).trans (heap_alloc_new w _)
  have hU0 : ((w.alloc (.cells zVal 34 (0, 0))).alloc (.cells (valC 12 0 nilB 0 0 (.slice none 0 0) (.slice none 0 0)) 34 (0, 0))).heap[w.heap.size + 1]? = some (.cells (valC 12 0 nilB 0 0 (.slice none 0 0) (.slice none 0 0)) 34 (0, 0)) := heap_alloc_at (by simp) _
  have hs0 : ((w.alloc (.cells zVal 34 (0, 0))).alloc (.cells (valC 12 0 nilB 0 0 (.slice none 0 0) (.slice none 0 0)) 34 (0, 0))).heap.size = w.heap.size + 2 := by simp
  go_enter Tryz.func49, Tryz.ntmps49
  go_wp2_with fail
  obtain ⟨n0, hn⟩ : ∃ n0, w.heap.size = n0 := ⟨_, rfl⟩
  rw [hn] at hU0 hR0 hs0 ⊢
  generalize (w.alloc (.cells zVal 34 (0, 0))).alloc (.cells (valC 12 0 nilB 0 0 (.slice none 0 0) (.slice none 0 0)) 34 (0, 0)) = w1 at *
  have HN := Lib.hid hn
  have HU0 := Lib.hid hU0
  have HR0 := Lib.hid hR0
  have HS0 := Lib.hid hs0
  have HM := Lib.hid (Bin.M_new h hk0)
  clear hn hU0 hR0 hs0
  go_cut [7, 8] from 16 to 24 (fun s7 s8 wx => s8 = .nilIface ∧ Bin.Post K w1.drew wx 0 .nilIface ((Bin.pr K).sbS s))
  case first =>
    go_region_with (first | (go_at_call 39; refine (ctx_at _).mono ?_; rintro e w' ⟨rfl, rfl⟩) | (go_at_call 249; refine (Bin.readStructBegin (w := w1.drew) (h.fresh hk0.drew) (by have := HRM.out; omega)).mono ?_; rintro e w2 ⟨l, rfl, hp⟩; have HP := Lib.hid hp; clear hp))
    all_goals
      go_wp2_with fail
      go_simp
      go_meet
      exact ⟨rfl, HP.out⟩
  case rest =>
  obtain ⟨rfl, hp⟩ := hcut
  have hs1 := HS0.out
  have hN := HN.out
  have hl0 : n0 < w1.heap.size := by omega
  have hl1 : n0 + 1 < w1.heap.size := by omega
  have hR2 := (hp.keep.block n0 (by simpa using hl0) (fun x => by have := HM.out _ x; omega)).trans HR0.out
  have hU2 := (hp.keep.block (n0 + 1) (by simpa using hl1) (fun x => by have := HM.out _ x; omega)).trans HU0.out
  have HP := Lib.hid hp
  have HU2 := Lib.hid hU2
  have HR2 := Lib.hid hR2
  clear hp hU2 hR2 hs1 hN hl0 hl1
  go_wp2_with fail
  go_loopg [] ((Bin.pr K).len ((Bin.pr K).sbS s) + 1) (fun k wr => Bin.SRel K w (n0 + 1) [(n0, zVal, 34)] d (gt (Bin.pr K) d) tot ((Bin.pr K).len s + (Bin.pr K).dep s + (Bin.pr K).one) k wr)
  case atStart =>
    have hN := HN.out
    have hs1 := HS0.out
    have hnM : ∀ j, n0 ≤ j → j < w1.heap.size → ¬ Bin.M K wc j := fun j hj hl => HP.out.keep.not (by simpa using hl) (fun x => by have := HM.out _ x; omega)
    have ok := Bin.ok K
    have e1 := ok.dsb s
    have e2 := ok.sb s
    refine ⟨_, [], [], _, _, [], HP.out.inv rfl, ⟨(Bin.kept h hk0.drew).then HP.out.keep, ivb_start HU2.out ⟨by omega, by simp, hnM _ (by omega) (by omega)⟩ (fun i x => x.1), ?_⟩, Nat.lt_succ_self _, HT.out, by omega, by omega, rfl, by simp; omega⟩
    intro p hp
    simp only [List.mem_cons, List.not_mem_nil, or_false] at hp
    subst hp
    exact ⟨by show w.heap.size ≤ n0; omega, HR2.out, hnM _ (Nat.le_refl _) (by omega)⟩
  case round =>
    obtain ⟨s1, ids, vs, iv, lv, rows, hi1, hfr, hlt, hfl, hdp, hbd, hil, hvl⟩ := hrel
    cases gk with
    | zero => exact absurd hlt (Nat.not_lt_zero _)
    | succ k =>
    have HF := Lib.hid hfl
    have HFR := Lib.hid hfr
    have HNUM := Lib.hid (And.intro hlt (And.intro hdp (And.intro hbd (And.intro hil hvl))))
    clear hfl hfr hlt hdp hbd hil hvl
    go_wp2_with fail
    go_cut [9, 10, 11, 12] from 29 to 39 (fun s9 s10 s11 s12 wx => ∃ t id ev, s10 = .int .u8 t ∧ s11 = .int .i16 id ∧ s12 = ev ∧ Bin.Post K wr.drew wx ((Bin.pr K).fK s1) ev ((Bin.pr K).fS s1) ∧ ((Bin.pr K).fK s1 = 0 → t = (Bin.pr K).fT s1 ∧ id = (Bin.pr K).fI s1))
    case first =>
      go_region_with (first | (go_at_call 39; refine (ctx_at _).mono ?_; rintro e w' ⟨rfl, rfl⟩) | (go_at_call 235; refine (Bin.readFieldBegin (w := wr.drew) (hi1.fresh ((Keep.refl _ wr).drew))).mono ?_; rintro e w2 ⟨l, t, id, ev, rfl, hp, hv⟩; have HP2 := Lib.hid hp; have HV2 := Lib.hid hv; clear hp hv))
      all_goals
        go_wp2_with fail
        go_simp
        go_meet
        exact ⟨_, _, _, rfl, rfl, rfl, HP2.out, HV2.out⟩
    case rest =>
    obtain ⟨t, id, ev, rfl, rfl, he, hp2, hv2⟩ := hcut
    have he := he.symm
    subst he
    have hfd := Bin.Frame.fresh h HFR.out hi1 ((Keep.refl _ wr).drew)
    have HF2 := Lib.hid (hfd.call hp2.keep)
    have HFD := Lib.hid hfd
    have HP2 := Lib.hid hp2
    clear hfd hp2
    obtain ⟨Ia, Im, Ic, rfl⟩ := own_shape HFR.out.vb.ids
    obtain ⟨La, Lm, Lc, rfl⟩ := own_shape HFR.out.vb.parts
    obtain ⟨hR1, hR2, hR3⟩ := HF2.out.still (n0, zVal, 34) (by simp)
    have HR2 := Lib.hid hR2
    by_cases hz : (Bin.pr K).fK s1 = 0
    · have hev : ev = .nilIface := by have := HP2.out.err; rw [hz] at this; exact this.isNil
      subst hev
      obtain ⟨ht, hid⟩ := hv2 hz
      have HZ := Lib.hid hz
      have HTT := Lib.hid ht
      have HID := Lib.hid hid
      clear hz ht hid hv2
      by_cases ht0 : t = 0
      · subst ht0
        obtain ⟨x0, x1, x2, x3, x4, x5, x6⟩ := got_cells HF2.out.vb.blk
        clear hR1 hR2 hR3
        go_wp2_with fail
        go_cut [5] from 46 to 52 (fun s5 wx => s5 = .nilIface ∧ ∃ w5, wx = ((((((((w5).setCell ⟨n0, 0, none⟩ (.int .i64 12)).setCell ⟨n0, 1, none⟩ (.int .i64 0)).setCell ⟨n0, 2, none⟩ (.slice none 0 0)).setCell ⟨n0, 3, none⟩ (.int .i64 0)).setCell ⟨n0, 4, none⟩ (.int .i64 0)).setCell ⟨n0, 5, none⟩ (.slice Ia Im Ic)).setCell ⟨n0, 6, none⟩ (.slice La Lm Lc)) ∧ Bin.Post K wc.drew w5 0 .nilIface ((Bin.pr K).seS ((Bin.pr K).fS s1)))
        case first =>
          go_region_with (first | (go_at_call 39; refine (ctx_at _).mono ?_; rintro e w' ⟨rfl, rfl⟩) | (go_at_call 250; refine (Bin.readStructEnd (w := wc.drew) ((HP2.out.inv HZ.out).fresh ((Keep.refl _ wc).drew)) (by rw [(Bin.ok K).df s1 HZ.out]; exact HNUM.out.2.1)).mono ?_; rintro e w5 ⟨rfl, hp5⟩; have HP5 := Lib.hid hp5; have HF5 := Lib.hid ((Bin.Frame.fresh h HF2.out (HP2.out.inv HZ.out) ((Keep.refl _ wc).drew)).call hp5.keep); clear hp5; obtain ⟨hR1, hR2, hR3⟩ := HF5.out.still (n0, zVal, 34) (by simp); obtain ⟨p0, p1, p2, p3, p4, p5, p6⟩ := got_cells HF5.out.vb.blk; obtain ⟨r0, r1, r2, r3, r4, r5, r6⟩ := got_cells hR2; obtain ⟨z0, z1, z2, z3, z4, z5, z6⟩ := got_free hR2; clear hR1 hR2 hR3))
          all_goals
            go_wp2_with fail
            go_simp
            go_meet
            exact ⟨rfl, _, rfl, HP5.out⟩
        case rest =>
        obtain ⟨rfl, w5, rfl, hp5⟩ := hcut
        have hfd := Bin.Frame.fresh h HF2.out (HP2.out.inv HZ.out) ((Keep.refl _ wc).drew)
        have HF5 := Lib.hid (hfd.call hp5.keep)
        have HP5 := Lib.hid hp5
        have HFE := Lib.hid hfd
        obtain ⟨hR1, hR2, hR3⟩ := HF5.out.still (n0, zVal, 34) (by simp)
        have HR5 := Lib.hid hR2
        clear hfd hp5 x0 x1 x2 x3 x4 x5 x6 hR1 hR2 hR3
        go_wp2_with fail
        have hk9 := val_keep (M := fun i => n0 = i) (Keep.refl _ w5) (R := n0) (fun _ => rfl) (.int .i64 12) (.int .i64 0) (.slice none 0 0) (.int .i64 0) (.int .i64 0) (.slice Ia Im Ic) (.slice La Lm Lc)
        refine ret_cell2 (U := n0) (T := 34) Tryz.results49 rfl rfl rfl (val_set HR5.out (.int .i64 12) (.int .i64 0) (.slice none 0 0) (.int .i64 0) (.int .i64 0) (.slice Ia Im Ic) (.slice La Lm Lc)) Tryz.underlying34 ival_size ?_
        have i5 := (HP2.out.inv HZ.out).fresh ((Keep.refl _ wc).drew)
        have hth := Bin.thru h HFE.out.kp i5 HP5.out hk9 (fun i e => by
          subst e
          obtain ⟨q1, q2, q3⟩ := HFE.out.still (n0, zVal, 34) (by simp)
          exact ⟨q1, lt_of_heap q2, q3⟩)
        have e1 : tot = (0, (Bin.pr K).seS ((Bin.pr K).fS s1), .mk 12 0 [] 0 0 ids vs) := by
          rw [← HF.out]
          exact gflds_stop HZ.out HTT.out.symm
        rw [e1]
        refine ⟨12, 0, none, 0, 0, 0, 0, Ia, Im, Ic, La, Lm, Lc, _, rfl, hth.1, fun hz => ?_⟩
        have hv := HF5.out.vb.val (by have := HNUM.out; have := HRM.out; have := (Bin.ok K).one1; omega)
        exact (hv.keep hk9 (fun i hi e => hi.2.1 (n0, zVal, 34) (by simp) e.symm)).weak (fun i _ hi => ⟨hi.1, fun m => hi.2.2 (hth.2 i m)⟩)
      · have ok := Bin.ok K
        have hne : ¬ (Bin.pr K).fT s1 = 0 := fun hh => ht0 (HTT.out.trans hh)
        have htb := Bin.fT_bd K s1
        rw [← HTT.out] at htb
        have HNE := Lib.hid hne
        clear hne hR1 hR2 hR3
        go_wp2_with fail
        refine (ih (deep - 1) t _ wc HD.out (by omega) (by omega) htb.1 htb.2 (HP2.out.inv HZ.out) (by have a1 := ok.df s1 HZ.out; have a2 := ok.f s1 HZ.out; have a3 := HNUM.out; have a4 := ok.one1; have a5 := HRM.out; show _ + _ < _; omega)).mono ?_
        rintro e w3 ⟨T', N', Sa, Sm, Sc, KT', E', Ja, Jm, Jc, Ma, Mm, Mc, ev, rfl, hp3, hval⟩
        have HF3 := Lib.hid (HF2.out.call hp3.keep)
        have HP3 := Lib.hid hp3
        have HVAL := Lib.hid hval
        clear hp3 hval htb
        have HMN := Lib.hid HF2.out.mine
        go_wp2_with fail
        obtain ⟨w6, hw6⟩ : ∃ w6, w3.alloc (.cells (valC T' N' (.slice Sa Sm Sc) KT' E' (.slice Ja Jm Jc) (.slice Ma Mm Mc)) 34 (0, 0)) = w6 := ⟨_, rfl⟩
        have hk6 : Keep (fun _ => False) w3 w6 := by rw [← hw6]; exact (Keep.refl _ w3).alloc _
        have hX6 : w6.heap[w3.heap.size]? = some (.cells (valC T' N' (.slice Sa Sm Sc) KT' E' (.slice Ja Jm Jc) (.slice Ma Mm Mc)) 34 (0, 0)) := by rw [← hw6]; exact heap_alloc_new w3 _
        rw [hw6]
        clear hw6
        obtain ⟨X, hX⟩ : ∃ X, w3.heap.size = X := ⟨_, rfl⟩
        rw [hX] at hX6 ⊢
        have hidb := Bin.fI_bd K s1
        rw [← HID.out] at hidb
        have hiw : IntKind.i64.wrap id = id := IntWalk.i64_in _ (by omega)
        have HV6 := Lib.hid (HF3.out.vb.keep hk6 (fun _ _ x => x))
        have HO1 : Hid (∀ i, (Value.slice Ia Im Ic).ownBlock = some i → i < w6.heap.size) := Lib.hid (fun i e => (HV6.out.ids.lt i e).2)
        have HB6 : Hid (w.heap.size ≤ w6.heap.size) := Lib.hid (Nat.le_trans HF3.out.kp.size hk6.size)
        have HC : Hid (∀ W, Keep (fun i => (Value.slice Ia Im Ic).ownBlock = some i ∨ (Value.slice La Lm Lc).ownBlock = some i) w6 W → W.heap[n0 + 1]? = some (.cells (valC 12 0 nilB 0 0 (.slice Ia Im Ic) (.slice La Lm Lc)) 34 (0, 0)) ∧ W.heap[X]? = some (.cells (valC T' N' (.slice Sa Sm Sc) KT' E' (.slice Ja Jm Jc) (.slice Ma Mm Mc)) 34 (0, 0)) ∧ True) := Lib.hid (fun W k =>
          ⟨(k.block _ (lt_of_heap HV6.out.blk) (fun e => e.elim HV6.out.neI HV6.out.neL)).trans HV6.out.blk,
           (k.block _ (lt_of_heap hX6) (fun e => e.elim (fun e => by have := (HF3.out.vb.ids.lt _ e).2; omega) (fun e => by have := (HF3.out.vb.parts.lt _ e).2; omega))).trans hX6, trivial⟩)
        have hmxv : vs.length + 1 ≤ 1099511627778 := by have := HNUM.out; have := HRM.out; have := (Bin.ok K).one1; omega
        have hmxi : ids.length + 1 ≤ 1099511627778 := by have := HNUM.out; omega
        have hmx1 : ids.length + 1 ≤ maxLen := by simp only [maxLen]; omega
        have hmx2 : vs.length + 1 ≤ maxLen := by simp only [maxLen]; omega
        obtain ⟨vi, hvi, hvz, hvs, hvb⟩ := ival_info
        obtain ⟨ii, hii, hiz, his, hib⟩ := int_info
        have hone1 : ∀ u ∈ [Value.int .i64 id], u.oneCell' = true := by
          intro u hu
          simp only [List.mem_cons, List.not_mem_nil, or_false] at hu
          subst hu; rfl
        have hone2 : ∀ u ∈ (valC T' N' (.slice Sa Sm Sc) KT' E' (.slice Ja Jm Jc) (.slice Ma Mm Mc)).toList, u.oneCell' = true := by
          intro u hu
          simp only [List.mem_cons, List.not_mem_nil, or_false] at hu
          rcases hu with rfl | rfl | rfl | rfl | rfl | rfl | rfl <;> rfl
        have HK6 := Lib.hid hk6
        have HX := Lib.hid hX
        clear hk6 hX6 hidb hX
        go_cut [] from 61 to 73 (fun wx => ∃ v5 v6 wy, wx = (wy.setCell ⟨n0 + 1, 5, none⟩ v5).setCell ⟨n0 + 1, 6, none⟩ v6 ∧ Grw 34 w.heap.size (.slice Ia Im Ic) (.slice La Lm Lc) w6 v5 v6 (ids.length + 1) (ids.map (Value.int .i64) ++ [.int .i64 id]) (vs.length + 1) (rows.flatten ++ (valC T' N' (.slice Sa Sm Sc) KT' E' (.slice Ja Jm Jc) (.slice Ma Mm Mc)).toList) wy)
        case first =>
          refine wp_region_quiet (fun W => W.heap[n0 + 1]? = some (.cells (valC 12 0 nilB 0 0 (.slice Ia Im Ic) (.slice La Lm Lc)) 34 (0, 0)) ∧ W.heap[X]? = some (.cells (valC T' N' (.slice Sa Sm Sc) KT' E' (.slice Ja Jm Jc) (.slice Ma Mm Mc)) 34 (0, 0)) ∧ True) [12, 14] (by kernel_rfl) ?_
          have G0 := Lib.hid ((Grw.start HV6.out).keep (Keep.refl (fun _ => False) w6).drew)
          generalize w6.drew = wd at *
          refine wpAnyP_plain 0 (some 61) (.pointer (some ⟨n0 + 1, 5, none⟩)) rfl (by kernel_rfl) (by kernel_rfl) (by kernel_rfl) (by kernel_rfl) (fun _ _ _ h => h) (fun W => ?_) (fun _ => HC.out _ G0.out.kp) ?_
          · go_simp
          try simp only [Act.put, List.setIfInBounds_toArray, List.set_cons_zero, List.set_cons_succ]
          refine wpAnyP_load 1 [12, 14] (some 62) (.slice Ia Im Ic) rfl (by kernel_rfl) (by kernel_rfl) (by kernel_rfl) (by kernel_rfl) (fun _ _ _ h => h) (fun W hW => ?_) (HC.out _ G0.out.kp) ?_
          · obtain ⟨p0, p1, p2, p3, p4, p5, p6⟩ := got_cells hW.1; go_simp
          try simp only [Act.put, List.setIfInBounds_toArray, List.set_cons_zero, List.set_cons_succ]
          refine wpAnyP_plain 2 (some 63) (.int .i16 id) rfl (by kernel_rfl) (by kernel_rfl) (by kernel_rfl) (by kernel_rfl) (fun _ _ _ h => h) (fun W => ?_) (fun _ => HC.out _ G0.out.kp) ?_
          · go_simp
          try simp only [Act.put, List.setIfInBounds_toArray, List.set_cons_zero, List.set_cons_succ]
          refine wpAnyP_plain 3 (some 64) (.int .i64 id) rfl (by kernel_rfl) (by kernel_rfl) (by kernel_rfl) (by kernel_rfl) (fun _ _ _ h => h) (fun W => ?_) (fun _ => HC.out _ G0.out.kp) ?_
          · go_simp
          try simp only [Act.put, List.setIfInBounds_toArray, List.set_cons_zero, List.set_cons_succ]
          refine wpAnyP_plain 6 (some 67) (.pointer (some ⟨n0 + 1, 6, none⟩)) rfl (by kernel_rfl) (by kernel_rfl) (by kernel_rfl) (by kernel_rfl) (fun _ _ _ h => h) (fun W => ?_) (fun _ => HC.out _ G0.out.kp) ?_
          · go_simp
          try simp only [Act.put, List.setIfInBounds_toArray, List.set_cons_zero, List.set_cons_succ]
          refine wpAnyP_load 7 [12, 14] (some 68) (.slice La Lm Lc) rfl (by kernel_rfl) (by kernel_rfl) (by kernel_rfl) (by kernel_rfl) (fun _ _ _ h => h) (fun W hW => ?_) (HC.out _ G0.out.kp) ?_
          · obtain ⟨p0, p1, p2, p3, p4, p5, p6⟩ := got_cells hW.1; go_simp
          try simp only [Act.put, List.setIfInBounds_toArray, List.set_cons_zero, List.set_cons_succ]
          refine wpAnyP_load 8 [9, 10, 12, 14] (some 69) (.agg (valC T' N' (.slice Sa Sm Sc) KT' E' (.slice Ja Jm Jc) (.slice Ma Mm Mc))) rfl (by kernel_rfl) (by kernel_rfl) (by kernel_rfl) (by kernel_rfl) (fun _ _ _ h => h) (fun W hW => ?_) (HC.out _ G0.out.kp) ?_
          · obtain ⟨p0, p1, p2, p3, p4, p5, p6⟩ := got_cells hW.2.1; go_simp
          try simp only [Act.put, List.setIfInBounds_toArray, List.set_cons_zero, List.set_cons_succ]
          refine wpAnyP_ready [4, 9] (by kernel_rfl) (by simp) ?_
          refine AllReadyP.cons (i := 4) (o := ⟨some 65, _, _, _, _, none⟩) rfl (fun K hK => ?_) ?_
          · go_simp
            have hn1 := new_cells wd #[.int .i64 id] 3
            have hz1 : wd.heap.size < (wd.alloc (.cells #[.int .i64 id] 3 (0, 0))).heap.size := by simp
            have G1 := Lib.hid (G0.out.alloc (.cells #[.int .i64 id] 3 (0, 0)))
            refine hK.out _ _ (fun _ => HC.out _ G1.out.kp) ?_
            clear hK K
            try simp only [Act.put, List.setIfInBounds_toArray, List.set_cons_zero, List.set_cons_succ]
            generalize wd.alloc (.cells #[.int .i64 id] 3 (0, 0)) = wa at *
            refine wpAnyP_ready [5, 9] (by kernel_rfl) (by simp) ?_
            refine AllReadyP.cons (i := 5) (o := ⟨some 66, _, _, _, _, none⟩) rfl (fun K hK => ?_) ?_
            · have hb1 : w.heap.size ≤ wa.heap.size := by have := G1.out.kp.size; have := HB6.out; omega
              refine step_append_own_at rfl (.tmp 62) (.tmp 65) 31 rfl w.heap.size 3 ii (.int .i64 0) 1 8 Tryz.underlying31 hii hiz his hib rfl (by decide) (.slice Ia Im Ic) ids.length (ids.map (Value.int .i64)) rfl G1.out.own1 ⟨wd.heap.size, 0, none⟩ 1 1 [.int .i64 id] rfl rfl hn1 hone1 hmx1 (by omega) hb1 ?_
              intro v5 wb ho5 hg5 ha5
              have G2 := Lib.hid (G1.out.app1 ho5 hg5 ha5)
              refine hK.out _ _ (fun _ => HC.out _ G2.out.kp) ?_
              clear hK K ho5 ha5
              try simp only [Act.put, List.setIfInBounds_toArray, List.set_cons_zero, List.set_cons_succ]
              refine wpAnyP_plain 11 (some 72) (.pointer (some ⟨n0 + 1, 5, none⟩)) rfl (by kernel_rfl) (by kernel_rfl) (by kernel_rfl) (by kernel_rfl) (fun _ _ _ h => h) (fun W => ?_) (fun _ => HC.out _ G2.out.kp) ?_
              · go_simp
              try simp only [Act.put, List.setIfInBounds_toArray, List.set_cons_zero, List.set_cons_succ]
              refine wpAnyP_ready [9] (by kernel_rfl) (by simp) ?_
              refine AllReadyP.cons (i := 9) (o := ⟨some 70, _, _, _, _, none⟩) rfl (fun K hK => ?_) ?_
              · go_simp
                have hn2 := new_cells wb (valC T' N' (.slice Sa Sm Sc) KT' E' (.slice Ja Jm Jc) (.slice Ma Mm Mc)) 34
                have hz2 : wb.heap.size < (wb.alloc (.cells (valC T' N' (.slice Sa Sm Sc) KT' E' (.slice Ja Jm Jc) (.slice Ma Mm Mc)) 34 (0, 0))).heap.size := by simp
                have G3 := Lib.hid (G2.out.alloc (.cells (valC T' N' (.slice Sa Sm Sc) KT' E' (.slice Ja Jm Jc) (.slice Ma Mm Mc)) 34 (0, 0)))
                refine hK.out _ _ (fun _ => HC.out _ G3.out.kp) ?_
                clear hK K
                try simp only [Act.put, List.setIfInBounds_toArray, List.set_cons_zero, List.set_cons_succ]
                generalize wb.alloc (.cells (valC T' N' (.slice Sa Sm Sc) KT' E' (.slice Ja Jm Jc) (.slice Ma Mm Mc)) 34 (0, 0)) = we at *
                refine wpAnyP_ready [10] (by kernel_rfl) (by simp) ?_
                refine AllReadyP.cons (i := 10) (o := ⟨some 71, _, _, _, _, none⟩) rfl (fun K hK => ?_) ?_
                · have hb2 : w.heap.size ≤ we.heap.size := by have := G3.out.kp.size; have := HB6.out; omega
                  refine step_append_own_at rfl (.tmp 68) (.tmp 70) 32 rfl w.heap.size 34 vi (.agg zVal) 7 104 Tryz.underlying32 hvi hvz hvs hvb rfl (by decide) (.slice La Lm Lc) vs.length rows.flatten rfl G3.out.own2 ⟨wb.heap.size, 0, none⟩ 1 1 ((valC T' N' (.slice Sa Sm Sc) KT' E' (.slice Ja Jm Jc) (.slice Ma Mm Mc))).toList rfl rfl hn2 hone2 hmx2 (by omega) hb2 ?_
                  intro v6 wf ho6 hg6 ha6
                  have G4 := Lib.hid (G3.out.app2 ho6 hg6 ha6)
                  refine hK.out _ _ (fun _ => HC.out _ G4.out.kp) ?_
                  clear hK K ho6 hg6 ha6
                  try simp only [Act.put, List.setIfInBounds_toArray, List.set_cons_zero, List.set_cons_succ]
                  obtain ⟨e5a, e5m, e5c, rfl⟩ := own_shape G4.out.own1
                  obtain ⟨e6a, e6m, e6c, rfl⟩ := own_shape G4.out.own2
                  obtain ⟨p0, p1, p2, p3, p4, p5, p6⟩ := got_cells (HC.out _ G4.out.kp).1
                  obtain ⟨q0, q1, q2, q3, q4, q5, q6⟩ := got_free (HC.out _ G4.out.kp).1
                  refine wpAnyP_ready [12] (by kernel_rfl) (by simp) ?_
                  refine AllReadyP.cons (i := 12) (o := ⟨none, _, _, _, _, none⟩) rfl (fun K hK => ?_) ?_
                  · go_simp
                    refine hK.out _ _ (fun q => quiet_no q (by kernel_rfl)) ?_
                    clear hK K
                    try simp only [Act.put, List.setIfInBounds_toArray, List.set_cons_zero, List.set_cons_succ]
                    refine wpAnyP_plain 13 (some 73) (.pointer (some ⟨n0 + 1, 6, none⟩)) rfl (by kernel_rfl) (by kernel_rfl) (by kernel_rfl) (by kernel_rfl) (fun _ _ _ h => h) (fun W => ?_) (fun q => quiet_no q (by kernel_rfl)) ?_
                    · go_simp
                    try simp only [Act.put, List.setIfInBounds_toArray, List.set_cons_zero, List.set_cons_succ]
                    refine wpAnyP_ready [14] (by kernel_rfl) (by simp) ?_
                    refine AllReadyP.cons (i := 14) (o := ⟨none, _, _, _, _, none⟩) rfl (fun K hK => ?_) ?_
                    · go_simp
                      refine hK.out _ _ (fun q => quiet_no q (by kernel_rfl)) ?_
                      clear hK K
                      refine wpAnyP_done (by kernel_rfl) ?_ _
                      go_wp2_with fail
                      go_simp
                      go_meet
                      exact ⟨_, _, wf, rfl, G4.out⟩
                    · exact AllReadyP.nil
                  · exact AllReadyP.nil
                · exact AllReadyP.nil
              · exact AllReadyP.nil
            · refine AllReadyP.cons (i := 9) (o := ⟨some 70, _, _, _, _, none⟩) rfl (fun K hK => ?_) ?_
              · go_simp
                have hn2 := new_cells wa (valC T' N' (.slice Sa Sm Sc) KT' E' (.slice Ja Jm Jc) (.slice Ma Mm Mc)) 34
                have hz2 : wa.heap.size < (wa.alloc (.cells (valC T' N' (.slice Sa Sm Sc) KT' E' (.slice Ja Jm Jc) (.slice Ma Mm Mc)) 34 (0, 0))).heap.size := by simp
                have G2 := Lib.hid (G1.out.alloc (.cells (valC T' N' (.slice Sa Sm Sc) KT' E' (.slice Ja Jm Jc) (.slice Ma Mm Mc)) 34 (0, 0)))
                have hn1 := news_alloc hn1 hz1 (.cells (valC T' N' (.slice Sa Sm Sc) KT' E' (.slice Ja Jm Jc) (.slice Ma Mm Mc)) 34 (0, 0))
                refine hK.out _ _ (fun _ => HC.out _ G2.out.kp) ?_
                clear hK K
                try simp only [Act.put, List.setIfInBounds_toArray, List.set_cons_zero, List.set_cons_succ]
                generalize wa.alloc (.cells (valC T' N' (.slice Sa Sm Sc) KT' E' (.slice Ja Jm Jc) (.slice Ma Mm Mc)) 34 (0, 0)) = wb at *
                refine wpAnyP_ready [5] (by kernel_rfl) (by simp) ?_
                refine AllReadyP.cons (i := 5) (o := ⟨some 66, _, _, _, _, none⟩) rfl (fun K hK => ?_) ?_
                · have hb1 : w.heap.size ≤ wb.heap.size := by have := G2.out.kp.size; have := HB6.out; omega
                  refine step_append_own_at rfl (.tmp 62) (.tmp 65) 31 rfl w.heap.size 3 ii (.int .i64 0) 1 8 Tryz.underlying31 hii hiz his hib rfl (by decide) (.slice Ia Im Ic) ids.length (ids.map (Value.int .i64)) rfl G2.out.own1 ⟨wd.heap.size, 0, none⟩ 1 1 [.int .i64 id] rfl rfl hn1 hone1 hmx1 (by omega) hb1 ?_
                  intro v5 we ho5 hg5 ha5
                  have G3 := Lib.hid (G2.out.app1 ho5 hg5 ha5)
                  have hn2 := news_kept hn2 hz2 ((Keep.refl (fun i => (Value.slice Ia Im Ic).ownBlock = some i) wb).grown hg5 (fun _ e _ => e)) (fun e => by have := HO1.out _ e; have := G0.out.kp.size; have := G1.out.kp.size; omega)
                  refine hK.out _ _ (fun _ => HC.out _ G3.out.kp) ?_
                  clear hK K ho5 ha5
                  try simp only [Act.put, List.setIfInBounds_toArray, List.set_cons_zero, List.set_cons_succ]
                  refine wpAnyP_plain 11 (some 72) (.pointer (some ⟨n0 + 1, 5, none⟩)) rfl (by kernel_rfl) (by kernel_rfl) (by kernel_rfl) (by kernel_rfl) (fun _ _ _ h => h) (fun W => ?_) (fun _ => HC.out _ G3.out.kp) ?_
                  · go_simp
                  try simp only [Act.put, List.setIfInBounds_toArray, List.set_cons_zero, List.set_cons_succ]
                  refine wpAnyP_ready [10] (by kernel_rfl) (by simp) ?_
                  refine AllReadyP.cons (i := 10) (o := ⟨some 71, _, _, _, _, none⟩) rfl (fun K hK => ?_) ?_
                  · have hb2 : w.heap.size ≤ we.heap.size := by have := G3.out.kp.size; have := HB6.out; omega
                    refine step_append_own_at rfl (.tmp 68) (.tmp 70) 32 rfl w.heap.size 34 vi (.agg zVal) 7 104 Tryz.underlying32 hvi hvz hvs hvb rfl (by decide) (.slice La Lm Lc) vs.length rows.flatten rfl G3.out.own2 ⟨wa.heap.size, 0, none⟩ 1 1 ((valC T' N' (.slice Sa Sm Sc) KT' E' (.slice Ja Jm Jc) (.slice Ma Mm Mc))).toList rfl rfl hn2 hone2 hmx2 (by omega) hb2 ?_
                    intro v6 wf ho6 hg6 ha6
                    have G4 := Lib.hid (G3.out.app2 ho6 hg6 ha6)
                    refine hK.out _ _ (fun _ => HC.out _ G4.out.kp) ?_
                    clear hK K ho6 hg6 ha6
                    try simp only [Act.put, List.setIfInBounds_toArray, List.set_cons_zero, List.set_cons_succ]
                    obtain ⟨e5a, e5m, e5c, rfl⟩ := own_shape G4.out.own1
                    obtain ⟨e6a, e6m, e6c, rfl⟩ := own_shape G4.out.own2
                    obtain ⟨p0, p1, p2, p3, p4, p5, p6⟩ := got_cells (HC.out _ G4.out.kp).1
                    obtain ⟨q0, q1, q2, q3, q4, q5, q6⟩ := got_free (HC.out _ G4.out.kp).1
                    refine wpAnyP_ready [12] (by kernel_rfl) (by simp) ?_
                    refine AllReadyP.cons (i := 12) (o := ⟨none, _, _, _, _, none⟩) rfl (fun K hK => ?_) ?_
                    · go_simp
                      refine hK.out _ _ (fun q => quiet_no q (by kernel_rfl)) ?_
                      clear hK K
                      try simp only [Act.put, List.setIfInBounds_toArray, List.set_cons_zero, List.set_cons_succ]
                      refine wpAnyP_plain 13 (some 73) (.pointer (some ⟨n0 + 1, 6, none⟩)) rfl (by kernel_rfl) (by kernel_rfl) (by kernel_rfl) (by kernel_rfl) (fun _ _ _ h => h) (fun W => ?_) (fun q => quiet_no q (by kernel_rfl)) ?_
                      · go_simp
                      try simp only [Act.put, List.setIfInBounds_toArray, List.set_cons_zero, List.set_cons_succ]
                      refine wpAnyP_ready [14] (by kernel_rfl) (by simp) ?_
                      refine AllReadyP.cons (i := 14) (o := ⟨none, _, _, _, _, none⟩) rfl (fun K hK => ?_) ?_
                      · go_simp
                        refine hK.out _ _ (fun q => quiet_no q (by kernel_rfl)) ?_
                        clear hK K
                        refine wpAnyP_done (by kernel_rfl) ?_ _
                        go_wp2_with fail
                        go_simp
                        go_meet
                        exact ⟨_, _, wf, rfl, G4.out⟩
                      · exact AllReadyP.nil
                    · exact AllReadyP.nil
                  · exact AllReadyP.nil
                · exact AllReadyP.nil
              · exact AllReadyP.nil
          · refine AllReadyP.cons (i := 9) (o := ⟨some 70, _, _, _, _, none⟩) rfl (fun K hK => ?_) ?_
            · go_simp
              have hn2 := new_cells wd (valC T' N' (.slice Sa Sm Sc) KT' E' (.slice Ja Jm Jc) (.slice Ma Mm Mc)) 34
              have hz2 : wd.heap.size < (wd.alloc (.cells (valC T' N' (.slice Sa Sm Sc) KT' E' (.slice Ja Jm Jc) (.slice Ma Mm Mc)) 34 (0, 0))).heap.size := by simp
              have G1 := Lib.hid (G0.out.alloc (.cells (valC T' N' (.slice Sa Sm Sc) KT' E' (.slice Ja Jm Jc) (.slice Ma Mm Mc)) 34 (0, 0)))
              refine hK.out _ _ (fun _ => HC.out _ G1.out.kp) ?_
              clear hK K
              try simp only [Act.put, List.setIfInBounds_toArray, List.set_cons_zero, List.set_cons_succ]
              generalize wd.alloc (.cells (valC T' N' (.slice Sa Sm Sc) KT' E' (.slice Ja Jm Jc) (.slice Ma Mm Mc)) 34 (0, 0)) = wa at *
              refine wpAnyP_ready [4] (by kernel_rfl) (by simp) ?_
              refine AllReadyP.cons (i := 4) (o := ⟨some 65, _, _, _, _, none⟩) rfl (fun K hK => ?_) ?_
              · have hn2' := news_alloc hn2 hz2 (.cells #[.int .i64 id] 3 (0, 0))
                go_simp
                have hn1 := new_cells wa #[.int .i64 id] 3
                have hz1 : wa.heap.size < (wa.alloc (.cells #[.int .i64 id] 3 (0, 0))).heap.size := by simp
                have G2 := Lib.hid (G1.out.alloc (.cells #[.int .i64 id] 3 (0, 0)))
                refine hK.out _ _ (fun _ => HC.out _ G2.out.kp) ?_
                clear hK K
                try simp only [Act.put, List.setIfInBounds_toArray, List.set_cons_zero, List.set_cons_succ]
                generalize wa.alloc (.cells #[.int .i64 id] 3 (0, 0)) = wb at *
                have hz2 := Nat.lt_trans hz2 hz1
                have hn2 := hn2'
                refine wpAnyP_ready [5] (by kernel_rfl) (by simp) ?_
                refine AllReadyP.cons (i := 5) (o := ⟨some 66, _, _, _, _, none⟩) rfl (fun K hK => ?_) ?_
                · have hb1 : w.heap.size ≤ wb.heap.size := by have := G2.out.kp.size; have := HB6.out; omega
                  refine step_append_own_at rfl (.tmp 62) (.tmp 65) 31 rfl w.heap.size 3 ii (.int .i64 0) 1 8 Tryz.underlying31 hii hiz his hib rfl (by decide) (.slice Ia Im Ic) ids.length (ids.map (Value.int .i64)) rfl G2.out.own1 ⟨wa.heap.size, 0, none⟩ 1 1 [.int .i64 id] rfl rfl hn1 hone1 hmx1 (by omega) hb1 ?_
                  intro v5 we ho5 hg5 ha5
                  have G3 := Lib.hid (G2.out.app1 ho5 hg5 ha5)
                  have hn2 := news_kept hn2 hz2 ((Keep.refl (fun i => (Value.slice Ia Im Ic).ownBlock = some i) wb).grown hg5 (fun _ e _ => e)) (fun e => by have := HO1.out _ e; have := G0.out.kp.size; have := G1.out.kp.size; omega)
                  refine hK.out _ _ (fun _ => HC.out _ G3.out.kp) ?_
                  clear hK K ho5 ha5
                  try simp only [Act.put, List.setIfInBounds_toArray, List.set_cons_zero, List.set_cons_succ]
                  refine wpAnyP_plain 11 (some 72) (.pointer (some ⟨n0 + 1, 5, none⟩)) rfl (by kernel_rfl) (by kernel_rfl) (by kernel_rfl) (by kernel_rfl) (fun _ _ _ h => h) (fun W => ?_) (fun _ => HC.out _ G3.out.kp) ?_
                  · go_simp
                  try simp only [Act.put, List.setIfInBounds_toArray, List.set_cons_zero, List.set_cons_succ]
                  refine wpAnyP_ready [10] (by kernel_rfl) (by simp) ?_
                  refine AllReadyP.cons (i := 10) (o := ⟨some 71, _, _, _, _, none⟩) rfl (fun K hK => ?_) ?_
                  · have hb2 : w.heap.size ≤ we.heap.size := by have := G3.out.kp.size; have := HB6.out; omega
                    refine step_append_own_at rfl (.tmp 68) (.tmp 70) 32 rfl w.heap.size 34 vi (.agg zVal) 7 104 Tryz.underlying32 hvi hvz hvs hvb rfl (by decide) (.slice La Lm Lc) vs.length rows.flatten rfl G3.out.own2 ⟨wd.heap.size, 0, none⟩ 1 1 ((valC T' N' (.slice Sa Sm Sc) KT' E' (.slice Ja Jm Jc) (.slice Ma Mm Mc))).toList rfl rfl hn2 hone2 hmx2 (by omega) hb2 ?_
                    intro v6 wf ho6 hg6 ha6
                    have G4 := Lib.hid (G3.out.app2 ho6 hg6 ha6)
                    refine hK.out _ _ (fun _ => HC.out _ G4.out.kp) ?_
                    clear hK K ho6 hg6 ha6
                    try simp only [Act.put, List.setIfInBounds_toArray, List.set_cons_zero, List.set_cons_succ]
                    obtain ⟨e5a, e5m, e5c, rfl⟩ := own_shape G4.out.own1
                    obtain ⟨e6a, e6m, e6c, rfl⟩ := own_shape G4.out.own2
                    obtain ⟨p0, p1, p2, p3, p4, p5, p6⟩ := got_cells (HC.out _ G4.out.kp).1
                    obtain ⟨q0, q1, q2, q3, q4, q5, q6⟩ := got_free (HC.out _ G4.out.kp).1
                    refine wpAnyP_ready [12] (by kernel_rfl) (by simp) ?_
                    refine AllReadyP.cons (i := 12) (o := ⟨none, _, _, _, _, none⟩) rfl (fun K hK => ?_) ?_
                    · go_simp
                      refine hK.out _ _ (fun q => quiet_no q (by kernel_rfl)) ?_
                      clear hK K
                      try simp only [Act.put, List.setIfInBounds_toArray, List.set_cons_zero, List.set_cons_succ]
                      refine wpAnyP_plain 13 (some 73) (.pointer (some ⟨n0 + 1, 6, none⟩)) rfl (by kernel_rfl) (by kernel_rfl) (by kernel_rfl) (by kernel_rfl) (fun _ _ _ h => h) (fun W => ?_) (fun q => quiet_no q (by kernel_rfl)) ?_
                      · go_simp
                      try simp only [Act.put, List.setIfInBounds_toArray, List.set_cons_zero, List.set_cons_succ]
                      refine wpAnyP_ready [14] (by kernel_rfl) (by simp) ?_
                      refine AllReadyP.cons (i := 14) (o := ⟨none, _, _, _, _, none⟩) rfl (fun K hK => ?_) ?_
                      · go_simp
                        refine hK.out _ _ (fun q => quiet_no q (by kernel_rfl)) ?_
                        clear hK K
                        refine wpAnyP_done (by kernel_rfl) ?_ _
                        go_wp2_with fail
                        go_simp
                        go_meet
                        exact ⟨_, _, wf, rfl, G4.out⟩
                      · exact AllReadyP.nil
                    · exact AllReadyP.nil
                  · exact AllReadyP.nil
                · exact AllReadyP.nil
              · exact AllReadyP.nil
            · exact AllReadyP.nil
        case rest =>
        obtain ⟨v5, v6, wy, rfl, hg⟩ := hcut
        obtain ⟨e5a, e5m, e5c, rfl⟩ := own_shape hg.own1
        obtain ⟨e6a, e6m, e6c, rfl⟩ := own_shape hg.own2
        clear hone1 hone2 hmx1 hmx2 hvi hvz hvs hvb hii hiz his hib
        have hUy := (HC.out _ hg.kp).1
        have hUz := heap_set_same (i := 6) (heap_set_same (i := 5) hUy (.slice e5a e5m e5c)) (.slice e6a e6m e6c)
        obtain ⟨hR1, hR2, hR3⟩ := HF3.out.still (n0, zVal, 34) (by simp)
        have hR6 := (HK6.out.block n0 (lt_of_heap hR2) (fun x => x)).trans hR2
        have hn6 := lt_of_heap hR6
        have hRy := (hg.kp.block n0 hn6 (fun e => e.elim (fun e => (HMN.out n0 (.inr (.inl e))).2.2.1 (n0, zVal, 34) (by simp) rfl) (fun e => (HMN.out n0 (.inr (.inr e))).2.2.1 (n0, zVal, 34) (by simp) rfl))).trans hR6
        have hRz := (heap_set_other (p := ⟨n0 + 1, 6, none⟩) (b := n0) (.slice e6a e6m e6c) (by simp)).trans ((heap_set_other (p := ⟨n0 + 1, 5, none⟩) (b := n0) (.slice e5a e5m e5c) (by simp)).trans hRy)
        have hkz : Keep (fun i => n0 + 1 = i ∨ (Value.slice Ia Im Ic).ownBlock = some i ∨ (Value.slice La Lm Lc).ownBlock = some i) w3 ((wy.setCell ⟨n0 + 1, 5, none⟩ (.slice e5a e5m e5c)).setCell ⟨n0 + 1, 6, none⟩ (.slice e6a e6m e6c)) :=
          (((HK6.out.weak (fun _ _ x => x.elim)).then (hg.kp.weak (fun _ _ e => .inr e))).set (n0 + 1) 5 (fun _ => .inl rfl) _).set (n0 + 1) 6 (fun _ => .inl rfl) _
        by_cases hz3 : (gt (Bin.pr K) d t ((Bin.pr K).fS s1)).1 = 0
        · have hev : ev = .nilIface := by have := HP3.out.err; rw [hz3] at this; exact this.isNil
          subst hev
          have i3 := HP3.out.inv hz3
          have hM6 := (Bin.turn h HF3.out.kp i3 HK6.out (fun _ x => x.elim)).2.2
          obtain ⟨F8, I8⟩ := Bin.Frame.two (x := (gt (Bin.pr K) d t ((Bin.pr K).fS s1)).2.2) (id := id) h (Bin.Frame.fresh h HF3.out i3 HK6.out) (i3.fresh HK6.out)
            (((HVAL.out hz3).keep HK6.out (fun _ _ => (fun y => y))).weak (fun i _ hi => ⟨fun j hj e => by have := (HMN.out j hj).2.1; have := hi.1; omega, by have := hi.1; have := HF2.out.kp.size; omega, fun p hp e => by have := lt_of_heap (HF2.out.still p hp).2.1; have := hi.1; omega, fun m => hi.2 (hM6 i m)⟩)) hg
          have a1 := gt_len (Bin.ok K) d _ _ hz3
          have a2 := gt_dep (Bin.ok K) d _ _ hz3
          have HA := Lib.hid (And.intro a1 a2)
          have HZ3 := Lib.hid hz3
          clear hz3 hM6 a1 a2 hg hUy hRy hR6 hn6 hR1 hR2 hR3 hkz
          generalize (wy.setCell ⟨n0 + 1, 5, none⟩ (.slice e5a e5m e5c)).setCell ⟨n0 + 1, 6, none⟩ (.slice e6a e6m e6c) = wz at *
          have HF8 := Lib.hid F8
          have HI8 := Lib.hid I8
          clear F8 I8
          go_wp2_with fail
          go_cut [14] from 78 to 83 (fun s14 wx => s14 = .nilIface ∧ Bin.Post K wz.drew wx 0 .nilIface ((Bin.pr K).feS (gt (Bin.pr K) d t ((Bin.pr K).fS s1)).2.1))
          case first =>
            go_region_with (first | (go_at_call 39; refine (ctx_at _).mono ?_; rintro e w' ⟨rfl, rfl⟩) | (go_at_call 236; refine (Bin.readFieldEnd (w := wz.drew) (HI8.out.fresh ((Keep.refl _ wz).drew))).mono ?_; rintro e w5 ⟨rfl, hp5⟩; have HP5 := Lib.hid hp5; clear hp5))
            all_goals
              go_wp2_with fail
              go_simp
              go_meet
              exact ⟨rfl, HP5.out⟩
          case rest =>
          obtain ⟨rfl, hp5⟩ := hcut
          have HF9 := Lib.hid ((Bin.Frame.fresh h HF8.out HI8.out ((Keep.refl _ wz).drew)).call hp5.keep)
          have HI9 := Lib.hid (hp5.inv rfl)
          clear hp5
          go_wp2_with fail
          go_roundg k
          case measure => exact Nat.lt_succ_self _
          case rel =>
            have ok := Bin.ok K
            have a1 := HA.out
            have a2 := HNUM.out
            have a3 := ok.fe (gt (Bin.pr K) d t ((Bin.pr K).fS s1)).2.1
            have a4 := ok.dfe (gt (Bin.pr K) d t ((Bin.pr K).fS s1)).2.1
            have a5 := ok.f s1 HZ.out
            have a6 := ok.df s1 HZ.out
            refine ⟨_, _, _, _, _, _, HI9.out, HF9.out, by omega, ?_, by omega, by omega, by simp; omega, by simp; omega⟩
            rw [← HF.out]
            have e0 := gflds_ok (p := Bin.pr K) (f := gt (Bin.pr K) d) (n := k) (s := s1) (ids := ids) (l := vs) HZ.out HNE.out (by rw [← HTT.out]; exact HZ3.out)
            rw [← HTT.out, ← HID.out] at e0
            exact e0.symm
        · obtain ⟨tt, x, rfl⟩ := HP3.out.err.held hz3
          have HZ3 := Lib.hid hz3
          have HKZ := Lib.hid hkz
          have HRZ := Lib.hid hRz
          clear hz3 hg hUy hRy hR6 hn6 hR1 hR2 hR3 hkz
          generalize (wy.setCell ⟨n0 + 1, 5, none⟩ (.slice e5a e5m e5c)).setCell ⟨n0 + 1, 6, none⟩ (.slice e6a e6m e6c) = wz at *
          obtain ⟨x0, x1, x2, x3, x4, x5, x6⟩ := got_cells hUz
          obtain ⟨r0, r1, r2, r3, r4, r5, r6⟩ := got_cells hRz
          obtain ⟨z0, z1, z2, z3, z4, z5, z6⟩ := got_free hRz
          clear hUz hRz
          go_wp2_with fail
          have hk9 := val_keep (M := fun i => n0 + 1 = i ∨ ((Value.slice Ia Im Ic).ownBlock = some i ∨ (Value.slice La Lm Lc).ownBlock = some i) ∨ n0 = i) (HKZ.out.weak (fun i _ e => e.elim .inl (fun e => .inr (.inl e)))) (R := n0) (fun _ => .inr (.inr rfl)) (.int .i64 12) (.int .i64 0) (.slice none 0 0) (.int .i64 0) (.int .i64 0) (.slice e5a e5m e5c) (.slice e6a e6m e6c)
          refine ret_cell2 (U := n0) (T := 34) Tryz.results49 rfl rfl rfl (val_set HRZ.out (.int .i64 12) (.int .i64 0) (.slice none 0 0) (.int .i64 0) (.int .i64 0) (.slice e5a e5m e5c) (.slice e6a e6m e6c)) Tryz.underlying34 ival_size ?_
          have hth := Bin.thru h HF2.out.kp (HP2.out.inv HZ.out) HP3.out hk9 (fun i e => by
            rcases e with e | (e | e) | e
            · have := HMN.out i (.inl e); exact ⟨this.1, this.2.1, this.2.2.2⟩
            · have := HMN.out i (.inr (.inl e)); exact ⟨this.1, this.2.1, this.2.2.2⟩
            · have := HMN.out i (.inr (.inr e)); exact ⟨this.1, this.2.1, this.2.2.2⟩
            · subst e
              obtain ⟨q1, q2, q3⟩ := HF2.out.still (n0, zVal, 34) (by simp)
              exact ⟨q1, lt_of_heap q2, q3⟩)
          have e1 : tot = ((gt (Bin.pr K) d t ((Bin.pr K).fS s1)).1, (gt (Bin.pr K) d t ((Bin.pr K).fS s1)).2.1, V.zero) := by
            rw [← HF.out]
            have e0 := gflds_bad (p := Bin.pr K) (f := gt (Bin.pr K) d) (n := k) (s := s1) (ids := ids) (l := vs) HZ.out HNE.out (by rw [← HTT.out]; exact HZ3.out)
            rw [← HTT.out] at e0
            exact e0
          rw [e1]
          exact ⟨12, 0, none, 0, 0, 0, 0, e5a, e5m, e5c, e6a, e6m, e6c, _, rfl, hth.1, fun hz => absurd hz HZ3.out⟩
    · obtain ⟨tt, x, rfl⟩ := HP2.out.err.held hz
      have HZ := Lib.hid hz
      obtain ⟨x0, x1, x2, x3, x4, x5, x6⟩ := got_cells HF2.out.vb.blk
      obtain ⟨r0, r1, r2, r3, r4, r5, r6⟩ := got_cells hR2
      obtain ⟨z0, z1, z2, z3, z4, z5, z6⟩ := got_free hR2
      clear hz hv2 hR1 hR2 hR3
      go_wp2_with fail
      have hk9 := val_keep (M := fun i => n0 = i) (Keep.refl _ wc) (R := n0) (fun _ => rfl) (.int .i64 12) (.int .i64 0) (.slice none 0 0) (.int .i64 0) (.int .i64 0) (.slice Ia Im Ic) (.slice La Lm Lc)
      refine ret_cell2 (U := n0) (T := 34) Tryz.results49 rfl rfl rfl (val_set HR2.out (.int .i64 12) (.int .i64 0) (.slice none 0 0) (.int .i64 0) (.int .i64 0) (.slice Ia Im Ic) (.slice La Lm Lc)) Tryz.underlying34 ival_size ?_
      have hth := Bin.thru h HFD.out.kp (hi1.fresh ((Keep.refl _ wr).drew)) HP2.out hk9 (fun i e => by
        subst e
        obtain ⟨q1, q2, q3⟩ := HFD.out.still (n0, zVal, 34) (by simp)
        exact ⟨q1, lt_of_heap q2, q3⟩)
      have e1 : tot = ((Bin.pr K).fK s1, (Bin.pr K).fS s1, V.zero) := by
        rw [← HF.out]
        exact gflds_err HZ.out
      rw [e1]
      exact ⟨12, 0, none, 0, 0, 0, 0, Ia, Im, Ic, La, Lm, Lc, _, rfl, hth.1, fun hz => absurd hz HZ.out⟩

end Go.Proofs.YtpfifpgbnhdjnaaGreatDoor

/- The thin package: get for every depth. -/
namespace Go.Proofs.YtpfifpgbnhdjnaaGreatDoor
open Go Go.RowKit

set_option maxRecDepth 100000 in
set_option maxHeartbeats 4000000 in
theorem Bin.get_zero (K : Bin.Ctx) : Bin.Gets K 0 := by
  intro deep t s w hd hlo hhi h0 h1 h _
  have hle : deep ≤ 0 := by omega
  have htw : IntKind.i64.wrap t = t := IntWalk.i64_in _ (by omega)
  have hk0 : Keep (fun _ => False) w ((w.alloc (.cells (valC t 0 nilB 0 0 (.slice none 0 0) (.slice none 0 0)) 34 (0, 0))).alloc (.cells (valC t 0 nilB 0 0 (.slice none 0 0) (.slice none 0 0)) 34 (0, 0))) := ((Keep.refl _ w).alloc _).alloc _
  have hR0 : ((w.alloc (.cells (valC t 0 nilB 0 0 (.slice none 0 0) (.slice none 0 0)) 34 (0, 0))).alloc (.cells (valC t 0 nilB 0 0 (.slice none 0 0) (.slice none 0 0)) 34 (0, 0))).heap[w.heap.size]? = some (.cells (valC t 0 nilB 0 0 (.slice none 0 0) (.slice none 0 0)) 34 (0, 0)) := (Below.heap_alloc _ _ _ (by simp)).trans (heap_alloc_new w _)
  go_enter Tryz.func29, Tryz.ntmps29
  go_wp2_with fail
  generalize (w.alloc (.cells (valC t 0 nilB 0 0 (.slice none 0 0) (.slice none 0 0)) 34 (0, 0))).alloc (.cells (valC t 0 nilB 0 0 (.slice none 0 0) (.slice none 0 0)) 34 (0, 0)) = w1 at *
  refine ret_cell2 (U := w.heap.size) (T := 34) Tryz.results29 rfl rfl rfl hR0 Tryz.underlying34 ival_size ?_
  have hp : Bin.Post K w1 w1 50 (.iface 101 (.int .i64 50)) s := ⟨.inr (.inr (.inr (.inr ⟨by decide, by decide, rfl⟩))), fun e => absurd e (by decide), (h.fresh hk0).some, Kpt.refl _ _⟩
  exact ⟨t, 0, none, 0, 0, 0, 0, none, 0, 0, none, 0, 0, _, rfl, Bin.through h hk0 hp (Keep.refl (fun _ => False) w1) (fun i hi => hi.elim), fun hz => absurd hz (by show ¬ (50 : Int) = 0; decide)⟩

set_option maxRecDepth 100000 in
set_option maxHeartbeats 4000000 in
theorem Bin.get12 (K : Bin.Ctx) (d : Nat) (ih : Bin.Gets K d) (deep : Int) (s : Bin.St) (w : World) (hdd : deep.toNat = d + 1) (hd : 0 < deep) (hhi : deep ≤ 9223372036854775807) (h : Bin.Inv K s w) (hroom : (Bin.pr K).Room s) :
    Calls Tryz.prog 29 #[Bin.V K, .int .u8 12, .int .i64 deep] w (Bin.GetP K (d + 1) w (gflds (Bin.pr K) (gt (Bin.pr K) d) ((Bin.pr K).len ((Bin.pr K).sbS s) + 1) ((Bin.pr K).sbS s) [] [])) := by
  go_enter Tryz.func29, Tryz.ntmps29
  go_wp2_with fail
  obtain ⟨hk0, hR, hV, hG, hs⟩ := getW_facts w 12
  obtain ⟨n0, hn⟩ : ∃ n0, w.heap.size = n0 := ⟨_, rfl⟩
  rw [hn] at hR hV hG hs ⊢
  unfold getW at hk0 hR hV hG hs
  generalize ((w.alloc (.cells zVal 34 (0, 0))).alloc (.cells (valC 12 0 nilB 0 0 (.slice none 0 0) (.slice none 0 0)) 34 (0, 0))).alloc (.cells zGot 95 (0, 0)) = w1 at *
  have HN := Lib.hid hn
  have HR := Lib.hid hR
  have HS := Lib.hid hs
  have HM := Lib.hid (Bin.M_new h hk0)
  obtain ⟨x0, x1, x2, x3, x4, x5, x6⟩ := got_cells hV
  clear hn hR hV hG hs
  refine (Bin.getStruct K d ih deep s w1 hdd hd hhi (h.fresh hk0) hroom).mono ?_
  rintro e w3 ⟨T', N', Sa, Sm, Sc, KT', E', Ia, Im, Ic, La, Lm, Lc, ev, rfl, hp, hval⟩
  have hR3 := (hp.keep.block n0 (lt_of_heap HR.out) (fun x => by have := HM.out n0 x; have := HN.out; omega)).trans HR.out
  have HP := Lib.hid hp
  have HVAL := Lib.hid hval
  have HR3 := Lib.hid hR3
  clear x0 x1 x2 x3 x4 x5 x6
  obtain ⟨r0, r1, r2, r3, r4, r5, r6⟩ := got_cells hR3
  obtain ⟨z0, z1, z2, z3, z4, z5, z6⟩ := got_free hR3
  clear hp hval hR3
  go_wp2_with fail
  have hn0 := HN.out
  have hs1 := HS.out
  have hk9 := val_keep (M := fun i => n0 ≤ i ∧ i < n0 + 3) (Keep.refl _ w3) (R := n0) (fun _ => by omega) (.int .i64 T') (.int .i64 N') (.slice Sa Sm Sc) (.int .i64 KT') (.int .i64 E') (.slice Ia Im Ic) (.slice La Lm Lc)
  refine ret_cell2 (U := n0) (T := 34) Tryz.results29 rfl rfl rfl (val_set HR3.out (.int .i64 T') (.int .i64 N') (.slice Sa Sm Sc) (.int .i64 KT') (.int .i64 E') (.slice Ia Im Ic) (.slice La Lm Lc)) Tryz.underlying34 ival_size ?_
  refine ⟨T', N', Sa, Sm, Sc, KT', E', Ia, Im, Ic, La, Lm, Lc, ev, rfl, Bin.through h hk0 HP.out hk9 (fun i hi => by omega), fun hz => ?_⟩
  exact ((HVAL.out hz).keep hk9 (fun i hi e => by have := hi.1; omega)).weak (fun i _ hi => ⟨by have := hi.1; omega, fun x => hi.2 (Bin.through_M h hk0 HP.out hk9 (fun i hi => by omega) i x)⟩)

set_option maxRecDepth 100000 in
set_option maxHeartbeats 4000000 in
theorem Bin.get13 (K : Bin.Ctx) (d : Nat) (ih : Bin.Gets K d) (deep : Int) (s : Bin.St) (w : World) (hdd : deep.toNat = d + 1) (hd : 0 < deep) (hhi : deep ≤ 9223372036854775807) (h : Bin.Inv K s w) (hroom : (Bin.pr K).Room s) :
    Calls Tryz.prog 29 #[Bin.V K, .int .u8 13, .int .i64 deep] w (Bin.GetP K (d + 1) w (gt (Bin.pr K) (d + 1) 13 s)) := by
  go_enter Tryz.func29, Tryz.ntmps29
  go_wp2_with fail
  obtain ⟨hk0, hR, hV, hG, hs⟩ := getW_facts w 13
  obtain ⟨n0, hn⟩ : ∃ n0, w.heap.size = n0 := ⟨_, rfl⟩
  rw [hn] at hR hV hG hs ⊢
  unfold getW at hk0 hR hV hG hs
  generalize ((w.alloc (.cells zVal 34 (0, 0))).alloc (.cells (valC 13 0 nilB 0 0 (.slice none 0 0) (.slice none 0 0)) 34 (0, 0))).alloc (.cells zGot 95 (0, 0)) = w1 at *
  have HN := Lib.hid hn
  have HR := Lib.hid hR
  have HS := Lib.hid hs
  have HM := Lib.hid (Bin.M_new h hk0)
  obtain ⟨x0, x1, x2, x3, x4, x5, x6⟩ := got_cells hV
  clear hn hR hV hG hs
  refine (Bin.getMap K d ih deep s w1 hdd hd hhi (h.fresh hk0) hroom).mono ?_
  rintro e w3 ⟨T', N', Sa, Sm, Sc, KT', E', Ia, Im, Ic, La, Lm, Lc, ev, rfl, hp, hval⟩
  have hR3 := (hp.keep.block n0 (lt_of_heap HR.out) (fun x => by have := HM.out n0 x; have := HN.out; omega)).trans HR.out
  have HP := Lib.hid hp
  have HVAL := Lib.hid hval
  have HR3 := Lib.hid hR3
  clear x0 x1 x2 x3 x4 x5 x6
  obtain ⟨r0, r1, r2, r3, r4, r5, r6⟩ := got_cells hR3
  obtain ⟨z0, z1, z2, z3, z4, z5, z6⟩ := got_free hR3
  clear hp hval hR3
  go_wp2_with fail
  have hn0 := HN.out
  have hs1 := HS.out
  have hk9 := val_keep (M := fun i => n0 ≤ i ∧ i < n0 + 3) (Keep.refl _ w3) (R := n0) (fun _ => by omega) (.int .i64 T') (.int .i64 N') (.slice Sa Sm Sc) (.int .i64 KT') (.int .i64 E') (.slice Ia Im Ic) (.slice La Lm Lc)
  refine ret_cell2 (U := n0) (T := 34) Tryz.results29 rfl rfl rfl (val_set HR3.out (.int .i64 T') (.int .i64 N') (.slice Sa Sm Sc) (.int .i64 KT') (.int .i64 E') (.slice Ia Im Ic) (.slice La Lm Lc)) Tryz.underlying34 ival_size ?_
  refine ⟨T', N', Sa, Sm, Sc, KT', E', Ia, Im, Ic, La, Lm, Lc, ev, rfl, Bin.through h hk0 HP.out hk9 (fun i hi => by omega), fun hz => ?_⟩
  exact ((HVAL.out hz).keep hk9 (fun i hi e => by have := hi.1; omega)).weak (fun i _ hi => ⟨by have := hi.1; omega, fun x => hi.2 (Bin.through_M h hk0 HP.out hk9 (fun i hi => by omega) i x)⟩)

set_option maxRecDepth 100000 in
set_option maxHeartbeats 4000000 in
theorem Bin.get14 (K : Bin.Ctx) (d : Nat) (ih : Bin.Gets K d) (deep : Int) (s : Bin.St) (w : World) (hdd : deep.toNat = d + 1) (hd : 0 < deep) (hhi : deep ≤ 9223372036854775807) (h : Bin.Inv K s w) (hroom : (Bin.pr K).Room s) :
    Calls Tryz.prog 29 #[Bin.V K, .int .u8 14, .int .i64 deep] w (Bin.GetP K (d + 1) w (gt (Bin.pr K) (d + 1) 14 s)) := by
  go_enter Tryz.func29, Tryz.ntmps29
  go_wp2_with fail
  obtain ⟨hk0, hR, hV, hG, hs⟩ := getW_facts w 14
  obtain ⟨n0, hn⟩ : ∃ n0, w.heap.size = n0 := ⟨_, rfl⟩
  rw [hn] at hR hV hG hs ⊢
  unfold getW at hk0 hR hV hG hs
  generalize ((w.alloc (.cells zVal 34 (0, 0))).alloc (.cells (valC 14 0 nilB 0 0 (.slice none 0 0) (.slice none 0 0)) 34 (0, 0))).alloc (.cells zGot 95 (0, 0)) = w1 at *
  have HN := Lib.hid hn
  have HR := Lib.hid hR
  have HS := Lib.hid hs
  have HM := Lib.hid (Bin.M_new h hk0)
  obtain ⟨x0, x1, x2, x3, x4, x5, x6⟩ := got_cells hV
  clear hn hR hV hG hs
  refine (Bin.getList11 K d ih deep s w1 hdd hd hhi (h.fresh hk0) hroom).mono ?_
  rintro e w3 ⟨T', N', Sa, Sm, Sc, KT', E', Ia, Im, Ic, La, Lm, Lc, ev, rfl, hp, hval⟩
  have hR3 := (hp.keep.block n0 (lt_of_heap HR.out) (fun x => by have := HM.out n0 x; have := HN.out; omega)).trans HR.out
  have HP := Lib.hid hp
  have HVAL := Lib.hid hval
  have HR3 := Lib.hid hR3
  clear x0 x1 x2 x3 x4 x5 x6
  obtain ⟨r0, r1, r2, r3, r4, r5, r6⟩ := got_cells hR3
  obtain ⟨z0, z1, z2, z3, z4, z5, z6⟩ := got_free hR3
  clear hp hval hR3
  go_wp2_with fail
  have hn0 := HN.out
  have hs1 := HS.out
  have hk9 := val_keep (M := fun i => n0 ≤ i ∧ i < n0 + 3) (Keep.refl _ w3) (R := n0) (fun _ => by omega) (.int .i64 T') (.int .i64 N') (.slice Sa Sm Sc) (.int .i64 KT') (.int .i64 E') (.slice Ia Im Ic) (.slice La Lm Lc)
  refine ret_cell2 (U := n0) (T := 34) Tryz.results29 rfl rfl rfl (val_set HR3.out (.int .i64 T') (.int .i64 N') (.slice Sa Sm Sc) (.int .i64 KT') (.int .i64 E') (.slice Ia Im Ic) (.slice La Lm Lc)) Tryz.underlying34 ival_size ?_
  refine ⟨T', N', Sa, Sm, Sc, KT', E', Ia, Im, Ic, La, Lm, Lc, ev, rfl, Bin.through h hk0 HP.out hk9 (fun i hi => by omega), fun hz => ?_⟩
  exact ((HVAL.out hz).keep hk9 (fun i hi e => by have := hi.1; omega)).weak (fun i _ hi => ⟨by have := hi.1; omega, fun x => hi.2 (Bin.through_M h hk0 HP.out hk9 (fun i hi => by omega) i x)⟩)

set_option maxRecDepth 100000 in
set_option maxHeartbeats 4000000 in
theorem Bin.get15 (K : Bin.Ctx) (d : Nat) (ih : Bin.Gets K d) (deep : Int) (s : Bin.St) (w : World) (hdd : deep.toNat = d + 1) (hd : 0 < deep) (hhi : deep ≤ 9223372036854775807) (h : Bin.Inv K s w) (hroom : (Bin.pr K).Room s) :
    Calls Tryz.prog 29 #[Bin.V K, .int .u8 15, .int .i64 deep] w (Bin.GetP K (d + 1) w (gt (Bin.pr K) (d + 1) 15 s)) := by
  go_enter Tryz.func29, Tryz.ntmps29
  go_wp2_with fail
  obtain ⟨hk0, hR, hV, hG, hs⟩ := getW_facts w 15
  obtain ⟨n0, hn⟩ : ∃ n0, w.heap.size = n0 := ⟨_, rfl⟩
  rw [hn] at hR hV hG hs ⊢
  unfold getW at hk0 hR hV hG hs
  generalize ((w.alloc (.cells zVal 34 (0, 0))).alloc (.cells (valC 15 0 nilB 0 0 (.slice none 0 0) (.slice none 0 0)) 34 (0, 0))).alloc (.cells zGot 95 (0, 0)) = w1 at *
  have HN := Lib.hid hn
  have HR := Lib.hid hR
  have HS := Lib.hid hs
  have HM := Lib.hid (Bin.M_new h hk0)
  obtain ⟨x0, x1, x2, x3, x4, x5, x6⟩ := got_cells hV
  clear hn hR hV hG hs
  refine (Bin.getList9 K d ih deep s w1 hdd hd hhi (h.fresh hk0) hroom).mono ?_
  rintro e w3 ⟨T', N', Sa, Sm, Sc, KT', E', Ia, Im, Ic, La, Lm, Lc, ev, rfl, hp, hval⟩
  have hR3 := (hp.keep.block n0 (lt_of_heap HR.out) (fun x => by have := HM.out n0 x; have := HN.out; omega)).trans HR.out
  have HP := Lib.hid hp
  have HVAL := Lib.hid hval
  have HR3 := Lib.hid hR3
  clear x0 x1 x2 x3 x4 x5 x6
  obtain ⟨r0, r1, r2, r3, r4, r5, r6⟩ := got_cells hR3
  obtain ⟨z0, z1, z2, z3, z4, z5, z6⟩ := got_free hR3
  clear hp hval hR3
  go_wp2_with fail
  have hn0 := HN.out
  have hs1 := HS.out
  have hk9 := val_keep (M := fun i => n0 ≤ i ∧ i < n0 + 3) (Keep.refl _ w3) (R := n0) (fun _ => by omega) (.int .i64 T') (.int .i64 N') (.slice Sa Sm Sc) (.int .i64 KT') (.int .i64 E') (.slice Ia Im Ic) (.slice La Lm Lc)
  refine ret_cell2 (U := n0) (T := 34) Tryz.results29 rfl rfl rfl (val_set HR3.out (.int .i64 T') (.int .i64 N') (.slice Sa Sm Sc) (.int .i64 KT') (.int .i64 E') (.slice Ia Im Ic) (.slice La Lm Lc)) Tryz.underlying34 ival_size ?_
  refine ⟨T', N', Sa, Sm, Sc, KT', E', Ia, Im, Ic, La, Lm, Lc, ev, rfl, Bin.through h hk0 HP.out hk9 (fun i hi => by omega), fun hz => ?_⟩
  exact ((HVAL.out hz).keep hk9 (fun i hi e => by have := hi.1; omega)).weak (fun i _ hi => ⟨by have := hi.1; omega, fun x => hi.2 (Bin.through_M h hk0 HP.out hk9 (fun i hi => by omega) i x)⟩)

set_option maxRecDepth 100000 in
set_option maxHeartbeats 4000000 in
theorem Bin.get_other (K : Bin.Ctx) (d : Nat) (deep t : Int) (s : Bin.St) (w : World) (hd : 0 < deep) (h0 : 0 ≤ t) (h1 : t ≤ 255) (h : Bin.Inv K s w) (hsc : isSc t = false) (h12 : ¬ t = 12) (h13 : ¬ t = 13) (h14 : ¬ t = 14) (h15 : ¬ t = 15) :
    Calls Tryz.prog 29 #[Bin.V K, .int .u8 t, .int .i64 deep] w (Bin.GetP K (d + 1) w (51, s, V.zero)) := by
  have hle : ¬ deep ≤ 0 := by omega
  have htw : IntKind.i64.wrap t = t := IntWalk.i64_in _ (by omega)
  obtain ⟨g2, g3, g6, g8, g10, g4, g11, g16⟩ : ¬ t = 2 ∧ ¬ t = 3 ∧ ¬ t = 6 ∧ ¬ t = 8 ∧ ¬ t = 10 ∧ ¬ t = 4 ∧ ¬ t = 11 ∧ ¬ t = 16 := by
    simp [isSc] at hsc; omega
  go_enter Tryz.func29, Tryz.ntmps29
  go_wp2_with fail
  obtain ⟨hk0, hR, hV, hG, hs⟩ := getW_facts w t
  obtain ⟨n0, hn⟩ : ∃ n0, w.heap.size = n0 := ⟨_, rfl⟩
  rw [hn] at hR hV hG hs ⊢
  unfold getW at hk0 hR hV hG hs
  generalize ((w.alloc (.cells zVal 34 (0, 0))).alloc (.cells (valC t 0 nilB 0 0 (.slice none 0 0) (.slice none 0 0)) 34 (0, 0))).alloc (.cells zGot 95 (0, 0)) = w1 at *
  have HN := Lib.hid hn
  have HR := Lib.hid hR
  have HS := Lib.hid hs
  have HM := Lib.hid (Bin.M_new h hk0)
  obtain ⟨u0, u1, u2, u3, u4, u5, u6⟩ := got_cells hG
  obtain ⟨x0, x1, x2, x3, x4, x5, x6⟩ := got_cells hV
  obtain ⟨y0, y1, y2, y3, y4, y5, y6⟩ := got_free hV
  obtain ⟨r0, r1, r2, r3, r4, r5, r6⟩ := got_cells hR
  obtain ⟨z0, z1, z2, z3, z4, z5, z6⟩ := got_free hR
  have HV := Lib.hid hV
  clear hn hR hV hG hs
  go_region
  all_goals
    go_wp2_with fail
    have hn0 := HN.out
    have hs1 := HS.out
    have hR4 : ((w1.setCell ⟨n0 + 1, 1, none⟩ (.int .i64 0)).setCell ⟨n0 + 1, 2, none⟩ (.slice none 0 0)).heap[n0]? = some (.cells zVal 34 (0, 0)) := (heap_set_other (p := ⟨n0 + 1, 2, none⟩) _ (by simp)).trans ((heap_set_other (p := ⟨n0 + 1, 1, none⟩) _ (by simp)).trans HR.out)
    have hkN : Keep (fun i => n0 ≤ i ∧ i < n0 + 3) w1 w1 := Keep.refl _ _
    have hkW := (((((((((hkN.set (n0 + 1) 1 (fun _ => by omega) (.int .i64 0)).set (n0 + 1) 2 (fun _ => by omega) (.slice none 0 0)).set n0 0 (fun _ => by omega) (.int .i64 t)).set n0 1 (fun _ => by omega) (.int .i64 0)).set n0 2 (fun _ => by omega) (.slice none 0 0)).set n0 3 (fun _ => by omega) (.int .i64 0)).set n0 4 (fun _ => by omega) (.int .i64 0)).set n0 5 (fun _ => by omega) (.slice none 0 0)).set n0 6 (fun _ => by omega) (.slice none 0 0)).drew
    have hR5 := val_set hR4 (.int .i64 t) (.int .i64 0) (.slice none 0 0) (.int .i64 0) (.int .i64 0) (.slice none 0 0) (.slice none 0 0)
    generalize ((((((((w1.setCell ⟨n0 + 1, 1, none⟩ (.int .i64 0)).setCell ⟨n0 + 1, 2, none⟩ (.slice none 0 0)).setCell ⟨n0, 0, none⟩ (.int .i64 t)).setCell ⟨n0, 1, none⟩ (.int .i64 0)).setCell ⟨n0, 2, none⟩ (.slice none 0 0)).setCell ⟨n0, 3, none⟩ (.int .i64 0)).setCell ⟨n0, 4, none⟩ (.int .i64 0)).setCell ⟨n0, 5, none⟩ (.slice none 0 0)).setCell ⟨n0, 6, none⟩ (.slice none 0 0) = w4 at *
    have hR6 : w4.drew.heap[n0]? = some (.cells #[.int .i64 t, .int .i64 0, .slice none 0 0, .int .i64 0, .int .i64 0, .slice none 0 0, .slice none 0 0] 34 (0, 0)) := hR5
    refine ret_cell2 (U := n0) (T := 34) Tryz.results29 rfl rfl rfl hR6 Tryz.underlying34 ival_size ?_
    have hp : Bin.Post K w1 w1 51 (.iface 101 (.int .i64 51)) s := ⟨.inr (.inr (.inr (.inr ⟨by decide, by decide, rfl⟩))), fun e => absurd e (by decide), (h.fresh hk0).some, Kpt.refl _ _⟩
    exact ⟨t, 0, none, 0, 0, 0, 0, none, 0, 0, none, 0, 0, _, rfl, Bin.through h hk0 hp hkW (fun i hi => by omega), fun hz => absurd hz (by show ¬ (51 : Int) = 0; decide)⟩

theorem Bin.GetP.leaf {K : Bin.Ctx} {d : Nat} {w w' : World} {e : Ending} {k : Int} {s : Bin.St} {T N KT E : Int} {S : List UInt8} {IDs : List Int} (h : Bin.GetP K 1 w (k, s, .mk T N S KT E IDs []) e w') : Bin.GetP K (d + 1) w (k, s, .mk T N S KT E IDs []) e w' := by
  obtain ⟨T1, N1, a1, a2, a3, a4, a5, b1, b2, b3, c1, c2, c3, ev, h1, h2, h3⟩ := h
  refine ⟨T1, N1, a1, a2, a3, a4, a5, b1, b2, b3, c1, c2, c3, ev, h1, h2, fun hz => ?_⟩
  obtain ⟨sv, iv, lv, q1, q2, q3, q4⟩ := h3 hz
  exact ⟨sv, iv, lv, q1, q2, q3, .inl (q4.elim (fun x => x) (fun x => absurd rfl x.1))⟩

theorem Bin.gets (K : Bin.Ctx) (d : Nat) : Bin.Gets K d := by
  induction d with
  | zero => exact Bin.get_zero K
  | succ d ih =>
    intro deep t s w hd hlo hhi h0 h1 h hroom
    have hd0 : 0 < deep := by omega
    by_cases hsc : isSc t = true
    · have e : gt (Bin.pr K) (d + 1) t s = ((Bin.pr K).scK t s, (Bin.pr K).scS t s, .mk t ((Bin.pr K).scN t s) ((Bin.pr K).scB t s) 0 0 [] []) := by simp only [gt]; rw [if_pos hsc]
      rw [e]
      have ht : t = 2 ∨ t = 3 ∨ t = 6 ∨ t = 8 ∨ t = 10 ∨ t = 4 ∨ t = 11 ∨ t = 16 := by simpa [isSc, or_assoc] using hsc
      rcases ht with rfl | rfl | rfl | rfl | rfl | rfl | rfl | rfl
      · exact (Bin.gets2 K deep hd0 s w h).mono (fun e w' q => q.leaf)
      · exact (Bin.gets3 K deep hd0 s w h).mono (fun e w' q => q.leaf)
      · exact (Bin.gets6 K deep hd0 s w h).mono (fun e w' q => q.leaf)
      · exact (Bin.gets8 K deep hd0 s w h).mono (fun e w' q => q.leaf)
      · exact (Bin.gets10 K deep hd0 s w h).mono (fun e w' q => q.leaf)
      · exact (Bin.gets4 K deep hd0 s w h).mono (fun e w' q => q.leaf)
      · exact (Bin.gets11 K deep hd0 s w h).mono (fun e w' q => q.leaf)
      · exact (Bin.gets16 K deep hd0 s w h).mono (fun e w' q => q.leaf)
    · by_cases h12 : t = 12
      · subst h12
        have e : gt (Bin.pr K) (d + 1) 12 s = gflds (Bin.pr K) (gt (Bin.pr K) d) ((Bin.pr K).len ((Bin.pr K).sbS s) + 1) ((Bin.pr K).sbS s) [] [] := by simp [gt, isSc]
        rw [e]
        exact Bin.get12 K d ih deep s w hd hd0 hhi h hroom
      · by_cases h13 : t = 13
        · subst h13; exact Bin.get13 K d ih deep s w hd hd0 hhi h hroom
        · by_cases h14 : t = 14
          · subst h14; exact Bin.get14 K d ih deep s w hd hd0 hhi h hroom
          · by_cases h15 : t = 15
            · subst h15; exact Bin.get15 K d ih deep s w hd hd0 hhi h hroom
            · have e : gt (Bin.pr K) (d + 1) t s = (51, s, V.zero) := by
                simp only [gt]; rw [if_neg hsc, if_neg h12, if_neg h13, if_neg (by omega)]
              rw [e]
              exact Bin.get_other K d deep t s w hd0 h0 h1 h (by simpa using hsc) h12 h13 h14 h15

end Go.Proofs.YtpfifpgbnhdjnaaGreatDoor
