/- Part 25 of the proof: ImpMR. -/
import Derived.Test.YthehmlbolajljaaGreatDoorA21
import Derived.Test.YthehmlbolajljaaGreatDoorA24
import Derived.Test.YthehmlbolajljaaGreatDoorA15
import Derived.Test.YthehmlbolajljaaGreatDoorA18
import Derived.Test.YthehmlbolajljaaGreatDoorA17
import Derived.Deep.Cut
import Derived.Deep.CutBlock
import Derived.Deep.RegionHeld3
set_option linter.unusedVariables false
set_option linter.unusedSimpArgs false
set_option linter.unusedSectionVars false
namespace Go.Proofs.YthehmlbolajljaaGreatDoor
open Go Go.RowKit
def cvOpM : Op := Op.convert 9 24 (Operand.tmp 52)
theorem Rp.onward {St : Type} {K : Rp.Ctx St} {s s' : St} {w w1 w2 w3 : World} {k : Int} {ev : Value} (h : K.Inv s w) (hk0 : Keep (fun _ => False) w w1) (hp : Rp.Post K w1 w2 k ev s') (hk : Keep (fun _ => False) w2 w3) : Rp.Post K w w3 k ev s' :=
  Rp.through h hk0 hp hk (fun _ x => x.elim)
def Pm.MsgP {St : Type} (p : Pm St) (deep : Int) (l : List UInt8) (q : Int × St × _root_.Go.Proofs.YthehmlbolajljaaGreatDoor.V) (w : World) (e : Ending) (w' : World) : Prop :=
  ∃ na nm nc kd sq T N Sa Sm Sc KT E' Ia Im Ic La Lm Lc left, e = .returned (.tuple #[.slice na nm nc, .int .i64 kd, .int .i32 sq, .agg (valC T N (.slice Sa Sm Sc) KT E' (.slice Ia Im Ic) (.slice La Lm Lc)), .int .i64 q.1, .int .i64 left]) ∧
    (q.1 = 0 → left = p.pr.len q.2.1 ∧ kd = p.gT (p.st0 l) ∧ sq = p.gN (p.st0 l) ∧ (∃ A1, BytesAt A1 w' (.slice na nm nc) (p.gB (p.st0 l))) ∧ ∃ A', ValAt deep.toNat A' w' (valC T N (.slice Sa Sm Sc) KT E' (.slice Ia Im Ic) (.slice La Lm Lc)).toList q.2.2) ∧ Keep (fun _ => False) w w'
set_option maxRecDepth 100000 in
set_option maxHeartbeats 16000000 in
theorem Pm.impl_msg {St : Type} (p : Pm St) {E : Env} {A : Nat → Prop} (GETS : ∀ (K : Rp.Ctx St) (d : Nat), Rp.Gets K d) (deep : Int) (hd0 : -9223372036854775808 ≤ deep) (hd1 : deep ≤ 9223372036854775807) (v : Value) (l : List UInt8) (w : World) (hg : Glob E w) (h : BytesAt A w v l) (hl : l.length ≤ 1099511627775) (q : Int × St × _root_.Go.Proofs.YthehmlbolajljaaGreatDoor.V) (hq : msgR p.pr (p.gK (p.st0 l)) deep.toNat (p.gS (p.st0 l)) = q) :
    Calls Tryz.prog 9 #[.agg (confC p.no p.c), v, .int .i64 deep] w (p.MsgP deep l q w) := by
  have HQ := Lib.hid hq
  clear hq
  have hk0 : Keep (fun _ => False) w ((w.alloc (.cells (confC p.no p.c) 23 (0, 0))).alloc (.cells zVal 29 (0, 0))) := ((Keep.refl _ w).alloc _).alloc _
  have hc0 : ((w.alloc (.cells (confC p.no p.c) 23 (0, 0))).alloc (.cells zVal 29 (0, 0))).heap[w.heap.size]? = some (.cells (confC p.no p.c) 23 (0, 0)) := (Below.heap_alloc _ _ _ (by simp)).trans (heap_alloc_new w _)
  have hv0 : ((w.alloc (.cells (confC p.no p.c) 23 (0, 0))).alloc (.cells zVal 29 (0, 0))).heap[w.heap.size + 1]? = some (.cells zVal 29 (0, 0)) := heap_alloc_at (by simp) _
  have hs0 : ((w.alloc (.cells (confC p.no p.c) 23 (0, 0))).alloc (.cells zVal 29 (0, 0))).heap.size = w.heap.size + 2 := by simp
  go_enter Tryz.func9, Tryz.ntmps9
  go_wp2_with fail
  obtain ⟨n0, hn⟩ : ∃ n0, w.heap.size = n0 := ⟨_, rfl⟩
  rw [hn] at hc0 hv0 hs0 ⊢
  generalize (w.alloc (.cells (confC p.no p.c) 23 (0, 0))).alloc (.cells zVal 29 (0, 0)) = w1 at *
  have HN := Lib.hid hn
  have HC0 := Lib.hid hc0
  have HV0 := Lib.hid hv0
  have HS0 := Lib.hid hs0
  have HK0 := Lib.hid hk0
  clear hn hc0 hv0 hs0
  refine (holding_at (E := E) (h.keep hk0 (fun _ _ => id)) (Nat.le_trans hg.size hk0.size)).mono ?_
  rintro e w2 ⟨MB, B, D, rfl, hm, hk2, b1, b2, b3, b4, b5⟩
  obtain ⟨c0, c1, c2, c3, c4, c5, c6⟩ := conf_cells7 ((hk2.block n0 (lt_of_heap HC0.out) id).trans HC0.out)
  have hgk : Glob E w2 := hg.keep (hk0.then hk2) (fun _ x => x.elim)
  go_wp2_with fail
  refine (p.made (D := D) (l := l) hgk hm (by omega)).mono ?_
  rintro e w3 ⟨K, fb, fe, rfl, hKE, hpr, hinv, hk3, hKn, hbI, hbS, hmg⟩
  have HBI := Lib.hid hbI
  have HBS := Lib.hid hbS
  have HPR := Lib.hid hpr
  have HMG := Lib.hid hmg
  have HI := Lib.hid hinv
  have hsz2 : n0 + 2 ≤ w2.heap.size := by have := HS0.out; have := hk2.size; omega
  have HKN : Hid (∀ i, K.M w3 i → B = i ∨ n0 + 2 ≤ i) := Lib.hid (fun i x => (hKn i x).imp (fun y => y) (fun y => by omega))
  have HR3 := Lib.hid (((hk2.then hk3).block (n0 + 1) (lt_of_heap HV0.out) id).trans HV0.out)
  have HK13 := Lib.hid (hk2.then hk3)
  have hB2 : n0 + 2 ≤ B := by have := HS0.out; omega
  have hM2 : ¬ MB = n0 + 1 := by have := HS0.out; omega
  have hM3 : ¬ n0 + 1 = MB := fun e => hM2 e.symm
  clear c0 c1 c2 c3 c4 c5 c6 hinv hKn hk2 hk3 hk0 hm hgk b1 b2 b3 b4 b5 hbI hbS hpr hmg
  obtain ⟨hnam, hna, hnac⟩ := HMG.out.mb
  obtain ⟨hnbm, hnb, hnbc⟩ := HMG.out.me
  go_wp2_with fail
  go_cut [14, 15, 16, 17] from 26 to 36 (fun s14 s15 s16 s17 wx => ∃ l' t q' ev, s14 = .string l' ∧ s15 = .int .i32 t ∧ s16 = .int .i32 q' ∧ s17 = ev ∧ Rp.Post K w3.drew wx (p.gK (p.st0 l)) ev (p.gS (p.st0 l)) ∧ (p.gK (p.st0 l) = 0 → l' = ⟨(p.gB (p.st0 l)).toArray⟩ ∧ t = p.gT (p.st0 l) ∧ q' = p.gN (p.st0 l)))
  case first =>
    go_region_with (first | (go_at_call 28; refine (ctx_at _).mono ?_; rintro e w' ⟨rfl, rfl⟩) | (refine (HMG.out.rb (w := w3.drew) (HI.out.fresh ((Keep.refl _ w3).drew))).mono ?_; rintro e w4 ⟨l', t, q', ev, rfl, hp, hv⟩; have HP2 := Lib.hid hp; have HV2 := Lib.hid hv; clear hp hv))
    all_goals
      go_wp2_with fail
      go_simp
      go_meet
      exact ⟨_, _, _, _, rfl, rfl, rfl, rfl, HP2.out, HV2.out⟩
  case rest =>
  obtain ⟨l', t, q', ev, rfl, rfl, rfl, he, hp, hv⟩ := hcut
  have he := he.symm
  subst he
  have HV2 := Lib.hid hv
  clear hv
  have HP := Lib.hid hp
  clear hp
  generalize wc = wm at *
  have hkd3 := Rp.kept HI.out ((Keep.refl _ w3).drew)
  have HKP : Hid (Kpt (K.M) w3 wm) := Lib.hid (hkd3.then HP.out.keep)
  have hnR : ¬ K.M w3 (n0 + 1) := fun x => by rcases HKN.out _ x with e | e <;> omega
  have HNR := Lib.hid hnR
  have hR4 := (HKP.out.block (n0 + 1) (lt_of_heap HR3.out) hnR).trans HR3.out
  have HR4 := Lib.hid hR4
  have hs3 : n0 + 2 ≤ w3.heap.size := by have := HS0.out; have := HK13.out.size; omega
  have HKF : Hid (Keep (fun _ => False) w wm) := Lib.hid (((HK0.out.then HK13.out)).trans HKP.out.keep (fun i hi x => by have := HN.out; rcases HKN.out _ x with e | e <;> omega))
  have hkv : Keep (fun _ => False) wm (wm.alloc (.cells zVal 29 (0, 0))) := (Keep.refl _ wm).alloc _
  have hV5 := heap_alloc_new wm (.cells zVal 29 (0, 0))
  obtain ⟨V, hV⟩ : ∃ V, wm.heap.size = V := ⟨_, rfl⟩
  have HVW := Lib.hid hV
  have HVN : Hid (n0 + 2 ≤ V) := Lib.hid (by have := HKP.out.size; omega)
  have HS3 := Lib.hid hs3
  clear hkd3 hnR hR4 hs3
  go_upto_region 4 with fail
  iterate 5 (first | (go_says fail) | go_values | go_skip | go_guarded | go_step | go_upon | go_back)
  iterate 3 go_step
  rw [hV] at hV5
  generalize wm.alloc (.cells zVal 29 (0, 0)) = w5 at *
  have HKV := Lib.hid hkv
  have HV5 := Lib.hid hV5
  have HW5 : Hid (V < w5.heap.size) := Lib.hid (lt_of_heap hV5)
  clear hkv hV hV5
  go_cut [17] from 36 to 44 (fun s17 wx => ∃ T N Sa Sm Sc KT E' Ia Im Ic La Lm Lc ev, s17 = ev ∧ Rp.Post K w3 wx q.1 ev q.2.1 ∧ wx.heap[V]? = some (.cells (valC T N (.slice Sa Sm Sc) KT E' (.slice Ia Im Ic) (.slice La Lm Lc)) 29 (0, 0)) ∧ (q.1 = 0 → p.gK (p.st0 l) = 0 ∧ ValAt deep.toNat (V < ·) wx (valC T N (.slice Sa Sm Sc) KT E' (.slice Ia Im Ic) (.slice La Lm Lc)).toList q.2.2))
  case first =>
    by_cases hz : p.gK (p.st0 l) = 0
    · have hev : ev = .nilIface := by have := HP.out.err; rw [hz] at this; exact this.isNil
      subst hev
      have HI4 := Lib.hid (HP.out.inv hz)
      have HZ := Lib.hid hz
      have HQ1 : Hid (gt p.pr deep.toNat 12 (p.gS (p.st0 l)) = q) := Lib.hid (by rw [← HQ.out, msgR, if_pos hz])
      have HNV5 : Hid (¬ K.M w5 V) := Lib.hid (fun x => by have := Rp.M_new HI4.out HKV.out _ x; have := HVW.out; omega)
      clear hz
      go_wp2_with fail
      refine (GETS K deep.toNat deep 12 (p.gS (p.st0 l)) w5 rfl hd0 hd1 (by decide) (by decide) (HI4.out.fresh HKV.out) (by rw [HPR.out]; exact p.gS_room _ (p.room0 l hl))).mono ?_
      rintro e w6 ⟨T, N, Sa, Sm, Sc, KT, E', Ia, Im, Ic, La, Lm, Lc, ev, rfl, hpost, hval⟩
      rw [HPR.out, HQ1.out] at hpost hval
      have HV6 := Lib.hid ((hpost.keep.block V (lt_of_heap HV5.out) HNV5.out).trans HV5.out)
      have HPO := Lib.hid hpost
      have HVAL := Lib.hid hval
      obtain ⟨x0, x1, x2, x3, x4, x5, x6⟩ := got_cells HV6.out
      obtain ⟨z0, z1, z2, z3, z4, z5, z6⟩ := got_free HV6.out
      clear hpost hval
      have hV7 := val_set HV6.out (.int .i64 T) (.int .i64 N) (.slice Sa Sm Sc) (.int .i64 KT) (.int .i64 E') (.slice Ia Im Ic) (.slice La Lm Lc)
      have hk7 := val_keep (M := fun i => V = i) (Keep.refl _ w6) (R := V) (fun _ => rfl) (.int .i64 T) (.int .i64 N) (.slice Sa Sm Sc) (.int .i64 KT) (.int .i64 E') (.slice Ia Im Ic) (.slice La Lm Lc)
      have HK7 := Lib.hid hk7
      have HV7 := Lib.hid hV7
      clear hk7 hV7
      go_wp2_with fail
      go_meet
      have hth := (K.thru HI.out (HKP.out.then (Rp.kept HI4.out HKV.out)) (HI4.out.fresh HKV.out) HPO.out HK7.out (fun i e => by subst e; exact ⟨by have := HVW.out; have := HKP.out.size; omega, lt_of_heap HV5.out, HNV5.out⟩)).1
      exact ⟨T, N, Sa, Sm, Sc, KT, E', Ia, Im, Ic, La, Lm, Lc, _, rfl, hth, HV7.out, fun hz => ⟨HZ.out, ((HVAL.out hz).keep HK7.out (fun i y e => by have := y.1; have := HW5.out; omega)).weak (fun i _ y => by have := y.1; have := HW5.out; omega)⟩⟩
    · obtain ⟨ty, vx, rfl⟩ := HP.out.err.held hz
      have HZ := Lib.hid hz
      have HQ1 : Hid ((p.gK (p.st0 l), p.gS (p.st0 l), _root_.Go.Proofs.YthehmlbolajljaaGreatDoor.V.zero) = q) := Lib.hid (by rw [← HQ.out, msgR, if_neg hz])
      clear hz
      go_wp2_with fail
      go_meet
      rw [← HQ1.out]
      exact ⟨0, 0, none, 0, 0, 0, 0, none, 0, 0, none, 0, 0, _, rfl, Rp.onward HI.out ((Keep.refl _ w3).drew) HP.out HKV.out, HV5.out, fun hz => absurd hz HZ.out⟩
  case rest =>
  obtain ⟨T, N, Sa, Sm, Sc, KT, E', Ia, Im, Ic, La, Lm, Lc, ev7, he, hpo, hv7, hvl⟩ := hcut
  have he := he.symm
  subst he
  generalize wc = w7 at *
  have HPO := Lib.hid hpo
  have HV7 := Lib.hid hv7
  have HVL := Lib.hid hvl
  clear hpo hv7 hvl
  iterate 2 go_step
  go_cut [17] from 44 to 52 (fun s17 wx => ∃ ev, s17 = ev ∧ Rp.Post K w3 wx q.1 ev q.2.1 ∧ Keep (fun _ => False) w7 wx)
  case first =>
    by_cases hq0 : q.1 = 0
    · have hev : ev7 = .nilIface := by have := HPO.out.err; rw [hq0] at this; exact this.isNil
      subst hev
      have HQ0 := Lib.hid hq0
      clear hq0
      go_wp2_with fail
      go_region_with (first | (go_at_call 28; refine (ctx_at _).mono ?_; rintro e w' ⟨rfl, rfl⟩) | (refine (HMG.out.re _ _ _).mono ?_; rintro e w' ⟨rfl, rfl⟩))
      all_goals
        go_wp2_with fail
        go_simp
        go_meet
        have hkd7 : Keep (fun _ => False) w7 w7.drew := (Keep.refl _ w7).drew
        have hi := HPO.out.inv HQ0.out
        exact ⟨_, rfl, ⟨by rw [HQ0.out]; exact ErrAt.nil _ _ _, fun _ => hi.fresh hkd7, K.isSome (hi.fresh hkd7), HPO.out.keep.then (Rp.kept hi hkd7)⟩, hkd7⟩
    · obtain ⟨ty, vx, rfl⟩ := HPO.out.err.held hq0
      go_wp2_with fail
      go_meet
      exact ⟨_, rfl, HPO.out, Keep.refl _ _⟩
  case rest =>
  obtain ⟨evz, he, hpo, hk7z⟩ := hcut
  have he := he.symm
  subst he
  generalize wc = wz at *
  obtain ⟨D', s', hmz, hgz, hsl⟩ : ∃ D' s', Mem E wz MB B D' s' ∧ Glob E wz ∧ (q.1 = 0 → s'.length = p.pr.len q.2.1) := by
    obtain ⟨D', s', h1, h2⟩ := HBS.out _ hpo.some
    by_cases hz : q.1 = 0
    · obtain ⟨D2, h3⟩ := HBI.out _ _ (hpo.inv hz)
      exact ⟨D2, _, h3, h2, fun _ => (p.len _).symm⟩
    · exact ⟨D', s', h1, h2, fun e => absurd e hz⟩
  have HKZ : Hid (Keep (fun _ => False) w wz) := Lib.hid ((HK0.out.then HK13.out).trans hpo.keep.keep (fun i hi x => by have := HN.out; rcases HKN.out _ x with e | e <;> omega))
  have hnR : ¬ K.M w3 (n0 + 1) := fun x => by rcases HKN.out _ x with e | e <;> omega
  have HRZ := Lib.hid ((hpo.keep.block (n0 + 1) (lt_of_heap HR3.out) hnR).trans HR3.out)
  have HVZ := Lib.hid ((hk7z.block V (lt_of_heap HV7.out) id).trans HV7.out)
  have HVLZ : Hid (q.1 = 0 → p.gK (p.st0 l) = 0 ∧ ValAt deep.toNat (V < ·) wz (valC T N (.slice Sa Sm Sc) KT E' (.slice Ia Im Ic) (.slice La Lm Lc)).toList q.2.2) := Lib.hid (fun hz => ⟨(HVL.out hz).1, (HVL.out hz).2.keep hk7z (fun _ _ => id)⟩)
  have herr := hpo.err.mono (Nat.zero_le _)
  rw [hKE] at herr
  have HEZ := Lib.hid herr
  have HMB := Lib.hid hmz.mb
  have HBZ := Lib.hid hmz.buf
  have HGZ := Lib.hid hgz
  have HSL := Lib.hid hsl
  clear hpo hk7z hmz hgz hsl herr hnR
  have hcv := cv_run l'
  have hkd : Keep (fun _ => False) wz wz.drew := (Keep.refl _ wz).drew
  have hkc0 : Keep (fun _ => False) wz (cvW wz.drew l') := hkd.then (cvW_keep l' wz.drew)
  have hall : ∀ W, Keep (fun _ => False) wz W → W.cell? ⟨MB, 0, none⟩ = some (.pointer (some ⟨B, 0, none⟩)) ∧ W.heap[V]? = some (.cells (valC T N (.slice Sa Sm Sc) KT E' (.slice Ia Im Ic) (.slice La Lm Lc)) 29 (0, 0)) ∧ W.heap[n0 + 1]? = some (.cells zVal 29 (0, 0)) := fun W hW =>
    ⟨(hW.cell (p := ⟨MB, 0, none⟩) (lt_of_cell HMB.out) id).trans HMB.out, (hW.block V (lt_of_heap HVZ.out) id).trans HVZ.out, (hW.block (n0 + 1) (lt_of_heap HRZ.out) id).trans HRZ.out⟩
  have hkind : ∀ W, Keep (fun _ => False) wz W → Calls Tryz.prog 30 #[evz] W fun e w' => e = .returned (.int .i64 q.1) ∧ Keep (fun _ => False) wz w' ∧ Keep (fun _ => False) W w' := fun W hW =>
    (kind_any (HGZ.out.keep hW (fun _ x => x.elim)) (HEZ.out.keep hW (fun _ _ => id))).mono fun e w' ⟨h1, h2⟩ => ⟨h1, hW.then h2, h2⟩
  have hlen : ∀ W, Keep (fun _ => False) wz W → Calls Tryz.prog 31 #[.pointer (some ⟨B, 0, none⟩)] W fun e w' => e = .returned (.int .i64 s'.length) ∧ Keep (fun _ => False) wz w' ∧ Keep (fun _ => False) W w' := fun W hW =>
    (buf_len (HBZ.out.keep hW id id)).mono fun e w' ⟨h1, n, h2⟩ => ⟨h1, h2 ▸ hW.drewN n, h2 ▸ (Keep.refl _ W).drewN n⟩
  have HALL := Lib.hid hall
  have HKI := Lib.hid hkind
  have HLEN := Lib.hid hlen
  have hneV : ¬ V = n0 + 1 := by have := HVN.out; omega
  have hneV2 : ¬ n0 + 1 = V := fun e => hneV e.symm
  obtain ⟨a0, av, ar⟩ := hall _ (Keep.refl _ wz)
  obtain ⟨x0, x1, x2, x3, x4, x5, x6⟩ := got_cells av
  obtain ⟨r0, r1, r2, r3, r4, r5, r6⟩ := got_cells ar
  obtain ⟨z0, z1, z2, z3, z4, z5, z6⟩ := got_free ar
  obtain ⟨b0, bv, br⟩ := hall _ hkc0
  obtain ⟨y0, y1, y2, y3, y4, y5, y6⟩ := got_cells bv
  obtain ⟨p0, p1, p2, p3, p4, p5, p6⟩ := got_cells br
  obtain ⟨g0, g1, g2, g3, g4, g5, g6⟩ := got_free br
  clear hall hkind hlen av ar bv br
  go_wp2_with fail
  go_cut [6, 7, 8, 10, 11] from 52 to 65 (fun s6 s7 s8 s10 s11 wx => ∃ na nm nc W, s6 = .slice na nm nc ∧ s7 = .int .i64 (IntKind.i64.wrap t) ∧ s8 = .int .i32 q' ∧ s10 = .int .i64 q.1 ∧ s11 = .int .i64 s'.length ∧ wx = ((((((W.setCell ⟨n0 + 1, 0, none⟩ (.int .i64 T)).setCell ⟨n0 + 1, 1, none⟩ (.int .i64 N)).setCell ⟨n0 + 1, 2, none⟩ (.slice Sa Sm Sc)).setCell ⟨n0 + 1, 3, none⟩ (.int .i64 KT)).setCell ⟨n0 + 1, 4, none⟩ (.int .i64 E')).setCell ⟨n0 + 1, 5, none⟩ (.slice Ia Im Ic)).setCell ⟨n0 + 1, 6, none⟩ (.slice La Lm Lc) ∧ Keep (fun _ => False) wz W ∧ (l'.size ≤ 140737488355328 → BytesAt (wz.heap.size ≤ ·) W (.slice na nm nc) l'.data.toList))
  case first =>
    rw [show Op.convert 9 24 (Operand.tmp 52) = cvOpM from rfl]
    have hcvo : cvOpM = Op.convert 9 24 (Operand.tmp 52) := rfl
    go_region_held3 (fun w' => w'.cell? ⟨MB, 0, none⟩ = some (.pointer (some ⟨B, 0, none⟩)) ∧ w'.cell? ⟨V, 0, none⟩ = some (.int .i64 T) ∧ w'.cell? ⟨V, 1, none⟩ = some (.int .i64 N) ∧ w'.cell? ⟨V, 2, none⟩ = some (.slice Sa Sm Sc) ∧ w'.cell? ⟨V, 3, none⟩ = some (.int .i64 KT) ∧ w'.cell? ⟨V, 4, none⟩ = some (.int .i64 E') ∧ w'.cell? ⟨V, 5, none⟩ = some (.slice Ia Im Ic) ∧ w'.cell? ⟨V, 6, none⟩ = some (.slice La Lm Lc)) (go_keep) (first | (go_at_call 30; refine (HKI.out _ (by assumption)).mono ?_; rintro e w6 ⟨rfl, hk6, hkW6⟩; have hkc6 := hk6.then (cvW_keep l' w6); obtain ⟨a0, av, ar⟩ := HALL.out _ hk6; obtain ⟨x0, x1, x2, x3, x4, x5, x6⟩ := got_cells av; obtain ⟨r0, r1, r2, r3, r4, r5, r6⟩ := got_cells ar; obtain ⟨z0, z1, z2, z3, z4, z5, z6⟩ := got_free ar; obtain ⟨b0, bv, br⟩ := HALL.out _ hkc6; obtain ⟨y0, y1, y2, y3, y4, y5, y6⟩ := got_cells bv; obtain ⟨p0, p1, p2, p3, p4, p5, p6⟩ := got_cells br; obtain ⟨g0, g1, g2, g3, g4, g5, g6⟩ := got_free br; clear av ar bv br) | (go_at_call 31; refine (HLEN.out _ (by assumption)).mono ?_; rintro e w7 ⟨rfl, hk7, hkW7⟩; have hkc7 := hk7.then (cvW_keep l' w7); obtain ⟨a0, av, ar⟩ := HALL.out _ hk7; obtain ⟨x0, x1, x2, x3, x4, x5, x6⟩ := got_cells av; obtain ⟨r0, r1, r2, r3, r4, r5, r6⟩ := got_cells ar; obtain ⟨z0, z1, z2, z3, z4, z5, z6⟩ := got_free ar; obtain ⟨b0, bv, br⟩ := HALL.out _ hkc7; obtain ⟨y0, y1, y2, y3, y4, y5, y6⟩ := got_cells bv; obtain ⟨p0, p1, p2, p3, p4, p5, p6⟩ := got_cells br; obtain ⟨g0, g1, g2, g3, g4, g5, g6⟩ := got_free br; clear av ar bv br))
    all_goals
      go_wp2_with fail
      go_simp
      go_meet
      refine ⟨_, _, _, _, rfl, rfl, rfl, rfl, rfl, rfl, by assumption, ?_⟩
      first
        | exact fun hl => (((cv_at l' _ hl).keep hkW6 (fun _ _ => id)).keep hkW7 (fun _ _ => id)).weak (fun i _ hi => Nat.le_trans hkd.size hi)
        | exact fun hl => ((cv_at l' _ hl).keep hkW7 (fun _ _ => id)).weak (fun i _ hi => Nat.le_trans hk6.size hi)
        | exact fun hl => (cv_at l' _ hl).weak (fun i _ hi => Nat.le_trans hk7.size hi)
  case rest =>
  obtain ⟨na, nm, nc, W, rfl, rfl, rfl, rfl, rfl, rfl, hkz, hbs⟩ := hcut
  go_wp2_with fail
  have hn0 := HN.out
  have hR9 := val_set (HALL.out _ hkz).2.2 (.int .i64 T) (.int .i64 N) (.slice Sa Sm Sc) (.int .i64 KT) (.int .i64 E') (.slice Ia Im Ic) (.slice La Lm Lc)
  have hkW9 := val_keep (M := fun i => n0 + 1 = i) (Keep.refl _ W) (R := n0 + 1) (fun _ => rfl) (.int .i64 T) (.int .i64 N) (.slice Sa Sm Sc) (.int .i64 KT) (.int .i64 E') (.slice Ia Im Ic) (.slice La Lm Lc)
  generalize ((((((W.setCell ⟨n0 + 1, 0, none⟩ (.int .i64 T)).setCell ⟨n0 + 1, 1, none⟩ (.int .i64 N)).setCell ⟨n0 + 1, 2, none⟩ (.slice Sa Sm Sc)).setCell ⟨n0 + 1, 3, none⟩ (.int .i64 KT)).setCell ⟨n0 + 1, 4, none⟩ (.int .i64 E')).setCell ⟨n0 + 1, 5, none⟩ (.slice Ia Im Ic)).setCell ⟨n0 + 1, 6, none⟩ (.slice La Lm Lc) = w9 at *
  refine ret_cell6 (U := n0 + 1) (T := 29) Tryz.results9 rfl rfl rfl rfl rfl rfl rfl hR9 Tryz.underlying29 ival_size ?_
  refine ⟨na, nm, nc, IntKind.i64.wrap t, q', T, N, Sa, Sm, Sc, KT, E', Ia, Im, Ic, La, Lm, Lc, _, rfl, fun hz => ?_, (HKZ.out.then hkz).trans hkW9 (fun i hi e => by omega)⟩
  obtain ⟨hg0, hvz⟩ := HVLZ.out hz
  obtain ⟨hl1, ht1, hq1⟩ := HV2.out hg0
  have hrz := lt_of_heap HRZ.out
  have hvn := HVN.out
  refine ⟨by rw [HSL.out hz], by rw [ht1]; exact p.gT_w _, hq1, ⟨(wz.heap.size ≤ ·), ?_⟩, ⟨(V < ·), ?_⟩⟩
  rotate_left
  · exact (hvz.keep hkz (fun _ _ => id)).keep hkW9 (fun i hi e => by omega)
  have hb := hbs (by rw [hl1]; exact p.gB_le l (by omega))
  rw [hl1] at hb
  exact BytesAt.keep (A := (wz.heap.size ≤ ·)) hb hkW9 (fun i hi e => by omega)
end Go.Proofs.YthehmlbolajljaaGreatDoor
