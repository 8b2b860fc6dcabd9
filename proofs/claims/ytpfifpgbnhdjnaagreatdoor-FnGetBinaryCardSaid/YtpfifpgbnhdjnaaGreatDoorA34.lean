/- Part 34 of the proof: ImpGBin, SpGBin. -/
import Derived.Test.YtpfifpgbnhdjnaaGreatDoorA21
import Derived.Test.YtpfifpgbnhdjnaaGreatDoorA30
import Derived.Test.YtpfifpgbnhdjnaaGreatDoorA15
import Derived.Test.YtpfifpgbnhdjnaaGreatDoorA33
set_option linter.unusedVariables false
set_option linter.unusedSimpArgs false
set_option linter.unusedSectionVars false
/- The thin package: Get. -/
namespace Go.Proofs.YtpfifpgbnhdjnaaGreatDoor
open Go Go.RowKit

theorem Bin.ty8_bd (t : Int) : 0 ≤ ty8 t ∧ ty8 t ≤ 255 := by
  unfold ty8; simp [IntKind.wrap, IntKind.bits, IntKind.signed]; omega

set_option maxRecDepth 100000 in
set_option maxHeartbeats 4000000 in
theorem Bin.impl_get {E : Env} {A : Nat → Prop} (c : Cfg) (hc : c.ok) (t deep : Int) (hd0 : -9223372036854775808 ≤ deep) (hd1 : deep ≤ 9223372036854775807) (v : Value) (l : List UInt8) (w : World) (hg : Glob E w) (h : BytesAt A w v l) (hl : l.length ≤ 1099511627775) (r : Int × Bin.St × _root_.Go.Proofs.YtpfifpgbnhdjnaaGreatDoor.V) (hr : gt (Bin.pr (Bin.K0 c)) deep.toNat (ty8 t) (Bin.st0 l) = r) :
    Calls Tryz.prog 14 #[.agg (confC Bin.no c), .int .i64 t, v, .int .i64 deep] w fun e w' => ∃ T N Sa Sm Sc KT E' Ia Im Ic La Lm Lc left, e = .returned (.tuple #[.agg (valC T N (.slice Sa Sm Sc) KT E' (.slice Ia Im Ic) (.slice La Lm Lc)), .int .i64 r.1, .int .i64 left]) ∧
      (r.1 = 0 → left = (Bin.pr (Bin.K0 c)).len r.2.1 ∧ ∃ A', ValAt deep.toNat A' w' (valC T N (.slice Sa Sm Sc) KT E' (.slice Ia Im Ic) (.slice La Lm Lc)).toList r.2.2) ∧ Keep (fun _ => False) w w' := by
  have HR := Lib.hid hr
  clear hr
  have hty := Bin.ty8_bd t
  have hk0 : Keep (fun _ => False) w ((w.alloc (.cells (confC Bin.no c) 23 (0, 0))).alloc (.cells zVal 34 (0, 0))) := ((Keep.refl _ w).alloc _).alloc _
  have hc0 : ((w.alloc (.cells (confC Bin.no c) 23 (0, 0))).alloc (.cells zVal 34 (0, 0))).heap[w.heap.size]? = some (.cells (confC Bin.no c) 23 (0, 0)) := (Below.heap_alloc _ _ _ (by simp)).trans (heap_alloc_new w _)
  have hv0 : ((w.alloc (.cells (confC Bin.no c) 23 (0, 0))).alloc (.cells zVal 34 (0, 0))).heap[w.heap.size + 1]? = some (.cells zVal 34 (0, 0)) := heap_alloc_at (by simp) _
  have hs0 : ((w.alloc (.cells (confC Bin.no c) 23 (0, 0))).alloc (.cells zVal 34 (0, 0))).heap.size = w.heap.size + 2 := by simp
  go_enter Tryz.func14, Tryz.ntmps14
  go_wp2_with fail
  obtain ⟨n0, hn⟩ : ∃ n0, w.heap.size = n0 := ⟨_, rfl⟩
  rw [hn] at hc0 hv0 hs0 ⊢
  generalize (w.alloc (.cells (confC Bin.no c) 23 (0, 0))).alloc (.cells zVal 34 (0, 0)) = w1 at *
  have HN := Lib.hid hn
  have HC0 := Lib.hid hc0
  have HV0 := Lib.hid hv0
  have HS0 := Lib.hid hs0
  clear hn hc0 hv0 hs0
  refine (holding_at (E := E) (h.keep hk0 (fun _ _ => id)) (Nat.le_trans hg.size hk0.size)).mono ?_
  rintro e w2 ⟨MB, B, D, rfl, hm, hk2, b1, b2, b3, b4, b5⟩
  obtain ⟨c0, c1, c2, c3, c4, c5, c6⟩ := conf_cells7 ((hk2.block n0 (lt_of_heap HC0.out) id).trans HC0.out)
  have hgk : Glob E w2 := hg.keep (hk0.then hk2) (fun _ x => x.elim)
  go_wp2_with fail
  refine (Bin.made (E := E) (D := D) (c := c) (l := l) hgk hm hc (by omega)).mono ?_
  rintro e w3 ⟨K, rfl, hKE, hKM, hKB, hKc, hinv, hk3, hKn⟩
  have HI := Lib.hid hinv
  clear c0 c1 c2 c3 c4 c5 c6 hinv
  go_wp2_with fail
  refine (typ_at t _).mono ?_
  rintro e w' ⟨rfl, rfl⟩
  go_wp2_with fail
  refine (Bin.gets K deep.toNat deep (ty8 t) (Bin.st0 l) _ rfl hd0 hd1 hty.1 hty.2 HI.out (Bin.room0 K l hl)).mono ?_
  rintro e w4 ⟨T, N, Sa, Sm, Sc, KT, E', Ia, Im, Ic, La, Lm, Lc, ev, rfl, hpost, hval⟩
  have hpc := Bin.pr_c' K
  rw [hKc] at hpc
  rw [hpc, HR.out] at hpost hval
  obtain ⟨D', s', hs, hgl, hsz⟩ : ∃ D' s', Mem K.E w4 K.MB K.B D' s' ∧ Glob K.E w4 ∧ (r.1 = 0 → s'.length = (Bin.pr (Bin.K0 c)).len r.2.1) := by
    by_cases hz : r.1 = 0
    · obtain ⟨D', hD'⟩ := Bin.bufI (hpost.inv hz)
      obtain ⟨_, _, _, hgl⟩ := Bin.bufS (hpost.inv hz).some
      exact ⟨D', _, hD', hgl, fun _ => (Bin.len _ _).symm⟩
    · obtain ⟨D', s', h1, h2⟩ := Bin.bufS hpost.some
      exact ⟨D', s', h1, h2, fun h => absurd h hz⟩
  rw [hKE] at hs hgl
  rw [hKM, hKB] at hs
  have he4 : ErrAt E w3.heap.size w4 ev r.1 := hKE ▸ hpost.err
  have HK := Lib.hid hpost.keep.keep
  have HSZ := Lib.hid hsz
  have HVAL := Lib.hid hval
  have HKN := Lib.hid hKn
  have HE4 := Lib.hid he4
  have HS := Lib.hid hs
  have HGL := Lib.hid hgl
  clear hpost hval hpc hsz hKn he4 hs hgl
  go_wp2_with fail
  have hk5 : Keep (fun _ => False) w4 (w4.alloc (.cells (valC T N (.slice Sa Sm Sc) KT E' (.slice Ia Im Ic) (.slice La Lm Lc)) 34 (0, 0))) := (Keep.refl _ w4).alloc _
  have hV5 := heap_alloc_new w4 (.cells (valC T N (.slice Sa Sm Sc) KT E' (.slice Ia Im Ic) (.slice La Lm Lc)) 34 (0, 0))
  obtain ⟨V, hV⟩ : ∃ V, w4.heap.size = V := ⟨_, rfl⟩
  rw [hV] at hV5 ⊢
  generalize w4.alloc (.cells (valC T N (.slice Sa Sm Sc) KT E' (.slice Ia Im Ic) (.slice La Lm Lc)) 34 (0, 0)) = w5 at *
  have hmb : w5.cell? ⟨MB, 0, none⟩ = some (.pointer (some ⟨B, 0, none⟩)) := (hk5.cell (p := ⟨MB, 0, none⟩) (lt_of_cell HS.out.mb) id).trans HS.out.mb
  have hkA : Keep (fun i => B = i ∨ w2.heap.size ≤ i) w1 w5 := ((hk2.then hk3).weak (fun _ _ x => x.elim)).then ((HK.out.weak (fun i _ x => HKN.out i x)).then (hk5.weak (fun _ _ x => x.elim)))
  have hn1 := HS0.out
  have hn2 := hk2.size
  have hR5 := (hkA.block (n0 + 1) (by omega) (by rintro (e | e) <;> omega)).trans HV0.out
  have hltR := lt_of_heap hR5
  have hltV := lt_of_heap hV5
  have hne3 : ¬ V = n0 + 1 := by have := hk3.size; have := HK.out.size; omega
  have hne4 : ¬ n0 + 1 = V := fun e => hne3 e.symm
  have hall : ∀ W, Keep (fun _ => False) w5 W → W.cell? ⟨MB, 0, none⟩ = some (.pointer (some ⟨B, 0, none⟩)) ∧ W.heap[V]? = some (.cells (valC T N (.slice Sa Sm Sc) KT E' (.slice Ia Im Ic) (.slice La Lm Lc)) 34 (0, 0)) ∧ W.heap[n0 + 1]? = some (.cells zVal 34 (0, 0)) := fun W hW =>
    ⟨(hW.cell (p := ⟨MB, 0, none⟩) (lt_of_cell hmb) id).trans hmb, (hW.block V hltV id).trans hV5, (hW.block (n0 + 1) hltR id).trans hR5⟩
  have hkind : ∀ W, Keep (fun _ => False) w5 W → Calls Tryz.prog 32 #[ev] W fun e w' => e = .returned (.int .i64 r.1) ∧ Keep (fun _ => False) w5 w' := fun W hW =>
    (kind_any (HGL.out.keep (hk5.then hW) (fun _ x => x.elim)) (HE4.out.keep (hk5.then hW) (fun _ _ => id))).mono fun e w' ⟨h1, h2⟩ => ⟨h1, hW.then h2⟩
  have hlen : ∀ W, Keep (fun _ => False) w5 W → Calls Tryz.prog 33 #[.pointer (some ⟨B, 0, none⟩)] W fun e w' => e = .returned (.int .i64 s'.length) ∧ Keep (fun _ => False) w5 w' := fun W hW =>
    (buf_len (HS.out.buf.keep (hk5.then hW) id id)).mono fun e w' ⟨h1, n, h2⟩ => ⟨h1, h2 ▸ hW.drewN n⟩
  have hkd : Keep (fun _ => False) w5 w5.drew := (Keep.refl _ w5).drew
  have HALL := Lib.hid hall
  have HKI := Lib.hid hkind
  have HLEN := Lib.hid hlen
  have HKA := Lib.hid hkA
  have HK5 := Lib.hid hk5
  obtain ⟨x0, x1, x2, x3, x4, x5, x6⟩ := got_cells hV5
  obtain ⟨r0, r1, r2, r3, r4, r5, r6⟩ := got_cells hR5
  obtain ⟨z0, z1, z2, z3, z4, z5, z6⟩ := got_free hR5
  clear hlen hkind hall hV5 hR5 hkA hn1 hn2 hV hk5
  go_region_with (first | (go_at_call 32; refine (HKI.out _ (by assumption)).mono ?_; rintro e w6 ⟨rfl, hk6⟩; obtain ⟨hc6, hv6, hr6⟩ := HALL.out _ hk6; obtain ⟨x0, x1, x2, x3, x4, x5, x6⟩ := got_cells hv6; obtain ⟨r0, r1, r2, r3, r4, r5, r6⟩ := got_cells hr6; obtain ⟨z0, z1, z2, z3, z4, z5, z6⟩ := got_free hr6; clear hv6 hr6) | (go_at_call 33; refine (HLEN.out _ (by assumption)).mono ?_; rintro e w7 ⟨rfl, hk7⟩; obtain ⟨hc7, hv7, hr7⟩ := HALL.out _ hk7; obtain ⟨x0, x1, x2, x3, x4, x5, x6⟩ := got_cells hv7; obtain ⟨r0, r1, r2, r3, r4, r5, r6⟩ := got_cells hr7; obtain ⟨z0, z1, z2, z3, z4, z5, z6⟩ := got_free hr7; clear hv7 hr7))
  all_goals
    go_wp2_with fail
    have hn0 := HN.out
    have hn1 := HS0.out
    have hR9 := val_set (HALL.out _ hk7).2.2 (.int .i64 T) (.int .i64 N) (.slice Sa Sm Sc) (.int .i64 KT) (.int .i64 E') (.slice Ia Im Ic) (.slice La Lm Lc)
    have hk49 := val_keep (M := fun i => n0 + 1 = i) ((HK5.out.then hk7).weak (fun _ _ x => x.elim)) (R := n0 + 1) (fun _ => rfl) (.int .i64 T) (.int .i64 N) (.slice Sa Sm Sc) (.int .i64 KT) (.int .i64 E') (.slice Ia Im Ic) (.slice La Lm Lc)
    have hk9 := val_keep (M := fun _ => False) (hk0.trans (HKA.out.then (hk7.weak (fun _ _ x => x.elim))) (fun i hi e => by omega)) (R := n0 + 1) (fun h => by omega) (.int .i64 T) (.int .i64 N) (.slice Sa Sm Sc) (.int .i64 KT) (.int .i64 E') (.slice Ia Im Ic) (.slice La Lm Lc)
    generalize ((((((w7.setCell ⟨n0 + 1, 0, none⟩ (.int .i64 T)).setCell ⟨n0 + 1, 1, none⟩ (.int .i64 N)).setCell ⟨n0 + 1, 2, none⟩ (.slice Sa Sm Sc)).setCell ⟨n0 + 1, 3, none⟩ (.int .i64 KT)).setCell ⟨n0 + 1, 4, none⟩ (.int .i64 E')).setCell ⟨n0 + 1, 5, none⟩ (.slice Ia Im Ic)).setCell ⟨n0 + 1, 6, none⟩ (.slice La Lm Lc) = w9 at *
    have hv9 : r.1 = 0 → ∃ A', ValAt deep.toNat A' w9 (valC T N (.slice Sa Sm Sc) KT E' (.slice Ia Im Ic) (.slice La Lm Lc)).toList r.2.2 := fun hz => ⟨_, (HVAL.out hz).keep hk49 (fun i hi e => by have := hi.1; have := hk2.size; have := hk3.size; omega)⟩
    simp only [Act.put, List.getElem_toArray, List.getElem_cons_zero, List.getElem_cons_succ, List.setIfInBounds_toArray, List.set_cons_zero, List.set_cons_succ]
    refine ret_cell3 (U := n0 + 1) (T := 34) Tryz.results14 rfl rfl rfl rfl hR9 Tryz.underlying34 ival_size ?_
    exact ⟨T, N, Sa, Sm, Sc, KT, E', Ia, Im, Ic, La, Lm, Lc, _, rfl, fun hz => ⟨by rw [HSZ.out hz], hv9 hz⟩, hk9⟩

end Go.Proofs.YtpfifpgbnhdjnaaGreatDoor

/- The reference: Get. -/
namespace Go.Proofs.YtpfifpgbnhdjnaaGreatDoor
open Go Go.RowKit

set_option maxRecDepth 100000 in
set_option maxHeartbeats 4000000 in
theorem Bin.spec_get {A : Nat → Prop} (c : Cfg) (hc : c.ok) (t deep : Int) (hd0 : -9223372036854775808 ≤ deep) (hd1 : deep ≤ 9223372036854775807) (v : Value) (l : List UInt8) (w : World) (h : BytesAt A w v l) (hl : l.length ≤ 1099511627775) (q : Int × Bin.St × _root_.Go.Proofs.YtpfifpgbnhdjnaaGreatDoor.V) (hr : gt (Bin.pr (Bin.K0 c)) deep.toNat (ty8 t) (Bin.st0 l) = q) :
    Calls Tryz.prog 15 #[confV Bin.no c, .int .i64 t, v, .int .i64 deep] w fun e w' => ∃ T N Sa Sm Sc KT E' Ia Im Ic La Lm Lc x left, e = .returned (.tuple #[.agg (valC T N (.slice Sa Sm Sc) KT E' (.slice Ia Im Ic) (.slice La Lm Lc)), .int .i64 x, .int .i64 left]) ∧ Sk q.1 x ∧
      (x = 0 → left = (Bin.pr (Bin.K0 c)).len q.2.1 ∧ ∃ A', ValAt deep.toNat A' w' (valC T N (.slice Sa Sm Sc) KT E' (.slice Ia Im Ic) (.slice La Lm Lc)).toList q.2.2) ∧ Keep (fun _ => False) w w' := by
  have HR := Lib.hid hr
  clear hr
  have ha := and_255 t
  have hk0 : Keep (fun _ => False) w ((w.alloc (.cells (confC Bin.no c) 42 (0, 0))).alloc (.cells sVal 39 (0, 0))) := ((Keep.refl _ w).alloc _).alloc _
  have hv0 : ((w.alloc (.cells (confC Bin.no c) 42 (0, 0))).alloc (.cells sVal 39 (0, 0))).heap[w.heap.size + 1]? = some (.cells sVal 39 (0, 0)) := heap_alloc_at (by simp) _
  have hs0 : ((w.alloc (.cells (confC Bin.no c) 42 (0, 0))).alloc (.cells sVal 39 (0, 0))).heap.size = w.heap.size + 2 := by simp
  go_enter Tryz.func15, Tryz.ntmps15
  go_wp2_with fail
  obtain ⟨n0, hn⟩ : ∃ n0, w.heap.size = n0 := ⟨_, rfl⟩
  rw [hn] at hv0 hs0 ⊢
  generalize (w.alloc (.cells (confC Bin.no c) 42 (0, 0))).alloc (.cells sVal 39 (0, 0)) = w1 at *
  have HN := Lib.hid hn
  have HV0 := Lib.hid hv0
  have HS0 := Lib.hid hs0
  clear hn hv0 hs0
  refine (Bin.newReader c hc v l w1 (h.keep hk0 (fun _ _ => id)) (by omega)).mono ?_
  rintro e w2 ⟨r, rfl, ok, hpr, hi, hk2, hM, hleft⟩
  have HL := Lib.hid hleft
  have HM := Lib.hid hM
  clear hleft hM
  go_wp2_with fail
  refine (Rdr.gets ok deep.toNat deep (ty8 t) (Bin.st0 l) w2 rfl hd0 hd1 hi (by rw [hpr]; exact Bin.room0 _ l hl)).mono ?_
  rintro e w4 ⟨T, N, Sa, Sm, Sc, KT, E', Ia, Im, Ic, La, Lm, Lc, x, rfl, hx, ⟨s2, h4, hr4⟩, hk4, hval⟩
  rw [hpr, HR.out] at hx hr4 hval
  have HX := Lib.hid hx
  have H4 := Lib.hid hr4
  have HVAL := Lib.hid hval
  have HK4 := Lib.hid hk4.keep
  clear hx hr4 hval hk4
  go_wp2_with fail
  have hk5 : Keep (fun _ => False) w4 (w4.alloc (.cells (valC T N (.slice Sa Sm Sc) KT E' (.slice Ia Im Ic) (.slice La Lm Lc)) 39 (0, 0))) := (Keep.refl _ w4).alloc _
  have hV5 := heap_alloc_new w4 (.cells (valC T N (.slice Sa Sm Sc) KT E' (.slice Ia Im Ic) (.slice La Lm Lc)) 39 (0, 0))
  obtain ⟨V, hV⟩ : ∃ V, w4.heap.size = V := ⟨_, rfl⟩
  rw [hV] at hV5 ⊢
  generalize w4.alloc (.cells (valC T N (.slice Sa Sm Sc) KT E' (.slice Ia Im Ic) (.slice La Lm Lc)) 39 (0, 0)) = w5 at *
  have hn1 := HS0.out
  have hkA : Keep (fun i => w1.heap.size ≤ i) w1 w5 := (hk2.weak (fun _ _ x => x.elim)).then ((HK4.out.weak (fun i _ x => HM.out i x)).then (hk5.weak (fun _ _ x => x.elim)))
  have hR5 := (hkA.block (n0 + 1) (by omega) (by omega)).trans HV0.out
  have hne3 : ¬ V = n0 + 1 := by have := hk2.size; have := HK4.out.size; omega
  have hne4 : ¬ n0 + 1 = V := fun e => hne3 e.symm
  have hleft := HL.out s2 w5.drew (ok.fresh h4 hk5.drew)
  have HLEFT := Lib.hid hleft
  have HKA := Lib.hid hkA
  have HK5 := Lib.hid hk5
  have HR5 := Lib.hid hR5
  obtain ⟨x0, x1, x2, x3, x4, x5, x6⟩ := got_cells hV5
  obtain ⟨r0, r1, r2, r3, r4, r5, r6⟩ := got_cells hR5
  obtain ⟨z0, z1, z2, z3, z4, z5, z6⟩ := got_free hR5
  clear hleft hV5 hR5 hkA hn1 hV hk5
  go_region_with (go_at_call 36; refine HLEFT.out.mono ?_; rintro e w6 ⟨rfl, rfl⟩)
  all_goals
    go_wp2_with fail
    have hn0 := HN.out
    have hn1 := HS0.out
    have hR9 := sval_set HR5.out (.int .i64 T) (.int .i64 N) (.slice Sa Sm Sc) (.int .i64 KT) (.int .i64 E') (.slice Ia Im Ic) (.slice La Lm Lc)
    have hk49 := sval_keep (M := fun i => n0 + 1 = i) (HK5.out.weak (fun _ _ x => x.elim)) (R := n0 + 1) (fun _ => rfl) (.int .i64 T) (.int .i64 N) (.slice Sa Sm Sc) (.int .i64 KT) (.int .i64 E') (.slice Ia Im Ic) (.slice La Lm Lc)
    have hk9 := sval_keep (M := fun _ => False) (hk0.trans HKA.out (fun i hi e => by omega)) (R := n0 + 1) (fun h => by omega) (.int .i64 T) (.int .i64 N) (.slice Sa Sm Sc) (.int .i64 KT) (.int .i64 E') (.slice Ia Im Ic) (.slice La Lm Lc)
    generalize ((((((w5.setCell ⟨n0 + 1, 0, none⟩ (.int .i64 T)).setCell ⟨n0 + 1, 1, none⟩ (.int .i64 N)).setCell ⟨n0 + 1, 2, none⟩ (.slice Sa Sm Sc)).setCell ⟨n0 + 1, 3, none⟩ (.int .i64 KT)).setCell ⟨n0 + 1, 4, none⟩ (.int .i64 E')).setCell ⟨n0 + 1, 5, none⟩ (.slice Ia Im Ic)).setCell ⟨n0 + 1, 6, none⟩ (.slice La Lm Lc) = w9 at *
    have hv9 : x = 0 → ∃ A', ValAt deep.toNat A' w9.drew (valC T N (.slice Sa Sm Sc) KT E' (.slice Ia Im Ic) (.slice La Lm Lc)).toList q.2.2 := fun hz => ⟨_, (HVAL.out hz).keep hk49.drew (fun i hi e => by have := hi.1; have := hk2.size; omega)⟩
    have hl9 : x = 0 → ((r.pr.len s2 : Nat) : Int) = (Bin.pr (Bin.K0 c)).len q.2.1 := fun hz => by rw [H4.out hz, hpr]
    rw [hpr] at hl9
    have hk10 := hk9.drew
    have hR10 : w9.drew.heap[n0 + 1]? = some (.cells (valC T N (.slice Sa Sm Sc) KT E' (.slice Ia Im Ic) (.slice La Lm Lc)) 39 (0, 0)) := hR9
    simp only [Act.put, List.getElem_toArray, List.getElem_cons_zero, List.getElem_cons_succ, List.setIfInBounds_toArray, List.set_cons_zero, List.set_cons_succ]
    refine ret_cell3 (U := n0 + 1) (T := 39) Tryz.results15 rfl rfl rfl rfl hR10 Tryz.underlying39 sval_size ?_
    exact ⟨T, N, Sa, Sm, Sc, KT, E', Ia, Im, Ic, La, Lm, Lc, x, _, rfl, HX.out, fun hz => ⟨hl9 hz, hv9 hz⟩, hk10⟩

end Go.Proofs.YtpfifpgbnhdjnaaGreatDoor
