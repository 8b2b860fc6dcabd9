/- Part 41 of the proof: MkCmp, ImpGCmp, SpGCmp. -/
import Derived.Test.YtnccjcbelcbgoaaGreatDoorA21
import Derived.Test.YtnccjcbelcbgoaaGreatDoorA8
import Derived.Test.YtnccjcbelcbgoaaGreatDoorA32
import Derived.Test.YtnccjcbelcbgoaaGreatDoorA40
import Derived.Test.YtnccjcbelcbgoaaGreatDoorA15
set_option linter.unusedVariables false
set_option linter.unusedSimpArgs false
set_option linter.unusedSectionVars false
/- The compact protocol is made over a memory buffer; what a caller knows of its buffer. -/
namespace Go.Proofs.YtnccjcbelcbgoaaGreatDoor
open Go Go.RowKit

abbrev Cmp.no : Int := 1
abbrev Cmp.st0 (l : List UInt8) : Cmp.St := ⟨l, 0, [], false, false⟩
abbrev Cmp.rem (s : Cmp.St) : List UInt8 := s.rem
def Cmp.K0 (c : Cfg) : Cmp.Ctx := ⟨⟨0, 0, 0, 0, 0⟩, 0, 0, 0, 0, none, c⟩

theorem Cmp.made {E : Env} {MB B D : Nat} {c : Cfg} {l : List UInt8} {w : World} (hg : Glob E w) (hm : Mem E w MB B D l) (hc : c.ok) (hl : l.length ≤ 140737488355328) :
    Calls Tryz.prog 22 #[confV Cmp.no c, memV MB] w fun e w' => ∃ K : Cmp.Ctx, e = .returned (Cmp.V K) ∧ K.E = E ∧ K.MB = MB ∧ K.B = B ∧ K.c = c ∧ Cmp.Inv K (Cmp.st0 l) w' ∧ Keep (fun _ => False) w w' ∧ ∀ i, Cmp.M K w' i → B = i ∨ w.heap.size ≤ i := by
  refine (protocol_ctp c MB w).mono ?_
  rintro e w' ⟨P, a, rfl, hP, hPb, hcfg, hk⟩
  have h1 : MB < w.heap.size := lt_of_cell hm.mb
  have h2 : B < w.heap.size := hm.buf.lt
  have h3 := hm.ltD
  have h4 := hg.size
  have h5 : Cmp.At ⟨E, P, MB, B, D, a, c⟩ (Cmp.st0 l) (.slice none 0 0) (List.replicate 64 0) w' := by
    refine ⟨by simp, hPb, World.ownsRow_nil _ _ _ _, (fun g e => by simp [Value.ownBlock] at e), ⟨show (-32768 : Int) ≤ 0 by decide, show (0 : Int) ≤ 32767 by decide⟩, (fun x hx => by simp at hx), hm.keep hk id id id, hg.keep hk (fun _ x => x.elim), hcfg.weak (fun i hi h => ?_), hc, by show E.base ≤ P; omega, by show P ≠ MB; omega, by show P ≠ B; omega, by show P ≠ D; omega⟩
    rcases h with h | h | h
    · have h : B = i := h; omega
    · have h : P = i := h; omega
    · simp [Value.ownBlock] at h
  refine ⟨⟨E, P, MB, B, D, a, c⟩, rfl, rfl, rfl, rfl, rfl, ⟨⟨_, _, h5⟩, hl⟩, hk, fun i x => ?_⟩
  rcases (Cmp.M_at h5 i).1 x with h | h | h
  · exact .inl h
  · exact .inr (h ▸ hP)
  · simp [Value.ownBlock] at h

theorem Cmp.bufI {K : Cmp.Ctx} {s : Cmp.St} {w : World} (h : Cmp.Inv K s w) : ∃ D, Mem K.E w K.MB K.B D (Cmp.rem s) := let ⟨_, _, hp⟩ := h.p; ⟨_, hp.mem⟩
theorem Cmp.bufS {K : Cmp.Ctx} {w : World} (h : Cmp.Some K w) : ∃ D s, Mem K.E w K.MB K.B D s ∧ Glob K.E w := let ⟨_, _, _, hp⟩ := h; ⟨_, _, hp.mem, hp.glob⟩
theorem Cmp.len (K : Cmp.Ctx) (s : Cmp.St) : (Cmp.pr K).len s = (Cmp.rem s).length := rfl
theorem Cmp.pr_c' (K : Cmp.Ctx) : Cmp.pr K = Cmp.pr (Cmp.K0 K.c) := rfl
theorem Cmp.room0 (K : Cmp.Ctx) (l : List UInt8) (h : l.length ≤ 1099511627775) : (Cmp.pr K).Room (Cmp.st0 l) := by show l.length + 0 < _; omega

/-- The reference's reader of bytes, as a reader. -/
theorem Cmp.newReader {A : Nat → Prop} (c : Cfg) (hc : c.ok) (v : Value) (l : List UInt8) (w : World) (h : BytesAt A w v l) (hl : l.length ≤ 140737488355328) :
    Calls Tryz.prog 25 #[confV Cmp.no c, v] w fun e w' => ∃ r : Rdr Cmp.St, e = .returned (.pointer (some ⟨r.R, 0, none⟩)) ∧ r.Ok ∧ r.pr = Cmp.pr (Cmp.K0 c) ∧ r.Inv (Cmp.st0 l) w' ∧ Keep (fun _ => False) w w' ∧ (∀ i, r.M w' i → w.heap.size ≤ i) ∧
      ∀ s w2, r.Inv s w2 → Calls Tryz.prog 28 #[.pointer (some ⟨r.R, 0, none⟩)] w2 fun e w3 => e = .returned (.int .i64 (r.pr.len s)) ∧ w2 = w3 := by
  refine (newReader_at 1 c hc v l w h hl).mono ?_
  rintro e w2 ⟨R, TB, DT, rfl, hR1, hTB, hDT, hDl, hne, h2, hk2⟩
  have hC : RdC R TB DT (Cmp.K0 c).c l.length (Cmp.st0 l) (.slice none 0 0) 0 w2 := ⟨h2, (fun e => by cases e), .inl ⟨rfl, rfl⟩, ⟨show (-32768 : Int) ≤ 0 by decide, show (0 : Int) ≤ 32767 by decide⟩, (fun x hx => by simp at hx), hDl, hne⟩
  refine ⟨Cmp.rdr R TB DT (Cmp.K0 c) l.length, rfl, Cmp.rdr_ok, rfl, ⟨_, _, hC⟩, hk2, fun i hi => ?_, fun s w2 hs => let ⟨_, _, hp⟩ := hs; left_at hp.p⟩
  rcases (Cmp.rM_at hC i).1 hi with (rfl | rfl | rfl) | e
  · assumption
  · assumption
  · assumption
  · simp [Value.ownBlock] at e

end Go.Proofs.YtnccjcbelcbgoaaGreatDoor

/- The thin package: Get. -/
namespace Go.Proofs.YtnccjcbelcbgoaaGreatDoor
open Go Go.RowKit

theorem Cmp.ty8_bd (t : Int) : 0 ≤ ty8 t ∧ ty8 t ≤ 255 := by
  unfold ty8; simp [IntKind.wrap, IntKind.bits, IntKind.signed]; omega

set_option maxRecDepth 100000 in
set_option maxHeartbeats 4000000 in
theorem Cmp.impl_get {E : Env} {A : Nat → Prop} (c : Cfg) (hc : c.ok) (t deep : Int) (hd0 : -9223372036854775808 ≤ deep) (hd1 : deep ≤ 9223372036854775807) (v : Value) (l : List UInt8) (w : World) (hg : Glob E w) (h : BytesAt A w v l) (hl : l.length ≤ 1099511627775) (r : Int × Cmp.St × _root_.Go.Proofs.YtnccjcbelcbgoaaGreatDoor.V) (hr : gt (Cmp.pr (Cmp.K0 c)) deep.toNat (ty8 t) (Cmp.st0 l) = r) :
    Calls Tryz.prog 16 #[.agg (confC Cmp.no c), .int .i64 t, v, .int .i64 deep] w fun e w' => ∃ T N Sa Sm Sc KT E' Ia Im Ic La Lm Lc left, e = .returned (.tuple #[.agg (valC T N (.slice Sa Sm Sc) KT E' (.slice Ia Im Ic) (.slice La Lm Lc)), .int .i64 r.1, .int .i64 left]) ∧
      (r.1 = 0 → left = (Cmp.pr (Cmp.K0 c)).len r.2.1 ∧ ∃ A', ValAt deep.toNat A' w' (valC T N (.slice Sa Sm Sc) KT E' (.slice Ia Im Ic) (.slice La Lm Lc)).toList r.2.2) ∧ Keep (fun _ => False) w w' := by
  have HR := Lib.hid hr
  clear hr
  have hty := Cmp.ty8_bd t
  have hk0 : Keep (fun _ => False) w ((w.alloc (.cells (confC Cmp.no c) 23 (0, 0))).alloc (.cells zVal 38 (0, 0))) := ((Keep.refl _ w).alloc _).alloc _
  have hc0 : ((w.alloc (.cells (confC Cmp.no c) 23 (0, 0))).alloc (.cells zVal 38 (0, 0))).heap[w.heap.size]? = some (.cells (confC Cmp.no c) 23 (0, 0)) := (Below.heap_alloc _ _ _ (by simp)).trans (heap_alloc_new w _)
  have hv0 : ((w.alloc (.cells (confC Cmp.no c) 23 (0, 0))).alloc (.cells zVal 38 (0, 0))).heap[w.heap.size + 1]? = some (.cells zVal 38 (0, 0)) := heap_alloc_at (by simp) _
  have hs0 : ((w.alloc (.cells (confC Cmp.no c) 23 (0, 0))).alloc (.cells zVal 38 (0, 0))).heap.size = w.heap.size + 2 := by simp
  go_enter Tryz.func16, Tryz.ntmps16
  go_wp2_with fail
  obtain ⟨n0, hn⟩ : ∃ n0, w.heap.size = n0 := ⟨_, rfl⟩
  rw [hn] at hc0 hv0 hs0 ⊢
  generalize (w.alloc (.cells (confC Cmp.no c) 23 (0, 0))).alloc (.cells zVal 38 (0, 0)) = w1 at *
  have HN := Lib.hid hn
  have HC0 := Lib.hid hc0
  have HV0 := Lib.hid hv0
  have HS0 := Lib.hid hs0
  clear hn hc0 hv0 hs0
  refine (holding_at (E := E) (h.keep hk0 (fun _ _ => id)) (Nat.le_trans hg.size hk0.size)).mono ?_
  rintro e w2 ⟨MB, B, D, rfl, hm, hk2, b1, b2, b3, b4, b5⟩
  obtain ⟨c0, c1, c2, c3, c4, c5, c6⟩ := conf_cells7 ((hk2.block n0 (lt_of_heap HC0.out) id).trans HC0.out)
  have hgk : Glob E w2 := hg.keep (hk0.then hk2) (fun _ x => x.elim)
  go_wp2_with fail
  refine (Cmp.made (E := E) (D := D) (c := c) (l := l) hgk hm hc (by omega)).mono ?_
  rintro e w3 ⟨K, rfl, hKE, hKM, hKB, hKc, hinv, hk3, hKn⟩
  have HI := Lib.hid hinv
  clear c0 c1 c2 c3 c4 c5 c6 hinv
  go_wp2_with fail
  refine (typ_at t _).mono ?_
  rintro e w' ⟨rfl, rfl⟩
  go_wp2_with fail
  refine (Cmp.gets K deep.toNat deep (ty8 t) (Cmp.st0 l) _ rfl hd0 hd1 hty.1 hty.2 HI.out (Cmp.room0 K l hl)).mono ?_
  rintro e w4 ⟨T, N, Sa, Sm, Sc, KT, E', Ia, Im, Ic, La, Lm, Lc, ev, rfl, hpost, hval⟩
  have hpc := Cmp.pr_c' K
  rw [hKc] at hpc
  rw [hpc, HR.out] at hpost hval
  obtain ⟨D', s', hs, hgl, hsz⟩ : ∃ D' s', Mem K.E w4 K.MB K.B D' s' ∧ Glob K.E w4 ∧ (r.1 = 0 → s'.length = (Cmp.pr (Cmp.K0 c)).len r.2.1) := by
    by_cases hz : r.1 = 0
    · obtain ⟨D', hD'⟩ := Cmp.bufI (hpost.inv hz)
      obtain ⟨_, _, _, hgl⟩ := Cmp.bufS (hpost.inv hz).some
      exact ⟨D', _, hD', hgl, fun _ => (Cmp.len _ _).symm⟩
    · obtain ⟨D', s', h1, h2⟩ := Cmp.bufS hpost.some
      exact ⟨D', s', h1, h2, fun h => absurd h hz⟩
  rw [hKE] at hs hgl
  rw [hKM, hKB] at hs
  have he4 : ErrAt E w3.heap.size w4 ev r.1 := hKE ▸ hpost.err
  have HK := Lib.hid hpost.keep.keep
  have HSZ := Lib.hid hsz
  have HVAL := Lib.hid hval
  have HKN := Lib.hid hKn
  have HE4 := Lib.hid he4
  have HS := Lib.hid hs
  have HGL := Lib.hid hgl
  clear hpost hval hpc hsz hKn he4 hs hgl
  go_wp2_with fail
  have hk5 : Keep (fun _ => False) w4 (w4.alloc (.cells (valC T N (.slice Sa Sm Sc) KT E' (.slice Ia Im Ic) (.slice La Lm Lc)) 38 (0, 0))) := (Keep.refl _ w4).alloc _
  have hV5 := heap_alloc_new w4 (.cells (valC T N (.slice Sa Sm Sc) KT E' (.slice Ia Im Ic) (.slice La Lm Lc)) 38 (0, 0))
  obtain ⟨V, hV⟩ : ∃ V, w4.heap.size = V := ⟨_, rfl⟩
  rw [hV] at hV5 ⊢
  generalize w4.alloc (.cells (valC T N (.slice Sa Sm Sc) KT E' (.slice Ia Im Ic) (.slice La Lm Lc)) 38 (0, 0)) = w5 at *
  have hmb : w5.cell? ⟨MB, 0, none⟩ = some (.pointer (some ⟨B, 0, none⟩)) := (hk5.cell (p := ⟨MB, 0, none⟩) (lt_of_cell HS.out.mb) id).trans HS.out.mb
  have hkA : Keep (fun i => B = i ∨ w2.heap.size ≤ i) w1 w5 := ((hk2.then hk3).weak (fun _ _ x => x.elim)).then ((HK.out.weak (fun i _ x => HKN.out i x)).then (hk5.weak (fun _ _ x => x.elim)))
  have hn1 := HS0.out
  have hn2 := hk2.size
  have hR5 := (hkA.block (n0 + 1) (by omega) (by rintro (e | e) <;> omega)).trans HV0.out
  have hltR := lt_of_heap hR5
  have hltV := lt_of_heap hV5
  have hne3 : ¬ V = n0 + 1 := by have := hk3.size; have := HK.out.size; omega
  have hne4 : ¬ n0 + 1 = V := fun e => hne3 e.symm
  have hall : ∀ W, Keep (fun _ => False) w5 W → W.cell? ⟨MB, 0, none⟩ = some (.pointer (some ⟨B, 0, none⟩)) ∧ W.heap[V]? = some (.cells (valC T N (.slice Sa Sm Sc) KT E' (.slice Ia Im Ic) (.slice La Lm Lc)) 38 (0, 0)) ∧ W.heap[n0 + 1]? = some (.cells zVal 38 (0, 0)) := fun W hW =>
    ⟨(hW.cell (p := ⟨MB, 0, none⟩) (lt_of_cell hmb) id).trans hmb, (hW.block V hltV id).trans hV5, (hW.block (n0 + 1) hltR id).trans hR5⟩
  have hkind : ∀ W, Keep (fun _ => False) w5 W → Calls Tryz.prog 23 #[ev] W fun e w' => e = .returned (.int .i64 r.1) ∧ Keep (fun _ => False) w5 w' := fun W hW =>
    (kind_any (HGL.out.keep (hk5.then hW) (fun _ x => x.elim)) (HE4.out.keep (hk5.then hW) (fun _ _ => id))).mono fun e w' ⟨h1, h2⟩ => ⟨h1, hW.then h2⟩
  have hlen : ∀ W, Keep (fun _ => False) w5 W → Calls Tryz.prog 24 #[.pointer (some ⟨B, 0, none⟩)] W fun e w' => e = .returned (.int .i64 s'.length) ∧ Keep (fun _ => False) w5 w' := fun W hW =>
    (buf_len (HS.out.buf.keep (hk5.then hW) id id)).mono fun e w' ⟨h1, n, h2⟩ => ⟨h1, h2 ▸ hW.drewN n⟩
  have hkd : Keep (fun _ => False) w5 w5.drew := (Keep.refl _ w5).drew
  have HALL := Lib.hid hall
  have HKI := Lib.hid hkind
  have HLEN := Lib.hid hlen
  have HKA := Lib.hid hkA
  have HK5 := Lib.hid hk5
  obtain ⟨x0, x1, x2, x3, x4, x5, x6⟩ := got_cells hV5
  obtain ⟨r0, r1, r2, r3, r4, r5, r6⟩ := got_cells hR5
  obtain ⟨z0, z1, z2, z3, z4, z5, z6⟩ := got_free hR5
  clear hlen hkind hall hV5 hR5 hkA hn1 hn2 hV hk5
  go_region_with (first | (go_at_call 23; refine (HKI.out _ (by assumption)).mono ?_; rintro e w6 ⟨rfl, hk6⟩; obtain ⟨hc6, hv6, hr6⟩ := HALL.out _ hk6; obtain ⟨x0, x1, x2, x3, x4, x5, x6⟩ := got_cells hv6; obtain ⟨r0, r1, r2, r3, r4, r5, r6⟩ := got_cells hr6; obtain ⟨z0, z1, z2, z3, z4, z5, z6⟩ := got_free hr6; clear hv6 hr6) | (go_at_call 24; refine (HLEN.out _ (by assumption)).mono ?_; rintro e w7 ⟨rfl, hk7⟩; obtain ⟨hc7, hv7, hr7⟩ := HALL.out _ hk7; obtain ⟨x0, x1, x2, x3, x4, x5, x6⟩ := got_cells hv7; obtain ⟨r0, r1, r2, r3, r4, r5, r6⟩ := got_cells hr7; obtain ⟨z0, z1, z2, z3, z4, z5, z6⟩ := got_free hr7; clear hv7 hr7))
  all_goals
    go_wp2_with fail
    have hn0 := HN.out
    have hn1 := HS0.out
    have hR9 := val_set (HALL.out _ hk7).2.2 (.int .i64 T) (.int .i64 N) (.slice Sa Sm Sc) (.int .i64 KT) (.int .i64 E') (.slice Ia Im Ic) (.slice La Lm Lc)
    have hk49 := val_keep (M := fun i => n0 + 1 = i) ((HK5.out.then hk7).weak (fun _ _ x => x.elim)) (R := n0 + 1) (fun _ => rfl) (.int .i64 T) (.int .i64 N) (.slice Sa Sm Sc) (.int .i64 KT) (.int .i64 E') (.slice Ia Im Ic) (.slice La Lm Lc)
    have hk9 := val_keep (M := fun _ => False) (hk0.trans (HKA.out.then (hk7.weak (fun _ _ x => x.elim))) (fun i hi e => by omega)) (R := n0 + 1) (fun h => by omega) (.int .i64 T) (.int .i64 N) (.slice Sa Sm Sc) (.int .i64 KT) (.int .i64 E') (.slice Ia Im Ic) (.slice La Lm Lc)
    generalize ((((((w7.setCell ⟨n0 + 1, 0, none⟩ (.int .i64 T)).setCell ⟨n0 + 1, 1, none⟩ (.int .i64 N)).setCell ⟨n0 + 1, 2, none⟩ (.slice Sa Sm Sc)).setCell ⟨n0 + 1, 3, none⟩ (.int .i64 KT)).setCell ⟨n0 + 1, 4, none⟩ (.int .i64 E')).setCell ⟨n0 + 1, 5, none⟩ (.slice Ia Im Ic)).setCell ⟨n0 + 1, 6, none⟩ (.slice La Lm Lc) = w9 at *
    have hv9 : r.1 = 0 → ∃ A', ValAt deep.toNat A' w9 (valC T N (.slice Sa Sm Sc) KT E' (.slice Ia Im Ic) (.slice La Lm Lc)).toList r.2.2 := fun hz => ⟨_, (HVAL.out hz).keep hk49 (fun i hi e => by have := hi.1; have := hk2.size; have := hk3.size; omega)⟩
    simp only [Act.put, List.getElem_toArray, List.getElem_cons_zero, List.getElem_cons_succ, List.setIfInBounds_toArray, List.set_cons_zero, List.set_cons_succ]
    refine ret_cell3 (U := n0 + 1) (T := 38) Tryz.results16 rfl rfl rfl rfl hR9 Tryz.underlying38 ival_size ?_
    exact ⟨T, N, Sa, Sm, Sc, KT, E', Ia, Im, Ic, La, Lm, Lc, _, rfl, fun hz => ⟨by rw [HSZ.out hz], hv9 hz⟩, hk9⟩

end Go.Proofs.YtnccjcbelcbgoaaGreatDoor

/- The reference: Get. -/
namespace Go.Proofs.YtnccjcbelcbgoaaGreatDoor
open Go Go.RowKit

theorem Cmp.and_255 (t : Int) : bits BinOp.and IntKind.i64 t 255 = ty8 t := by
  have e1 : BitVec.ofInt 64 t = BitVec.ofNat 64 (t % 18446744073709551616).toNat := by
    apply BitVec.eq_of_toNat_eq
    simp only [BitVec.toNat_ofInt, BitVec.toNat_ofNat]
    omega
  have e2 : BitVec.ofInt 64 255 = BitVec.ofNat 64 255 := by decide
  have h3 : (t % 18446744073709551616).toNat &&& 255 = (t % 18446744073709551616).toNat % 256 := by
    have := Nat.and_two_pow_sub_one_eq_mod (t % 18446744073709551616).toNat 8
    simpa using this
  show IntKind.i64.wrap ((BitVec.ofInt 64 t &&& BitVec.ofInt 64 255).toNat : Int) = _
  rw [e1, e2, ← BitVec.ofNat_and, h3, BitVec.toNat_ofNat]
  simp [ty8, IntKind.wrap, IntKind.bits, IntKind.signed]
  omega

set_option maxRecDepth 100000 in
set_option maxHeartbeats 4000000 in
theorem Cmp.spec_get {A : Nat → Prop} (c : Cfg) (hc : c.ok) (t deep : Int) (hd0 : -9223372036854775808 ≤ deep) (hd1 : deep ≤ 9223372036854775807) (v : Value) (l : List UInt8) (w : World) (h : BytesAt A w v l) (hl : l.length ≤ 1099511627775) (q : Int × Cmp.St × _root_.Go.Proofs.YtnccjcbelcbgoaaGreatDoor.V) (hr : gt (Cmp.pr (Cmp.K0 c)) deep.toNat (ty8 t) (Cmp.st0 l) = q) :
    Calls Tryz.prog 17 #[confV Cmp.no c, .int .i64 t, v, .int .i64 deep] w fun e w' => ∃ T N Sa Sm Sc KT E' Ia Im Ic La Lm Lc x left, e = .returned (.tuple #[.agg (valC T N (.slice Sa Sm Sc) KT E' (.slice Ia Im Ic) (.slice La Lm Lc)), .int .i64 x, .int .i64 left]) ∧ Sk q.1 x ∧
      (x = 0 → left = (Cmp.pr (Cmp.K0 c)).len q.2.1 ∧ ∃ A', ValAt deep.toNat A' w' (valC T N (.slice Sa Sm Sc) KT E' (.slice Ia Im Ic) (.slice La Lm Lc)).toList q.2.2) ∧ Keep (fun _ => False) w w' := by
  have HR := Lib.hid hr
  clear hr
  have ha := Cmp.and_255 t
  have hk0 : Keep (fun _ => False) w ((w.alloc (.cells (confC Cmp.no c) 31 (0, 0))).alloc (.cells sVal 43 (0, 0))) := ((Keep.refl _ w).alloc _).alloc _
  have hv0 : ((w.alloc (.cells (confC Cmp.no c) 31 (0, 0))).alloc (.cells sVal 43 (0, 0))).heap[w.heap.size + 1]? = some (.cells sVal 43 (0, 0)) := heap_alloc_at (by simp) _
  have hs0 : ((w.alloc (.cells (confC Cmp.no c) 31 (0, 0))).alloc (.cells sVal 43 (0, 0))).heap.size = w.heap.size + 2 := by simp
  go_enter Tryz.func17, Tryz.ntmps17
  go_wp2_with fail
  obtain ⟨n0, hn⟩ : ∃ n0, w.heap.size = n0 := ⟨_, rfl⟩
  rw [hn] at hv0 hs0 ⊢
  generalize (w.alloc (.cells (confC Cmp.no c) 31 (0, 0))).alloc (.cells sVal 43 (0, 0)) = w1 at *
  have HN := Lib.hid hn
  have HV0 := Lib.hid hv0
  have HS0 := Lib.hid hs0
  clear hn hv0 hs0
  refine (Cmp.newReader c hc v l w1 (h.keep hk0 (fun _ _ => id)) (by omega)).mono ?_
  rintro e w2 ⟨r, rfl, ok, hpr, hi, hk2, hM, hleft⟩
  have HL := Lib.hid hleft
  have HM := Lib.hid hM
  clear hleft hM
  go_wp2_with fail
  refine (Rdr.gets ok deep.toNat deep (ty8 t) (Cmp.st0 l) w2 rfl hd0 hd1 hi (by rw [hpr]; exact Cmp.room0 _ l hl)).mono ?_
  rintro e w4 ⟨T, N, Sa, Sm, Sc, KT, E', Ia, Im, Ic, La, Lm, Lc, x, rfl, hx, ⟨s2, h4, hr4⟩, hk4, hval⟩
  rw [hpr, HR.out] at hx hr4 hval
  have HX := Lib.hid hx
  have H4 := Lib.hid hr4
  have HVAL := Lib.hid hval
  have HK4 := Lib.hid hk4.keep
  clear hx hr4 hval hk4
  go_wp2_with fail
  have hk5 : Keep (fun _ => False) w4 (w4.alloc (.cells (valC T N (.slice Sa Sm Sc) KT E' (.slice Ia Im Ic) (.slice La Lm Lc)) 43 (0, 0))) := (Keep.refl _ w4).alloc _
  have hV5 := heap_alloc_new w4 (.cells (valC T N (.slice Sa Sm Sc) KT E' (.slice Ia Im Ic) (.slice La Lm Lc)) 43 (0, 0))
  obtain ⟨V, hV⟩ : ∃ V, w4.heap.size = V := ⟨_, rfl⟩
  rw [hV] at hV5 ⊢
  generalize w4.alloc (.cells (valC T N (.slice Sa Sm Sc) KT E' (.slice Ia Im Ic) (.slice La Lm Lc)) 43 (0, 0)) = w5 at *
  have hn1 := HS0.out
  have hkA : Keep (fun i => w1.heap.size ≤ i) w1 w5 := (hk2.weak (fun _ _ x => x.elim)).then ((HK4.out.weak (fun i _ x => HM.out i x)).then (hk5.weak (fun _ _ x => x.elim)))
  have hR5 := (hkA.block (n0 + 1) (by omega) (by omega)).trans HV0.out
  have hne3 : ¬ V = n0 + 1 := by have := hk2.size; have := HK4.out.size; omega
  have hne4 : ¬ n0 + 1 = V := fun e => hne3 e.symm
  have hleft := HL.out s2 w5.drew (ok.fresh h4 hk5.drew)
  have HLEFT := Lib.hid hleft
  have HKA := Lib.hid hkA
  have HK5 := Lib.hid hk5
  have HR5 := Lib.hid hR5
  obtain ⟨x0, x1, x2, x3, x4, x5, x6⟩ := got_cells hV5
  obtain ⟨r0, r1, r2, r3, r4, r5, r6⟩ := got_cells hR5
  obtain ⟨z0, z1, z2, z3, z4, z5, z6⟩ := got_free hR5
  clear hleft hV5 hR5 hkA hn1 hV hk5
  go_region_with (go_at_call 28; refine HLEFT.out.mono ?_; rintro e w6 ⟨rfl, rfl⟩)
  all_goals
    go_wp2_with fail
    have hn0 := HN.out
    have hn1 := HS0.out
    have hR9 := sval_set HR5.out (.int .i64 T) (.int .i64 N) (.slice Sa Sm Sc) (.int .i64 KT) (.int .i64 E') (.slice Ia Im Ic) (.slice La Lm Lc)
    have hk49 := sval_keep (M := fun i => n0 + 1 = i) (HK5.out.weak (fun _ _ x => x.elim)) (R := n0 + 1) (fun _ => rfl) (.int .i64 T) (.int .i64 N) (.slice Sa Sm Sc) (.int .i64 KT) (.int .i64 E') (.slice Ia Im Ic) (.slice La Lm Lc)
    have hk9 := sval_keep (M := fun _ => False) (hk0.trans HKA.out (fun i hi e => by omega)) (R := n0 + 1) (fun h => by omega) (.int .i64 T) (.int .i64 N) (.slice Sa Sm Sc) (.int .i64 KT) (.int .i64 E') (.slice Ia Im Ic) (.slice La Lm Lc)
    generalize ((((((w5.setCell ⟨n0 + 1, 0, none⟩ (.int .i64 T)).setCell ⟨n0 + 1, 1, none⟩ (.int .i64 N)).setCell ⟨n0 + 1, 2, none⟩ (.slice Sa Sm Sc)).setCell ⟨n0 + 1, 3, none⟩ (.int .i64 KT)).setCell ⟨n0 + 1, 4, none⟩ (.int .i64 E')).setCell ⟨n0 + 1, 5, none⟩ (.slice Ia Im Ic)).setCell ⟨n0 + 1, 6, none⟩ (.slice La Lm Lc) = w9 at *
    have hv9 : x = 0 → ∃ A', ValAt deep.toNat A' w9.drew (valC T N (.slice Sa Sm Sc) KT E' (.slice Ia Im Ic) (.slice La Lm Lc)).toList q.2.2 := fun hz => ⟨_, (HVAL.out hz).keep hk49.drew (fun i hi e => by have := hi.1; have := hk2.size; omega)⟩
    have hl9 : x = 0 → ((r.pr.len s2 : Nat) : Int) = (Cmp.pr (Cmp.K0 c)).len q.2.1 := fun hz => by rw [H4.out hz, hpr]
    rw [hpr] at hl9
    have hk10 := hk9.drew
    have hR10 : w9.drew.heap[n0 + 1]? = some (.cells (valC T N (.slice Sa Sm Sc) KT E' (.slice Ia Im Ic) (.slice La Lm Lc)) 43 (0, 0)) := hR9
    simp only [Act.put, List.getElem_toArray, List.getElem_cons_zero, List.getElem_cons_succ, List.setIfInBounds_toArray, List.set_cons_zero, List.set_cons_succ]
    refine ret_cell3 (U := n0 + 1) (T := 43) Tryz.results17 rfl rfl rfl rfl hR10 Tryz.underlying43 sval_size ?_
    exact ⟨T, N, Sa, Sm, Sc, KT, E', Ia, Im, Ic, La, Lm, Lc, x, _, rfl, HX.out, fun hz => ⟨hl9 hz, hv9 hz⟩, hk10⟩

end Go.Proofs.YtnccjcbelcbgoaaGreatDoor
