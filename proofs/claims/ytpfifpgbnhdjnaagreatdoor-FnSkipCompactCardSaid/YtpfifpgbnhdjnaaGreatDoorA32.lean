/- Part 32 of the proof: MkCmp, ImpSCmp, SpSCmp, LwSCmp. -/
import Derived.Test.YtpfifpgbnhdjnaaGreatDoorA20
import Derived.Test.YtpfifpgbnhdjnaaGreatDoorA8
import Derived.Test.YtpfifpgbnhdjnaaGreatDoorA30
import Derived.Test.YtpfifpgbnhdjnaaGreatDoorA31
import Derived.Test.YtpfifpgbnhdjnaaGreatDoorA15
import Derived.Test.YtpfifpgbnhdjnaaGreatDoorA24
set_option linter.unusedVariables false
set_option linter.unusedSimpArgs false
set_option linter.unusedSectionVars false
/- The compact protocol is made over a memory buffer; what a caller knows of its buffer. -/
namespace Go.Proofs.YtpfifpgbnhdjnaaGreatDoor
open Go Go.RowKit

abbrev Cmp.no : Int := 1
abbrev Cmp.st0 (l : List UInt8) : Cmp.St := ⟨l, 0, [], false, false⟩
abbrev Cmp.rem (s : Cmp.St) : List UInt8 := s.rem
def Cmp.K0 (c : Cfg) : Cmp.Ctx := ⟨⟨0, 0, 0, 0, 0⟩, 0, 0, 0, 0, none, c⟩

theorem Cmp.made {E : Env} {MB B D : Nat} {c : Cfg} {l : List UInt8} {w : World} (hg : Glob E w) (hm : Mem E w MB B D l) (hc : c.ok) (hl : l.length ≤ 140737488355328) :
    Calls Tryz.prog 30 #[confV Cmp.no c, memV MB] w fun e w' => ∃ K : Cmp.Ctx, e = .returned (Cmp.V K) ∧ K.E = E ∧ K.MB = MB ∧ K.B = B ∧ K.c = c ∧ Cmp.Inv K (Cmp.st0 l) w' ∧ Keep (fun _ => False) w w' ∧ ∀ i, Cmp.M K w' i → B = i ∨ w.heap.size ≤ i := by
  refine (protocol_ctp c MB w).mono ?_
  rintro e w' ⟨P, a, rfl, hP, hPb, hcfg, hk⟩
  have h1 : MB < w.heap.size := lt_of_cell hm.mb
  have h2 : B < w.heap.size := hm.buf.lt
  have h3 := hm.ltD
  have h4 := hg.size
  have h5 : Cmp.At ⟨E, P, MB, B, D, a, c⟩ (Cmp.st0 l) (.slice none 0 0) (List.replicate 64 0) w' := by
    refine ⟨by simp, hPb, World.ownsRow_nil _ _ _ _, (fun g e => by simp [Value.ownBlock] at e), ⟨show (-32768 : Int) ≤ 0 by decide, show (0 : Int) ≤ 32767 by decide⟩, (fun x hx => by simp at hx), hm.keep hk id id id, hg.keep hk (fun _ x => x.elim), hcfg.weak (fun i hi h => ?_), hc, by show E.base ≤ P; omega, by show P ≠ MB; omega, by show P ≠ B; omega, by show P ≠ D; omega⟩
    rcases h with h | h | h
    · have h : B = i := h; omega
    · have h : P = i := h; omega
    · simp [Value.ownBlock] at h
  refine ⟨⟨E, P, MB, B, D, a, c⟩, rfl, rfl, rfl, rfl, rfl, ⟨⟨_, _, h5⟩, hl⟩, hk, fun i x => ?_⟩
  rcases (Cmp.M_at h5 i).1 x with h | h | h
  · exact .inl h
  · exact .inr (h ▸ hP)
  · simp [Value.ownBlock] at h

theorem Cmp.bufI {K : Cmp.Ctx} {s : Cmp.St} {w : World} (h : Cmp.Inv K s w) : ∃ D, Mem K.E w K.MB K.B D (Cmp.rem s) := let ⟨_, _, hp⟩ := h.p; ⟨_, hp.mem⟩
theorem Cmp.bufS {K : Cmp.Ctx} {w : World} (h : Cmp.Some K w) : ∃ D s, Mem K.E w K.MB K.B D s ∧ Glob K.E w := let ⟨_, _, _, hp⟩ := h; ⟨_, _, hp.mem, hp.glob⟩
theorem Cmp.len (K : Cmp.Ctx) (s : Cmp.St) : (Cmp.pr K).len s = (Cmp.rem s).length := rfl
theorem Cmp.pr_c' (K : Cmp.Ctx) : Cmp.pr K = Cmp.pr (Cmp.K0 K.c) := rfl
theorem Cmp.room0 (K : Cmp.Ctx) (l : List UInt8) (h : l.length ≤ 1099511627775) : (Cmp.pr K).Room (Cmp.st0 l) := by show l.length + 0 < _; omega

/-- The reference's reader of bytes, as a reader. -/
theorem Cmp.newReader {A : Nat → Prop} (c : Cfg) (hc : c.ok) (v : Value) (l : List UInt8) (w : World) (h : BytesAt A w v l) (hl : l.length ≤ 140737488355328) :
    Calls Tryz.prog 34 #[confV Cmp.no c, v] w fun e w' => ∃ r : Rdr Cmp.St, e = .returned (.pointer (some ⟨r.R, 0, none⟩)) ∧ r.Ok ∧ r.pr = Cmp.pr (Cmp.K0 c) ∧ r.Inv (Cmp.st0 l) w' ∧ Keep (fun _ => False) w w' ∧ (∀ i, r.M w' i → w.heap.size ≤ i) ∧
      ∀ s w2, r.Inv s w2 → Calls Tryz.prog 36 #[.pointer (some ⟨r.R, 0, none⟩)] w2 fun e w3 => e = .returned (.int .i64 (r.pr.len s)) ∧ w2 = w3 := by
  refine (newReader_at 1 c hc v l w h hl).mono ?_
  rintro e w2 ⟨R, TB, DT, rfl, hR1, hTB, hDT, hDl, hne, h2, hk2⟩
  have hC : RdC R TB DT (Cmp.K0 c).c l.length (Cmp.st0 l) (.slice none 0 0) 0 w2 := ⟨h2, (fun e => by cases e), .inl ⟨rfl, rfl⟩, ⟨show (-32768 : Int) ≤ 0 by decide, show (0 : Int) ≤ 32767 by decide⟩, (fun x hx => by simp at hx), hDl, hne⟩
  refine ⟨Cmp.rdr R TB DT (Cmp.K0 c) l.length, rfl, Cmp.rdr_ok, rfl, ⟨_, _, hC⟩, hk2, fun i hi => ?_, fun s w2 hs => let ⟨_, _, hp⟩ := hs; left_at hp.p⟩
  rcases (Cmp.rM_at hC i).1 hi with (rfl | rfl | rfl) | e
  · assumption
  · assumption
  · assumption
  · simp [Value.ownBlock] at e

end Go.Proofs.YtpfifpgbnhdjnaaGreatDoor

/- The thin package: Skip. -/
namespace Go.Proofs.YtpfifpgbnhdjnaaGreatDoor
open Go Go.RowKit

theorem Mem.drewCmp {E : Env} {w : World} {MB B D : Nat} {rem : List UInt8} (h : Mem E w MB B D rem) : Mem E w.drew MB B D rem := h.keep ((Keep.refl (fun _ => False) w).drew) id id id
theorem Glob.drewCmp {E : Env} {w : World} (h : Glob E w) : Glob E w.drew := h.keep ((Keep.refl (fun _ => False) w).drew) (fun _ x => x.elim)

set_option maxRecDepth 100000 in
set_option maxHeartbeats 4000000 in
theorem Cmp.impl_skip {E : Env} {A : Nat → Prop} (c : Cfg) (hc : c.ok) (t deep : Int) (hd0 : -9223372036854775808 ≤ deep) (hd1 : deep ≤ 9223372036854775807) (v : Value) (l : List UInt8) (w : World) (hg : Glob E w) (h : BytesAt A w v l) (hl : l.length ≤ 1099511627775) (r : Int × Cmp.St) (hr : skp (Cmp.pr (Cmp.K0 c)) deep.toNat (ty8 t) (Cmp.st0 l) = r) :
    Calls Tryz.prog 18 #[confV Cmp.no c, .int .i64 t, v, .int .i64 deep] w fun e w' => ∃ left, e = .returned (.tuple #[.int .i64 r.1, .int .i64 left]) ∧ (r.1 = 0 → left = (Cmp.pr (Cmp.K0 c)).len r.2) ∧ Keep (fun _ => False) w w' := by
  have HR := Lib.hid hr
  clear hr
  go_enter Tryz.func18, Tryz.ntmps18
  go_wp2_with fail
  have hk0 : Keep (fun _ => False) w (w.alloc (.cells #[.int .i64 Cmp.no, .bool c.plain, .bool c.sr, .bool c.sw, .int .i32 c.msg, .int .i32 c.cont, .int .i32 c.frame] 23 (0, 0))) := (Keep.refl _ w).alloc _
  have hp0 := heap_alloc_new w (.cells #[.int .i64 Cmp.no, .bool c.plain, .bool c.sr, .bool c.sw, .int .i32 c.msg, .int .i32 c.cont, .int .i32 c.frame] 23 (0, 0))
  obtain ⟨n, hn⟩ : ∃ n, w.heap.size = n := ⟨_, rfl⟩
  rw [hn] at hp0 ⊢
  generalize w.alloc (.cells #[.int .i64 Cmp.no, .bool c.plain, .bool c.sr, .bool c.sw, .int .i32 c.msg, .int .i32 c.cont, .int .i32 c.frame] 23 (0, 0)) = w1 at *
  have HN := Lib.hid hn
  have HP := Lib.hid hp0
  clear hn hp0
  refine (holding_at (E := E) (h.keep hk0 (fun _ _ => id)) (Nat.le_trans hg.size hk0.size)).mono ?_
  rintro e w2 ⟨MB, B, D, rfl, hm, hk2, b1, b2, b3, b4, b5⟩
  obtain ⟨c0, c1, c2, c3, c4, c5, c6⟩ := conf_cells ((hk2.block n (lt_of_heap HP.out) id).trans HP.out)
  have hgk : Glob E w2 := hg.keep (hk0.then hk2) (fun _ x => x.elim)
  go_wp2_with fail
  go_region_with (first | (go_at_call 39; refine (ctx_at _).mono ?_; rintro e w' ⟨rfl, rfl⟩) | (go_at_call 31; refine (typ_at t _).mono ?_; rintro e w' ⟨rfl, rfl⟩) | (go_at_call 30; refine (Cmp.made (E := E) (D := D) (c := c) (l := l) (Glob.drewCmp hgk) (Mem.drewCmp hm) hc (by omega)).mono ?_; rintro e w3 ⟨K, rfl, hKE, hKM, hKB, hKc, hinv, hk3, hKn⟩; have HI := Lib.hid hinv; clear hinv) | (go_at_call 38; refine (Cmp.skips K deep.toNat deep (ty8 t) (Cmp.st0 l) _ rfl hd0 hd1 HI.out (Cmp.room0 K l hl)).mono ?_; rintro e w4 ⟨ev, rfl, hpost⟩; have HPO := Lib.hid hpost; clear hpost))
  all_goals
    have hpost : Cmp.Post K w3 w4 (skp (Cmp.pr K) deep.toNat (ty8 t) (Cmp.st0 l)).1 ev (skp (Cmp.pr K) deep.toNat (ty8 t) (Cmp.st0 l)).2 := HPO.out
    have hpc := Cmp.pr_c' K
    rw [hKc] at hpc
    rw [hpc, HR.out] at hpost
    obtain ⟨D', s', hs, hgl, hsz⟩ : ∃ D' s', Mem K.E w4 K.MB K.B D' s' ∧ Glob K.E w4 ∧ (r.1 = 0 → s'.length = (Cmp.pr (Cmp.K0 c)).len r.2) := by
      by_cases hz : r.1 = 0
      · obtain ⟨D', hD'⟩ := Cmp.bufI (hpost.inv hz)
        obtain ⟨_, _, _, hgl⟩ := Cmp.bufS (hpost.inv hz).some
        exact ⟨D', _, hD', hgl, fun _ => (Cmp.len _ _).symm⟩
      · obtain ⟨D', s', h1, h2⟩ := Cmp.bufS hpost.some
        exact ⟨D', s', h1, h2, fun h => absurd h hz⟩
    rw [hKE] at hs hgl
    rw [hKM, hKB] at hs
    have hkind : ∀ W, Keep (fun _ => False) w4 W → Calls Tryz.prog 32 #[ev] W fun e w' => e = .returned (.int .i64 r.1) ∧ Keep (fun _ => False) w4 w' := fun W hW =>
      (kind_any (hgl.keep hW (fun _ x => x.elim)) ((hKE ▸ hpost.err).keep hW (fun _ _ => id))).mono fun e w' ⟨h1, h2⟩ => ⟨h1, hW.then h2⟩
    have hlen : ∀ W, Keep (fun _ => False) w4 W → Calls Tryz.prog 33 #[.pointer (some ⟨B, 0, none⟩)] W fun e w' => e = .returned (.int .i64 s'.length) ∧ Keep (fun _ => False) w4 w' := fun W hW =>
      (buf_len (hs.buf.keep hW id id)).mono fun e w' ⟨h1, n, h2⟩ => ⟨h1, h2 ▸ hW.drewN n⟩
    have hcell : ∀ W, Keep (fun _ => False) w4 W → W.cell? ⟨MB, 0, none⟩ = some (.pointer (some ⟨B, 0, none⟩)) := fun W hW => (hW.cell (p := ⟨MB, 0, none⟩) (lt_of_cell hs.mb) id).trans hs.mb
    have hkd : Keep (fun _ => False) w4 w4.drew := (Keep.refl _ w4).drew
    have hcd := hs.mb
    have HK := Lib.hid hpost.keep.keep
    have HSZ := Lib.hid hsz
    have HKI := Lib.hid hkind
    have HLE := Lib.hid hlen
    have HCE := Lib.hid hcell
    have HKN := Lib.hid hKn
    clear hpost hsz hkind hlen hcell hs hgl hpc hKn
    go_wp2_with fail
    go_region_with (first | (go_at_call 32; refine (HKI.out _ (by assumption)).mono ?_; rintro e w5 ⟨rfl, hk5⟩; have hc5 := HCE.out _ hk5) | (go_at_call 33; refine (HLE.out _ (by assumption)).mono ?_; rintro e w6 ⟨rfl, hk6⟩; have hc6 := HCE.out _ hk6))
    all_goals
      go_wp2_with fail
      go_ret2
      refine ⟨_, rfl, fun hz => by rw [HSZ.out hz], ?_⟩
      have hfin := ((hk0.then hk2).drew.then hk3).trans HK.out (fun i hi e => by
        have b0 := hk0.size
        have b9 := hk2.size
        rcases HKN.out i e with q | q
        · omega
        · simp at q; omega)
      first | exact hfin.then hk6 | exact hfin.then hk5

end Go.Proofs.YtpfifpgbnhdjnaaGreatDoor

/- The reference: Skip. -/
namespace Go.Proofs.YtpfifpgbnhdjnaaGreatDoor
open Go Go.RowKit

theorem Cmp.and_255 (t : Int) : bits BinOp.and IntKind.i64 t 255 = ty8 t := by
  have e1 : BitVec.ofInt 64 t = BitVec.ofNat 64 (t % 18446744073709551616).toNat := by
    apply BitVec.eq_of_toNat_eq
    simp only [BitVec.toNat_ofInt, BitVec.toNat_ofNat]
    omega
  have e2 : BitVec.ofInt 64 255 = BitVec.ofNat 64 255 := by decide
  have h3 : (t % 18446744073709551616).toNat &&& 255 = (t % 18446744073709551616).toNat % 256 := by
    have := Nat.and_two_pow_sub_one_eq_mod (t % 18446744073709551616).toNat 8
    simpa using this
  show IntKind.i64.wrap ((BitVec.ofInt 64 t &&& BitVec.ofInt 64 255).toNat : Int) = _
  rw [e1, e2, ← BitVec.ofNat_and, h3, BitVec.toNat_ofNat]
  simp [ty8, IntKind.wrap, IntKind.bits, IntKind.signed]
  omega

set_option maxRecDepth 100000 in
set_option maxHeartbeats 2000000 in
theorem Cmp.spec_skip {A : Nat → Prop} (c : Cfg) (hc : c.ok) (t deep : Int) (hd0 : -9223372036854775808 ≤ deep) (hd1 : deep ≤ 9223372036854775807) (v : Value) (l : List UInt8) (w : World) (h : BytesAt A w v l) (hl : l.length ≤ 1099511627775) (q : Int × Cmp.St) (hr : skp (Cmp.pr (Cmp.K0 c)) deep.toNat (ty8 t) (Cmp.st0 l) = q) :
    Calls Tryz.prog 19 #[confV Cmp.no c, .int .i64 t, v, .int .i64 deep] w fun e w' => ∃ x left, e = .returned (.tuple #[.int .i64 x, .int .i64 left]) ∧ Sk q.1 x ∧ (x = 0 → left = (Cmp.pr (Cmp.K0 c)).len q.2) ∧ Keep (fun _ => False) w w' := by
  have HR := Lib.hid hr
  clear hr
  have ha := Cmp.and_255 t
  go_enter Tryz.func19, Tryz.ntmps19
  go_wp2_with fail
  have hk0 : Keep (fun _ => False) w (w.alloc (.cells #[.int .i64 Cmp.no, .bool c.plain, .bool c.sr, .bool c.sw, .int .i32 c.msg, .int .i32 c.cont, .int .i32 c.frame] 42 (0, 0))) := (Keep.refl _ w).alloc _
  generalize w.alloc (.cells #[.int .i64 Cmp.no, .bool c.plain, .bool c.sr, .bool c.sw, .int .i32 c.msg, .int .i32 c.cont, .int .i32 c.frame] 42 (0, 0)) = w1 at *
  refine (Cmp.newReader c hc v l w1 (h.keep hk0 (fun _ _ => id)) (by omega)).mono ?_
  rintro e w2 ⟨r, rfl, ok, hpr, hi, hk2, hM, hleft⟩
  have HL := Lib.hid hleft
  have HM := Lib.hid hM
  clear hleft hM
  go_wp2_with fail
  refine (ok.skips deep.toNat deep (ty8 t) (Cmp.st0 l) w2 rfl hd0 hd1 hi (by rw [hpr]; exact Cmp.room0 _ l hl)).mono ?_
  rintro e w3 ⟨x, rfl, hx, ⟨r', h3, hr3⟩, hk3⟩
  rw [hpr, HR.out] at hx hr3
  have HX := Lib.hid hx
  have H3 := Lib.hid hr3
  clear hx hr3
  go_wp2_with fail
  refine (HL.out _ _ h3).mono ?_
  rintro e w4 ⟨rfl, rfl⟩
  go_wp2_with fail
  go_ret2
  refine ⟨x, _, rfl, HX.out, fun hz => by first | (rw [H3.out hz]; done) | (rw [H3.out hz, hpr]), ?_⟩
  exact (hk0.then hk2).trans hk3.keep (fun i hi e => by have := hk0.size; have := HM.out i e; omega)

end Go.Proofs.YtpfifpgbnhdjnaaGreatDoor

/- The law of skipping by the compact protocol. -/
namespace Go.Proofs.YtpfifpgbnhdjnaaGreatDoor
open Go Go.RowKit

set_option maxRecDepth 100000 in
set_option maxHeartbeats 4000000 in
theorem Cmp.skips_at {E : Env} {A : Nat → Prop} (c : Cfg) (hc : c.ok) (t deep : Int) (hd0 : -9223372036854775808 ≤ deep) (hd1 : deep ≤ 9223372036854775807) (v : Value) (l : List UInt8) (w : World) (hg : Glob E w) (h : BytesAt A w v l) :
    Calls Tryz.prog 10 #[confV Cmp.no c, .int .i64 t, v, .int .i64 deep] w fun e w' => e = .returned (.bool true) ∧ Keep (fun _ => False) w w' := by
  obtain ⟨a, cc, rfl, hlb, _, _⟩ := h.cellAt'
  obtain ⟨L, hL⟩ : ∃ L, l.length = L := ⟨_, rfl⟩
  obtain ⟨r, hr⟩ : ∃ r, skp (Cmp.pr (Cmp.K0 c)) deep.toNat (ty8 t) (Cmp.st0 l) = r := ⟨_, rfl⟩
  have HR := Lib.hid hr
  have H := Lib.hid h
  clear hr h
  rw [hL] at hlb H ⊢
  have HL := Lib.hid hL
  clear hL
  by_cases hm : 65536 < L
  · have hm' : (65536 : Int) < (L : Int) := by omega
    go_enter Tryz.func10, Tryz.ntmps10
    go_wp2_with fail
    have hk0 : Keep (fun _ => False) w (w.alloc (.cells (confC Cmp.no c) 23 (0, 0))) := (Keep.refl _ w).alloc _
    refine (known_at _ (hg.keep hk0 (fun _ x => x.elim))).mono ?_
    rintro e w1 ⟨rfl, hk1⟩
    go_wp2_with fail
    go_ret
    exact ⟨rfl, hk0.then hk1⟩
  · have hm' : ¬ (65536 : Int) < (L : Int) := by omega
    have hk0 : Keep (fun _ => False) w (w.alloc (.cells (confC Cmp.no c) 23 (0, 0))) := (Keep.refl _ w).alloc _
    have hp0 := heap_alloc_new w (.cells (confC Cmp.no c) 23 (0, 0))
    go_enter Tryz.func10, Tryz.ntmps10
    go_wp2_with fail
    obtain ⟨n, hn⟩ : ∃ n, w.heap.size = n := ⟨_, rfl⟩
    rw [hn] at hp0 ⊢
    generalize w.alloc (.cells (confC Cmp.no c) 23 (0, 0)) = w1 at *
    have HP := Lib.hid hp0
    clear hn hp0
    have hb1 := H.out.keep hk0 (fun _ _ => id)
    refine (Cmp.impl_skip (E := E) c hc t deep hd0 hd1 _ l w1 (hg.keep hk0 (fun _ x => x.elim)) hb1 (by rw [HL.out]; omega) r HR.out).mono ?_
    rintro e w2 ⟨left, rfl, hleft, hk2⟩
    have HLF := Lib.hid hleft
    clear hleft
    obtain ⟨c0, c1, c2, c3, c4, c5, c6⟩ := conf_cells7 ((hk2.block n (lt_of_heap HP.out) id).trans HP.out)
    go_wp2_with fail
    refine (Cmp.spec_skip c hc t deep hd0 hd1 _ l w2 (hb1.keep hk2 (fun _ _ => id)) (by rw [HL.out]; omega) r HR.out).mono ?_
    rintro e w3 ⟨x, rest, rfl, hx, hrest, hk3⟩
    have HX := Lib.hid hx
    have HRS := Lib.hid hrest
    have hk13 := hk0.then (hk2.then hk3)
    have hg3 : Glob E w3 := hg.keep hk13 (fun _ x => x.elim)
    clear hx hrest c0 c1 c2 c3 c4 c5 c6 hb1
    by_cases hz : x = 0
    · have e0 : r.1 = 0 := Sk.zero (hz ▸ HX.out)
      have e1 : left = rest := (HLF.out e0).trans (HRS.out hz).symm
      subst e1
      have hzb : (x != 0) = false := by simp [hz]
      have HZ := Lib.hid hz
      clear hz e0
      go_wp2_with fail
      refine (sameKind_at _ _ HX.out _).mono ?_
      rintro e w4 ⟨rfl, rfl⟩
      go_wp2_with fail
      refine (known_at _ hg3).mono ?_
      rintro e w5 ⟨rfl, hk5⟩
      go_wp2_with fail
      go_ret
      exact ⟨rfl, hk13.then hk5⟩
    · have hzb : (x != 0) = true := by simpa using hz
      have HZ := Lib.hid hz
      clear hz
      go_wp2_with fail
      refine (sameKind_at _ _ HX.out _).mono ?_
      rintro e w4 ⟨rfl, rfl⟩
      go_wp2_with fail
      refine (known_at _ hg3).mono ?_
      rintro e w5 ⟨rfl, hk5⟩
      go_wp2_with fail
      go_ret
      exact ⟨rfl, hk13.then hk5⟩

set_option maxRecDepth 100000 in
set_option maxHeartbeats 4000000 in
/-- The law: whatever is skipped by the binary protocol. -/
theorem Cmp.law_skip {E : Env} {A : Nat → Prop} (p0 : Int) (c : Cfg) (hc : c.ok) (t deep : Int) (hd0 : -9223372036854775808 ≤ deep) (hd1 : deep ≤ 9223372036854775807) (v : Value) (l : List UInt8) (w : World) (hg : Glob E w) (h : BytesAt A w v l) :
    Calls Tryz.prog 5 #[confV p0 c, .int .i64 t, v, .int .i64 deep] w fun e w' => e = .returned (.bool true) ∧ Keep (fun _ => False) w w' := by
  obtain ⟨a, cc, rfl, hlb, _, _⟩ := h.cellAt'
  obtain ⟨L, hL⟩ : ∃ L, l.length = L := ⟨_, rfl⟩
  have H := Lib.hid h
  clear h
  rw [hL] at hlb H ⊢
  clear hL
  have hk0 : Keep (fun _ => False) w (w.alloc (.cells (confC p0 c) 23 (0, 0))) := (Keep.refl _ w).alloc _
  by_cases hm : 2147483647 < L
  · have hm' : (2147483647 : Int) < (L : Int) := by omega
    go_enter Tryz.func5, Tryz.ntmps5
    go_wp2_with fail
    go_ret
    exact ⟨rfl, hk0⟩
  · have hm' : ¬ (2147483647 : Int) < (L : Int) := by omega
    go_enter Tryz.func5, Tryz.ntmps5
    go_wp2_with fail
    refine (by_at Cmp.no p0 c _).mono ?_
    rintro e w1 ⟨rfl, hk1⟩
    have hk := hk0.then hk1
    go_wp2_with fail
    refine (Cmp.skips_at (E := E) c hc t deep hd0 hd1 _ l w1 (hg.keep hk (fun _ x => x.elim)) (H.out.keep hk (fun _ _ => id))).mono ?_
    rintro e w2 ⟨rfl, hk2⟩
    go_wp2_with fail
    go_ret
    exact ⟨rfl, hk.then hk2⟩

end Go.Proofs.YtpfifpgbnhdjnaaGreatDoor
