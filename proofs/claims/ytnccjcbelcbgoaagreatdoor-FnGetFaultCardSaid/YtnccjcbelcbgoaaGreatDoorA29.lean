/- Part 29 of the proof: ImpFBin. -/
import Derived.Test.YtnccjcbelcbgoaaGreatDoorA21
import Derived.Test.YtnccjcbelcbgoaaGreatDoorA20
import Derived.Test.YtnccjcbelcbgoaaGreatDoorA28
import Derived.Test.YtnccjcbelcbgoaaGreatDoorA15
import Derived.Test.YtnccjcbelcbgoaaGreatDoorA25
import Derived.Deep.Cut
import Derived.Deep.CutBlock
import Derived.Deep.RegionHeld3
set_option linter.unusedVariables false
set_option linter.unusedSimpArgs false
set_option linter.unusedSectionVars false
/- The thin package: GetFault. -/
namespace Go.Proofs.YtnccjcbelcbgoaaGreatDoor
open Go Go.RowKit

abbrev Bin.xV (PX : Nat) : Value := .iface 101 (.pointer (some ⟨PX, 0, none⟩))

set_option maxHeartbeats 1000000 in
theorem Bin.newExc_at (w : World) : Calls Tryz.prog 20 #[.int .i32 0, .string ⟨#[]⟩] w fun e w' => ∃ PX, e = .returned (Bin.xV PX) ∧ w.heap.size ≤ PX ∧ w'.heap[PX]? = some (.cells (excC ⟨#[]⟩ 0 .nilIface) 103 (0, 0)) ∧ Keep (fun _ => False) w w' := by
  go_enter Tryz.func20, Tryz.ntmps20
  go_wp2_with fail
  go_ret
  exact ⟨_, rfl, Nat.le_refl _, heap_alloc_new w _, (Keep.refl _ w).alloc _⟩

set_option maxHeartbeats 1000000 in
theorem Bin.typeId_at {PX : Nat} {m : ByteArray} {q : Int} {ex : Value} {w : World} (h : w.heap[PX]? = some (.cells (excC m q ex) 103 (0, 0))) :
    Calls Tryz.prog 146 #[.pointer (some ⟨PX, 0, none⟩)] w fun e w' => e = .returned (.int .i32 q) ∧ w = w' := by
  have c1 := cellAt h 1
  simp at c1
  go_enter Tryz.func146, Tryz.ntmps146
  go_wp2_with fail
  go_ret
  exact ⟨rfl, rfl⟩

theorem Bin.na_Read (PX : Nat) (w : World) : (nilAhead 491 101 (.pointer (some ⟨PX, 0, none⟩)) "Read").run Tryz.prog w = .ok (some false) w := by kernel_rfl

/-- Behind the reading: what is known of the buffer, the exception, the error. -/
def Bin.FMid (E : Env) (MB B PX : Nat) (c : Cfg) (R : Int × Bin.St × (List UInt8 × Int)) (w0 : World) (ev : Value) (w : World) : Prop :=
  ∃ D s' mm qq, Mem E w MB B D s' ∧ Glob E w ∧ ErrAt E 0 w ev R.1 ∧ w.heap[PX]? = some (.cells (excC mm qq .nilIface) 103 (0, 0)) ∧ mm.size ≤ 140737488355328 ∧ Keep (fun _ => False) w0 w ∧ (R.1 = 0 → mm = ⟨R.2.2.1.toArray⟩ ∧ qq = R.2.2.2 ∧ s'.length = (Bin.pr (Bin.K0 c)).len R.2.1)

def Bin.FltG (c : Cfg) (R : Int × Bin.St × (List UInt8 × Int)) (w : World) (e : Ending) (w' : World) : Prop :=
  ∃ q va vm vc left, e = .returned (.tuple #[.int .i32 q, .slice va vm vc, .int .i64 R.1, .int .i64 left]) ∧ (R.1 = 0 → left = (Bin.pr (Bin.K0 c)).len R.2.1 ∧ q = R.2.2.2 ∧ ∃ A', BytesAt A' w' (.slice va vm vc) (fltTxt R.2.2)) ∧ Keep (fun _ => False) w w'

theorem Bin.fltTxt_le (a : List UInt8 × Int) (h : a.1.length ≤ 140737488355328) : (fltTxt a).length ≤ 140737488355328 := by
  unfold fltTxt
  split
  · rcases fault_cases a.2 with h | h | h
    · rw [faultTxt_out _ (.inl h)]; simp
    · rw [faultTxt_out _ (.inr h)]; simp
    · rcases h with h | h | h | h | h | h | h | h | h | h | h | h <;> rw [h] <;> decide
  · exact h

set_option maxRecDepth 100000 in
set_option maxHeartbeats 8000000 in
theorem Bin.impl_getFault {E : Env} {A : Nat → Prop} (c : Cfg) (hc : c.ok) (v : Value) (l : List UInt8) (w : World) (hg : Glob E w) (h : BytesAt A w v l) (hl : l.length ≤ 1099511627775) (R : Int × Bin.St × (List UInt8 × Int)) (hR : flt (Bin.pr (Bin.K0 c)) ((Bin.pr (Bin.K0 c)).len ((Bin.pr (Bin.K0 c)).sbS (Bin.st0 l)) + 1) ((Bin.pr (Bin.K0 c)).sbS (Bin.st0 l)) ([], 0) = R) :
    Calls Tryz.prog 9 #[.agg (confC (Bin.no c) c), v] w (Bin.FltG c R w) := by
  have HR := Lib.hid hR
  clear hR
  have hk0 : Keep (fun _ => False) w (w.alloc (.cells (confC (Bin.no c) c) 23 (0, 0))) := (Keep.refl _ w).alloc _
  have hc0 := heap_alloc_new w (.cells (confC (Bin.no c) c) 23 (0, 0))
  go_enter Tryz.func9, Tryz.ntmps9
  go_wp2_with fail
  obtain ⟨n0, hn⟩ : ∃ n0, w.heap.size = n0 := ⟨_, rfl⟩
  rw [hn] at hc0 ⊢
  generalize w.alloc (.cells (confC (Bin.no c) c) 23 (0, 0)) = w1 at *
  have HN := Lib.hid hn
  have HC0 := Lib.hid hc0
  have HK0 := Lib.hid hk0
  clear hn hc0
  refine (holding_at (E := E) (h.keep hk0 (fun _ _ => id)) (Nat.le_trans hg.size hk0.size)).mono ?_
  rintro e w2 ⟨MB, B, D, rfl, hm, hk2, b1, b2, b3, b4, b5⟩
  have hgk : Glob E w2 := hg.keep (hk0.then hk2) (fun _ x => x.elim)
  have HM := Lib.hid hm
  have HG := Lib.hid hgk
  have HK2 := Lib.hid hk2
  have HB : Hid (n0 < B) := Lib.hid (by have := hk0.size; have := lt_of_heap HC0.out; omega)
  clear hk0 hk2 hm hgk b1 b2 b3 b4 b5
  go_wp2_with fail
  refine (Bin.newExc_at w2).mono ?_
  rintro e w3 ⟨PX, rfl, hPX, hP3, hk3⟩
  obtain ⟨c0, c1, c2, c3, c4, c5, c6⟩ := conf_cells7 (((HK2.out.then hk3).block n0 (lt_of_heap HC0.out) id).trans HC0.out)
  have hMB : MB < w2.heap.size := lt_of_cell HM.out.mb
  have hBB : B < w2.heap.size := HM.out.buf.lt
  have hDD := HM.out.ltD
  have HP3 := Lib.hid hP3
  have HK3 := Lib.hid hk3
  have hm3 := HM.out.keep hk3 id id id
  have hg3 := HG.out.keep hk3 (fun _ x => x.elim)
  have HM3 := Lib.hid hm3
  have HG3 := Lib.hid hg3
  clear hP3 hk3 hm3 hg3
  have hna := Bin.na_Read PX
  go_wp2_with fail
  go_cut [10] from 14 to 24 (fun s10 wx => ∃ ev, s10 = ev ∧ Bin.FMid E MB B PX c R w ev wx)
  case first =>
    go_region_with (first | (go_at_call 21; refine (ctx_at _).mono ?_; rintro e w' ⟨rfl, rfl⟩) | (go_at_call 22; refine (Bin.madeD (w := w3.drew) (E := E) (D := D) (c := c) (l := l) (HG3.out.keep ((Keep.refl (fun _ => False) w3).drew) (fun _ x => x.elim)) (HM3.out.keep ((Keep.refl (fun _ => False) w3).drew) id id id) hc (by omega)).mono ?_; rintro e w4 ⟨K, rfl, hKE, hKM, hKB, hKD, hKc, hinv, hk4, hKn⟩; have HI4 := Lib.hid hinv; have HK4 := Lib.hid hk4; have HKN := Lib.hid hKn; clear hinv hk4 hKn) | (go_at_call 144; refine (Bin.fault_read K PX ⟨#[]⟩ 0 .nilIface (by decide) (Bin.st0 l) w4 HI4.out (Bin.room0 K l hl) ((HK4.out.block PX (by simpa using lt_of_heap HP3.out) id).trans HP3.out) (fun x => by rcases HKN.out PX x with e | e; omega; have := lt_of_heap HP3.out; simp at e; omega) R (by have hpc := Bin.pr_c' K; rw [hKc] at hpc; rw [hpc]; exact HR.out)).mono ?_; rintro e w6 ⟨ev, w5, mm, qq, rfl, hpost, hk56, hP6, hqq, hres⟩; have HPO := Lib.hid hpost; have HK56 := Lib.hid hk56; have HP6 := Lib.hid hP6; have HRES := Lib.hid hres; have HMM := Lib.hid hqq.2; clear hpost hk56 hP6 hres hqq))
    all_goals
      go_wp2_with fail
      go_simp
      go_meet
      have hs4 := HK4.out.size
      have hp3 := lt_of_heap HP3.out
      have hn0 := HN.out
      have hb := HB.out
      have hs2 := HK2.out.size
      have hs1 := HK0.out.size
      simp at hs4
      obtain ⟨s', hm5, hg5, hs5⟩ : ∃ s', Mem E w5 MB B D s' ∧ Glob E w5 ∧ (R.1 = 0 → s'.length = (Bin.pr (Bin.K0 c)).len R.2.1) := by
        obtain ⟨s5, h1, h2⟩ := Bin.bufSD HPO.out.some
        rw [hKE, hKM, hKB, hKD] at h1
        rw [hKE] at h2
        by_cases hz : R.1 = 0
        · have h3 := Bin.bufID (HPO.out.inv hz)
          rw [hKE, hKM, hKB, hKD] at h3
          exact ⟨_, h3, h2, fun _ => (Bin.len (Bin.K0 c) R.2.1).symm⟩
        · exact ⟨_, h1, h2, fun e => absurd e hz⟩
      have herr := (HPO.out.err.keep HK56.out (fun i hi e => by omega)).mono (Nat.zero_le _)
      rw [hKE] at herr
      refine ⟨_, rfl, D, s', mm, qq, hm5.keep HK56.out (by omega) (by omega) (by omega), hg5.keep HK56.out (fun i e => by have := HG.out.size; omega), herr, HP6.out, HMM.out, ?_, fun hz => ⟨(HRES.out hz).1, (HRES.out hz).2, hs5 hz⟩⟩
      exact (((((HK0.out.then HK2.out).then HK3.out).then ((Keep.refl (fun _ => False) w3).drew)).then HK4.out).trans HPO.out.keep.keep (fun i hi x => by rcases HKN.out i x with e | e; omega; simp at e; omega)).trans HK56.out (fun i hi e => by omega)
  case rest =>
  obtain ⟨ev, he, D', s', mm, qq, hmz, hgz, hez, hPz, hmm, hkz, hres⟩ := hcut
  have he := he.symm
  subst he
  generalize wc = wz at *
  obtain ⟨m, rfl⟩ : ∃ m : List UInt8, (⟨m.toArray⟩ : ByteArray) = mm := ⟨mm.data.toList, by simp⟩
  have hm2 : m.length ≤ 140737488355328 := by
    have : m.toArray.size ≤ 140737488355328 := hmm
    simpa using this
  have HMZ := Lib.hid hmz
  have HGZ := Lib.hid hgz
  have HEZ := Lib.hid hez
  have HPZ := Lib.hid hPz
  have HKZ := Lib.hid hkz
  have HRES := Lib.hid hres
  have HLE := Lib.hid (Bin.fltTxt_le (m, qq) hm2)
  clear hmz hgz hez hPz hkz hres hmm hm2 c0 c1 c2 c3 c4 c5 c6
  obtain ⟨t, ht⟩ : ∃ t : ByteArray, ⟨(fltTxt (m, qq)).toArray⟩ = t := ⟨_, rfl⟩
  have HT := Lib.hid ht
  have hcv := cv_run t
  have hall : ∀ W, Keep (fun _ => False) wz W → W.cell? ⟨MB, 0, none⟩ = some (.pointer (some ⟨B, 0, none⟩)) ∧ W.heap[PX]? = some (.cells (excC ⟨m.toArray⟩ qq .nilIface) 103 (0, 0)) := fun W hW =>
    ⟨(hW.cell (p := ⟨MB, 0, none⟩) (lt_of_cell HMZ.out.mb) id).trans HMZ.out.mb, (hW.block PX (lt_of_heap HPZ.out) id).trans HPZ.out⟩
  have htyp : ∀ W, Keep (fun _ => False) wz W → Calls Tryz.prog 146 #[.pointer (some ⟨PX, 0, none⟩)] W fun e w' => e = .returned (.int .i32 qq) ∧ W = w' := fun W hW => Bin.typeId_at (hall W hW).2
  have herr : ∀ W, Keep (fun _ => False) wz W → Calls Tryz.prog 143 #[.agg (excC ⟨m.toArray⟩ qq .nilIface)] W fun e w' => e = .returned (.string t) ∧ Keep (fun _ => False) wz w' ∧ Keep (fun _ => False) W w' := fun W hW =>
    (exc_error m qq .nilIface W).mono fun e w' ⟨h1, h2⟩ => ⟨by rw [h1, HT.out], hW.then h2, h2⟩
  have hkind : ∀ W, Keep (fun _ => False) wz W → Calls Tryz.prog 23 #[ev] W fun e w' => e = .returned (.int .i64 R.1) ∧ Keep (fun _ => False) wz w' ∧ Keep (fun _ => False) W w' := fun W hW =>
    (kind_any (HGZ.out.keep hW (fun _ x => x.elim)) (HEZ.out.keep hW (fun _ _ => id))).mono fun e w' ⟨h1, h2⟩ => ⟨h1, hW.then h2, h2⟩
  have hlen : ∀ W, Keep (fun _ => False) wz W → Calls Tryz.prog 24 #[.pointer (some ⟨B, 0, none⟩)] W fun e w' => e = .returned (.int .i64 s'.length) ∧ Keep (fun _ => False) wz w' ∧ Keep (fun _ => False) W w' := fun W hW =>
    (buf_len (HMZ.out.buf.keep hW id id)).mono fun e w' ⟨h1, n, h2⟩ => ⟨h1, h2 ▸ hW.drewN n, h2 ▸ (Keep.refl _ W).drewN n⟩
  have HALL := Lib.hid hall
  have HTY := Lib.hid htyp
  have HER := Lib.hid herr
  have HKI := Lib.hid hkind
  have HLEN := Lib.hid hlen
  have hkd : Keep (fun _ => False) wz wz.drew := (Keep.refl _ wz).drew
  have hmt := method_exc (hall _ hkd).2 490
  simp only [Nat.reduceAdd] at hmt
  obtain ⟨a0, p0⟩ := hall _ (Keep.refl _ wz)
  obtain ⟨x0, y0, z0⟩ := exc_cells p0
  clear hall htyp herr hkind hlen ht p0
  go_wp2_with fail
  go_cut [4, 5, 6, 7] from 24 to 36 (fun s4 s5 s6 s7 wx => ∃ va vm vc, s4 = .int .i32 qq ∧ s5 = .slice va vm vc ∧ s6 = .int .i64 R.1 ∧ s7 = .int .i64 s'.length ∧ Keep (fun _ => False) wz wx ∧ BytesAt (wz.heap.size ≤ ·) wx (.slice va vm vc) (fltTxt (m, qq)))
  case first =>
    go_region_with (first | (go_at_call 146; refine (HTY.out _ (by assumption)).mono ?_; rintro e w' ⟨rfl, rfl⟩) | (go_at_call 143; refine (HER.out _ (by assumption)).mono ?_; rintro e w6 ⟨rfl, hk6, hkW6⟩; have hkc6 := hk6.then (cvW_keep t w6); obtain ⟨a6, p6⟩ := HALL.out _ hk6; obtain ⟨x6, y6, z6⟩ := exc_cells p6; obtain ⟨b6, q6⟩ := HALL.out _ hkc6; obtain ⟨u6, v6, o6⟩ := exc_cells q6; clear p6 q6) | (go_at_call 23; refine (HKI.out _ (by assumption)).mono ?_; rintro e w7 ⟨rfl, hk7, hkW7⟩; have hkc7 := hk7.then (cvW_keep t w7); obtain ⟨a7, p7⟩ := HALL.out _ hk7; obtain ⟨x7, y7, z7⟩ := exc_cells p7; obtain ⟨b7, q7⟩ := HALL.out _ hkc7; obtain ⟨u7, v7, o7⟩ := exc_cells q7; clear p7 q7) | (go_at_call 24; refine (HLEN.out _ (by assumption)).mono ?_; rintro e w8 ⟨rfl, hk8, hkW8⟩; have hkc8 := hk8.then (cvW_keep t w8); obtain ⟨a8, p8⟩ := HALL.out _ hk8; obtain ⟨x8, y8, z8⟩ := exc_cells p8; obtain ⟨b8, q8⟩ := HALL.out _ hkc8; obtain ⟨u8, v8, o8⟩ := exc_cells q8; clear p8 q8))
    all_goals
      go_wp2_with fail
      go_simp
      go_meet
      have hb : ∀ W, BytesAt (W.heap.size ≤ ·) (cvW W t) (cvV W t) (fltTxt (m, qq)) := fun W => by
        have h1 := cv_at t W (by rw [← HT.out]; show (fltTxt (m, qq)).toArray.size ≤ _; simpa using HLE.out)
        have e : t.data.toList = fltTxt (m, qq) := by rw [← HT.out]
        rw [e] at h1
        exact h1
      refine ⟨_, _, _, rfl, rfl, rfl, rfl, by assumption, ?_⟩
      first
        | exact (((hb w6).keep hkW7 (fun _ _ => id)).keep hkW8 (fun _ _ => id)).weak (fun i _ hi => Nat.le_trans hk6.size hi)
        | exact ((hb w7).keep hkW8 (fun _ _ => id)).weak (fun i _ hi => Nat.le_trans hk7.size hi)
        | exact (hb w8).weak (fun i _ hi => Nat.le_trans hk8.size hi)
  case rest =>
  obtain ⟨va, vm, vc, rfl, rfl, rfl, rfl, hkq, hbq⟩ := hcut
  go_wp2_with fail
  go_returns
  refine ⟨qq, va, vm, vc, _, rfl, fun hz => ?_, HKZ.out.then hkq⟩
  obtain ⟨e1, e2, e3⟩ := HRES.out hz
  have e4 : m = R.2.2.1 := by simpa using e1
  refine ⟨by rw [e3], e2, ⟨fun i => wz.heap.size ≤ i, ?_⟩⟩
  have e5 : (m, qq) = R.2.2 := by rw [e4, e2]
  rw [← e5]
  exact hbq

end Go.Proofs.YtnccjcbelcbgoaaGreatDoor
