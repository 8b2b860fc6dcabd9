/- Part 27 of the proof: SkipR, Skip2R, Skip3R. -/
import Derived.Test.YtjekbomlpcdojaaGreatDoorK10
import Derived.Deep.LoopGhost
set_option linter.unusedVariables false
set_option linter.unusedSimpArgs false
set_option linter.unusedSectionVars false
set_option maxHeartbeats 16000000
namespace Go.Proofs.YtjekbomlpcdojaaGreatDoor
open Go Go.RowKit
abbrev Rp.Skips {St : Type} (K : Rp.Ctx St) (d : Nat) : Prop := ∀ (deep t : Int) (s : St) (w : World), deep.toNat = d → -9223372036854775808 ≤ deep → deep ≤ 9223372036854775807 → K.Inv s w → K.pr.Room s →
 Calls Tryz.prog 167 #[ctxV, .iface K.T (.pointer (some ⟨K.P, 0, none⟩)), .int .u8 t, .int .i64 deep] w fun e w' => ∃ ev, e = .returned ev ∧ Rp.Post K w w' (skp K.pr d t s).1 ev (skp K.pr d t s).2
set_option maxRecDepth 100000 in
theorem Rp.skip_zero {St : Type} (K : Rp.Ctx St) : Rp.Skips K 0 := by
 intro deep t s w hd hlo hhi h _
 have hle : deep ≤ 0 := by omega
 go_enter Tryz.func167, Tryz.ntmps167
 go_wp2_with fail
 refine (errNew _ _).mono ?_
 rintro e w8 ⟨b, rfl, hb, _, hk8⟩
 go_wp2_with fail
 refine (newPExcT' (E := K.E) (n0 := w.heap.size) 6 (by omega) b 0 _ _ hb hk8.size).mono ?_
 rintro e w9 ⟨v, rfl, hv, hk9⟩
 go_wp2_with fail
 go_ret
 exact ⟨_, rfl, .bad h (hk8.then hk9) hv (by simp [skp])⟩
set_option maxRecDepth 100000 in
theorem Rp.skip_scalar {St : Type} (K : Rp.Ctx St) (d : Nat) (deep t : Int) (s : St) (w : World) (hd : 0 < deep) (hhi : deep ≤ 9223372036854775807) (h : K.Inv s w) (ht : isSc t = true) :
  Calls Tryz.prog 167 #[ctxV, .iface K.T (.pointer (some ⟨K.P, 0, none⟩)), .int .u8 t, .int .i64 deep] w fun e w' => ∃ ev, e = .returned ev ∧ Rp.Post K w w' (K.pr.scK t s) ev (K.pr.scS t s) := by
 have ht : t = 2 ∨ t = 3 ∨ t = 6 ∨ t = 8 ∨ t = 10 ∨ t = 4 ∨ t = 11 ∨ t = 16 := by simpa [isSc, or_assoc] using ht
 rcases ht with rfl | rfl | rfl | rfl | rfl | rfl | rfl | rfl
 ·obtain ⟨hmt, hmn, hmc⟩ := K.mBool
  go_enter Tryz.func167, Tryz.ntmps167
  go_wp2_with fail
  refine (K.readBool h).mono ?_
  rintro e w1 ⟨v, ev, rfl, hp, _⟩
  go_wp2_with fail
  go_ret
  exact ⟨_, rfl, hp⟩
 ·obtain ⟨hmt, hmn, hmc⟩ := K.mByte
  go_enter Tryz.func167, Tryz.ntmps167
  go_wp2_with fail
  refine (K.readByte h).mono ?_
  rintro e w1 ⟨v, ev, rfl, hp, _⟩
  go_wp2_with fail
  go_ret
  exact ⟨_, rfl, hp⟩
 ·obtain ⟨hmt, hmn, hmc⟩ := K.mI16
  go_enter Tryz.func167, Tryz.ntmps167
  go_wp2_with fail
  refine (K.readI16 h).mono ?_
  rintro e w1 ⟨v, ev, rfl, hp, _⟩
  go_wp2_with fail
  go_ret
  exact ⟨_, rfl, hp⟩
 ·obtain ⟨hmt, hmn, hmc⟩ := K.mI32
  go_enter Tryz.func167, Tryz.ntmps167
  go_wp2_with fail
  refine (K.readI32 h).mono ?_
  rintro e w1 ⟨v, ev, rfl, hp, _⟩
  go_wp2_with fail
  go_ret
  exact ⟨_, rfl, hp⟩
 ·obtain ⟨hmt, hmn, hmc⟩ := K.mI64
  go_enter Tryz.func167, Tryz.ntmps167
  go_wp2_with fail
  refine (K.readI64 h).mono ?_
  rintro e w1 ⟨v, ev, rfl, hp, _⟩
  go_wp2_with fail
  go_ret
  exact ⟨_, rfl, hp⟩
 ·obtain ⟨hmt, hmn, hmc⟩ := K.mDbl
  go_enter Tryz.func167, Tryz.ntmps167
  go_wp2_with fail
  refine (K.readDouble h).mono ?_
  rintro e w1 ⟨v, ev, rfl, hp, _⟩
  go_wp2_with fail
  go_ret
  exact ⟨_, rfl, hp⟩
 ·obtain ⟨hmt, hmn, hmc⟩ := K.mStr
  go_enter Tryz.func167, Tryz.ntmps167
  go_wp2_with fail
  refine (K.readString h).mono ?_
  rintro e w1 ⟨v, ev, rfl, hp, _⟩
  go_wp2_with fail
  go_ret
  exact ⟨_, rfl, hp⟩
 ·obtain ⟨hmt, hmn, hmc⟩ := K.mUuid
  go_enter Tryz.func167, Tryz.ntmps167
  go_wp2_with fail
  refine (K.readUUID h).mono ?_
  rintro e w1 ⟨v, ev, rfl, hp, _⟩
  go_wp2_with fail
  go_ret
  exact ⟨_, rfl, hp⟩
set_option maxRecDepth 100000 in
theorem Rp.skip_other {St : Type} (K : Rp.Ctx St) (deep t : Int) (s : St) (w : World) (hd : 0 < deep) (hhi : deep ≤ 9223372036854775807) (h : K.Inv s w) (ht : isSc t = false) (h12 : ¬ t = 12) (h13 : ¬ t = 13) (h14 : ¬ t = 14) (h15 : ¬ t = 15) :
  Calls Tryz.prog 167 #[ctxV, .iface K.T (.pointer (some ⟨K.P, 0, none⟩)), .int .u8 t, .int .i64 deep] w fun e w' => ∃ ev, e = .returned ev ∧ Rp.Post K w w' 11 ev s := by
 obtain ⟨n2, n3, n6, n8, n10, n4, n11, n16⟩ : (¬ t = 2) ∧ (¬ t = 3) ∧ (¬ t = 6) ∧ (¬ t = 8) ∧ (¬ t = 10) ∧ (¬ t = 4) ∧ (¬ t = 11) ∧ (¬ t = 16) := by simpa [isSc, and_assoc] using ht
 go_enter Tryz.func167, Tryz.ntmps167
 go_wp2_with fail
 refine (errNew _ _).mono ?_
 rintro e w8 ⟨b, rfl, hb, _, hk8⟩
 go_wp2_with fail
 refine (newPExcT' (E := K.E) (n0 := w.heap.size) 1 (by omega) b 0 _ _ hb hk8.size).mono ?_
 rintro e w9 ⟨v, rfl, hv, hk9⟩
 go_wp2_with fail
 go_ret
 exact ⟨_, rfl, .bad h (hk8.then hk9) hv (by decide)⟩
def Rp.FldRel {St : Type} (K : Rp.Ctx St) (w : World) (f : Int → St → Int × St) (tot : Int × St) (b k : Nat) (wr : World) : Prop :=
 ∃ s, K.Inv s wr ∧ Kpt (K.M) w wr ∧ K.pr.len s < k ∧ flds K.pr f k s = tot ∧ K.pr.one ≤ K.pr.dep s ∧ K.pr.len s + K.pr.dep s ≤ b
set_option maxRecDepth 100000 in
theorem Rp.skip_struct {St : Type} (K : Rp.Ctx St) (d : Nat) (ih : Rp.Skips K d) (deep : Int) (s : St) (w : World) (hdq : deep.toNat = d + 1) (hd : 0 < deep) (hhi : deep ≤ 9223372036854775807) (h : K.Inv s w) (hroom : K.pr.Room s) :
  Calls Tryz.prog 167 #[ctxV, .iface K.T (.pointer (some ⟨K.P, 0, none⟩)), .int .u8 12, .int .i64 deep] w fun e w' => ∃ ev, e = .returned ev ∧ Rp.Post K w w' (flds K.pr (skp K.pr d) (K.pr.len (K.pr.sbS s) + 1) (K.pr.sbS s)).1 ev (flds K.pr (skp K.pr d) (K.pr.len (K.pr.sbS s) + 1) (K.pr.sbS s)).2 := by
 obtain ⟨tot, htot⟩ : ∃ tot, flds K.pr (skp K.pr d) (K.pr.len (K.pr.sbS s) + 1) (K.pr.sbS s) = tot := ⟨_, rfl⟩
 rw [htot]
 have HT := hdd htot
 clear htot
 have hd1 : (deep - 1).toNat = d := by omega
 have HD := hdd hd1
 have hR : K.pr.len s + K.pr.dep s < 1099511627776 := hroom
 have HRM := hdd hR
 clear hroom hR
 have HDD := hdd hdq
 clear hd1 hdq
 obtain ⟨hSbm, hSbn, hSbc⟩ := K.mSb
 obtain ⟨hFbm, hFbn, hFbc⟩ := K.mFb
 obtain ⟨hSem, hSen, hSec⟩ := K.mSe
 obtain ⟨hFem, hFen, hFec⟩ := K.mFe
 go_enter Tryz.func167, Tryz.ntmps167
 go_wp2_with fail
 refine (K.readStructBegin h (by have := HRM.out; omega)).mono ?_
 rintro e w1 ⟨l, rfl, hp1⟩
 go_wp2_with fail
 go_loopg [] (K.pr.len (K.pr.sbS s) + 1) (fun k wr => Rp.FldRel K w (skp K.pr d) tot (K.pr.len s + K.pr.dep s + K.pr.one) k wr)
 case atStart => exact ⟨_, hp1.inv rfl, hp1.keep, Nat.lt_succ_self _, HT.out, by rw [K.ok.dsb]; omega, by rw [K.ok.dsb]; have := K.ok.sb s; omega⟩
 case round =>
  obtain ⟨s1, hi1, hk1, hlt, hfl, hdp⟩ := hrel
  have HDP := hdd hdp
  clear hdp
  cases gk with
  | zero => exact absurd hlt (Nat.not_lt_zero _)
  | succ k =>
  have HF := hdd hfl
  have HLT := hdd hlt
  clear hfl hlt
  go_wp2_with fail
  refine (K.readFieldBegin hi1).mono ?_
  rintro e w2 ⟨l2, t, id, ev, rfl, hp2, hv2⟩
  by_cases hz : K.pr.fK s1 = 0
  ·have hev : ev = .nilIface := by have := hp2.err; rw [hz] at this; exact this.isNil
   subst hev
   obtain ⟨ht, hid2⟩ := hv2 hz
   have HZ := hdd hz
   clear hv2 hz hid2
   by_cases ht0 : t = 0
   ·subst ht0
    have HT0 := hdd ht
    clear ht
    go_wp2_with fail
    refine (K.readStructEnd (hp2.inv HZ.out) (by rw [K.ok.df s1 HZ.out]; exact HDP.out.1)).mono ?_
    rintro e w3 ⟨rfl, hp3⟩
    go_wp2_with fail
    go_ret
    have e1 : tot = (0, K.pr.seS (K.pr.fS s1)) := by
     rw [← HF.out]; simp only [flds]; rw [if_pos HZ.out, if_pos HT0.out.symm]
    rw [e1]
    exact ⟨_, rfl, (Rp.Post.onto hk1 hp2).then hp3⟩
   ·have HT0 := hdd ht
    clear ht
    go_wp2_with fail
    refine (ih (deep - 1) t _ w2 HD.out (by omega) (by omega) (hp2.inv HZ.out) (by have a1 := K.ok.df s1 HZ.out; have a2 := K.ok.f s1 HZ.out; have a3 := HDP.out.2; have a4 := K.ok.one1; have a5 := HRM.out; show _ + _ < _; omega)).mono ?_
    rintro e w3 ⟨ev, rfl, hp3⟩
    rw [HT0.out] at hp3
    have hne : ¬ K.pr.fT s1 = 0 := fun hh => ht0 (HT0.out.trans hh)
    by_cases hz3 : (skp K.pr d (K.pr.fT s1) (K.pr.fS s1)).1 = 0
    ·have hev : ev = .nilIface := by have := hp3.err; rw [hz3] at this; exact this.isNil
     subst hev
     have HZ3 := hdd hz3
     have HNE := hdd hne
     clear hz3 hne
     go_wp2_with fail
     refine (K.readFieldEnd (hp3.inv HZ3.out)).mono ?_
     rintro e w4 ⟨rfl, hp4⟩
     go_wp2_with fail
     go_roundg k
     case measure => exact Nat.lt_succ_self _
     case rel =>
      refine ⟨_, hp4.inv rfl, ((hk1.then hp2.keep).then hp3.keep).then hp4.keep, ?_, ?_, ?_⟩
      ·have ok := K.ok
       have a1 := ok.fe (skp K.pr d (K.pr.fT s1) (K.pr.fS s1)).2
       have a2 := skp_len ok d _ _ HZ3.out
       have a3 := ok.f s1 HZ.out
       have a4 := HLT.out
       omega
      ·rw [← HF.out]; simp only [flds]; rw [if_pos HZ.out, if_neg HNE.out, if_pos HZ3.out]
      ·have ok := K.ok
       have a1 := ok.fe (skp K.pr d (K.pr.fT s1) (K.pr.fS s1)).2
       have a2 := skp_len ok d _ _ HZ3.out
       have a3 := ok.f s1 HZ.out
       have a4 := HDP.out
       have a5 := ok.dfe (skp K.pr d (K.pr.fT s1) (K.pr.fS s1)).2
       have a6 := skp_dep ok d _ _ HZ3.out
       have a7 := ok.df s1 HZ.out
       exact ⟨by omega, by omega⟩
    ·obtain ⟨tt, x, rfl⟩ := hp3.err.held hz3
     have HZ3 := hdd hz3
     have HNE := hdd hne
     clear hz3 hne
     go_wp2_with fail
     go_ret
     have e1 : tot = skp K.pr d (K.pr.fT s1) (K.pr.fS s1) := by
      rw [← HF.out]; simp only [flds]; rw [if_pos HZ.out, if_neg HNE.out, if_neg HZ3.out]
     rw [e1]
     exact ⟨_, rfl, Rp.Post.onto (hk1.then hp2.keep) hp3⟩
  ·obtain ⟨tt, x, rfl⟩ := hp2.err.held hz
   have HZ := hdd hz
   clear hv2 hz
   go_wp2_with fail
   go_ret
   have e1 : tot = (K.pr.fK s1, K.pr.fS s1) := by
    rw [← HF.out]; simp only [flds]; rw [if_neg HZ.out]
   rw [e1]
   exact ⟨_, rfl, Rp.Post.onto hk1 hp2⟩
def Rp.RepRel {St : Type} (K : Rp.Ctx St) (w : World) (f : St → Int × St) (n : Int) (tot : Int × St) (k : Nat) (v : Value) (wr : World) : Prop :=
 ∃ i s, v = .int .i64 i ∧ 0 ≤ i ∧ k = (n - i).toNat ∧ K.Inv s wr ∧ Kpt (K.M) w wr ∧ rep f k s = tot ∧ K.pr.Room s
set_option maxRecDepth 100000 in
theorem Rp.skip_list {St : Type} (K : Rp.Ctx St) (d : Nat) (ih : Rp.Skips K d) (deep : Int) (s : St) (w : World) (hdq : deep.toNat = d + 1) (hd : 0 < deep) (hhi : deep ≤ 9223372036854775807) (h : K.Inv s w) (hroom : K.pr.Room s) :
  Calls Tryz.prog 167 #[ctxV, .iface K.T (.pointer (some ⟨K.P, 0, none⟩)), .int .u8 15, .int .i64 deep] w fun e w' => ∃ ev, e = .returned ev ∧ Rp.Post K w w' (skp K.pr (d + 1) 15 s).1 ev (skp K.pr (d + 1) 15 s).2 := by
 by_cases hz : K.pr.lK s = 0
 ·obtain ⟨tot, htot⟩ : ∃ tot, rep (skp K.pr d (K.pr.lT s)) (K.pr.lN s).toNat (K.pr.lS s) = tot := ⟨_, rfl⟩
  have e0 : skp K.pr (d + 1) 15 s = endby K.pr.leS tot := by rw [← htot]; simp [skp, isSc, hz]
  rw [e0]
  have HT := hdd htot
  clear htot e0
  have hd1 : (deep - 1).toNat = d := by omega
  have HD := hdd hd1
  have HRM := hdd hroom
  clear hroom
  have HDD := hdd hdq
  have HZ := hdd hz
  clear hd1 hdq hz
  obtain ⟨hLbm, hLbn, hLbc⟩ := K.mLb
  obtain ⟨hLem, hLen, hLec⟩ := K.mLe
  go_enter Tryz.func167, Tryz.ntmps167
  go_wp2_with fail
  refine (K.readListBegin h).mono ?_
  rintro e w1 ⟨t, n, ev, rfl, hp1, hv1⟩
  have hev : ev = .nilIface := by have := hp1.err; rw [HZ.out] at this; exact this.isNil
  subst hev
  obtain ⟨ht, hn⟩ := hv1 HZ.out
  have hnb : n ≤ 2147483647 := by rw [hn]; exact K.ok.lb s
  have HTT := hdd ht
  have HN := hdd hn
  clear hv1 ht hn
  go_wp2_with fail
  go_loopg [215] n.toNat (fun k v wr => Rp.RepRel K w (skp K.pr d (K.pr.lT s)) n tot k v wr)
  case atStart => exact ⟨0, _, rfl, by omega, by rw [Int.sub_zero], hp1.inv HZ.out, hp1.keep, by rw [HN.out]; exact HT.out, by have a1 := K.ok.l s HZ.out; have a2 := K.ok.dl s HZ.out; have a3 : _ + _ < _ := HRM.out; show _ + _ < _; omega⟩
  case round =>
   obtain ⟨i, s1, rfl, hi0, hk, hi1, hk1, hr, hrm⟩ := hrel
   have HRM1 := hdd hrm
   clear hrm
   by_cases hin : i < n
   ·cases gk with
    | zero => omega
    | succ k =>
    have HK := hdd hk
    have HR := hdd hr
    clear hr hk
    go_wp2_with fail
    refine (ih (deep - 1) t _ wr HD.out (by omega) (by omega) hi1 HRM1.out).mono ?_
    rintro e w3 ⟨ev, rfl, hp3⟩
    rw [HTT.out] at hp3
    by_cases hz3 : (skp K.pr d (K.pr.lT s) s1).1 = 0
    ·have hev : ev = .nilIface := by have := hp3.err; rw [hz3] at this; exact this.isNil
     subst hev
     have HZ3 := hdd hz3
     clear hz3
     go_wp2_with fail
     go_roundg k
     case measure => exact Nat.lt_succ_self _
     case rel =>
      refine ⟨i + 1, _, rfl, by omega, by have := HK.out; omega, hp3.inv HZ3.out, hk1.then hp3.keep, ?_, ?_⟩
      ·rw [← HR.out, rep_ok HZ3.out]
      ·have a1 := skp_len K.ok d _ _ HZ3.out
       have a2 := skp_dep K.ok d _ _ HZ3.out
       have a3 : _ + _ < _ := HRM1.out
       show _ + _ < _
       omega
    ·obtain ⟨tt, x, rfl⟩ := hp3.err.held hz3
     have HZ3 := hdd hz3
     clear hz3
     go_wp2_with fail
     go_ret
     have e2 : tot = skp K.pr d (K.pr.lT s) s1 := by
      rw [← HR.out, rep_bad HZ3.out]
     have e1 : endby K.pr.leS tot = skp K.pr d (K.pr.lT s) s1 := by rw [e2]; exact endby_bad HZ3.out
     rw [e1]
     exact ⟨_, rfl, Rp.Post.onto hk1 hp3⟩
   ·have hk0 : gk = 0 := by omega
    subst hk0
    have HR := hdd hr
    clear hr hk
    go_wp2_with fail
    refine (K.readListEnd hi1).mono ?_
    rintro e w4 ⟨rfl, hp4⟩
    go_wp2_with fail
    go_ret
    exact ⟨_, rfl, .tot (by rw [← HR.out]; rfl) (Rp.Post.onto hk1 hp4)⟩
 ·have e0 : skp K.pr (d + 1) 15 s = (K.pr.lK s, K.pr.lS s) := by simp [skp, isSc, hz]
  rw [e0]
  have HZ := hdd hz
  clear hz e0
  obtain ⟨hLbm, hLbn, hLbc⟩ := K.mLb
  obtain ⟨hLem, hLen, hLec⟩ := K.mLe
  go_enter Tryz.func167, Tryz.ntmps167
  go_wp2_with fail
  refine (K.readListBegin h).mono ?_
  rintro e w1 ⟨t, n, ev, rfl, hp1, hv1⟩
  obtain ⟨tt, x, rfl⟩ := hp1.err.held HZ.out
  clear hv1
  go_wp2_with fail
  go_ret
  exact ⟨_, rfl, hp1⟩
set_option maxRecDepth 100000 in
theorem Rp.skip_set {St : Type} (K : Rp.Ctx St) (d : Nat) (ih : Rp.Skips K d) (deep : Int) (s : St) (w : World) (hdq : deep.toNat = d + 1) (hd : 0 < deep) (hhi : deep ≤ 9223372036854775807) (h : K.Inv s w) (hroom : K.pr.Room s) :
  Calls Tryz.prog 167 #[ctxV, .iface K.T (.pointer (some ⟨K.P, 0, none⟩)), .int .u8 14, .int .i64 deep] w fun e w' => ∃ ev, e = .returned ev ∧ Rp.Post K w w' (skp K.pr (d + 1) 14 s).1 ev (skp K.pr (d + 1) 14 s).2 := by
 by_cases hz : K.pr.lK s = 0
 ·obtain ⟨tot, htot⟩ : ∃ tot, rep (skp K.pr d (K.pr.lT s)) (K.pr.lN s).toNat (K.pr.lS s) = tot := ⟨_, rfl⟩
  have e0 : skp K.pr (d + 1) 14 s = endby K.pr.leS tot := by rw [← htot]; simp [skp, isSc, hz]
  rw [e0]
  have HT := hdd htot
  clear htot e0
  have hd1 : (deep - 1).toNat = d := by omega
  have HD := hdd hd1
  have HRM := hdd hroom
  clear hroom
  have HDD := hdd hdq
  have HZ := hdd hz
  clear hd1 hdq hz
  obtain ⟨hTbm, hTbn, hTbc⟩ := K.mTb
  obtain ⟨hTem, hTen, hTec⟩ := K.mTe
  go_enter Tryz.func167, Tryz.ntmps167
  go_wp2_with fail
  refine (K.readSetBegin h).mono ?_
  rintro e w1 ⟨t, n, ev, rfl, hp1, hv1⟩
  have hev : ev = .nilIface := by have := hp1.err; rw [HZ.out] at this; exact this.isNil
  subst hev
  obtain ⟨ht, hn⟩ := hv1 HZ.out
  have hnb : n ≤ 2147483647 := by rw [hn]; exact K.ok.lb s
  have HTT := hdd ht
  have HN := hdd hn
  clear hv1 ht hn
  go_wp2_with fail
  go_loopg [187] n.toNat (fun k v wr => Rp.RepRel K w (skp K.pr d (K.pr.lT s)) n tot k v wr)
  case atStart => exact ⟨0, _, rfl, by omega, by rw [Int.sub_zero], hp1.inv HZ.out, hp1.keep, by rw [HN.out]; exact HT.out, by have a1 := K.ok.l s HZ.out; have a2 := K.ok.dl s HZ.out; have a3 : _ + _ < _ := HRM.out; show _ + _ < _; omega⟩
  case round =>
   obtain ⟨i, s1, rfl, hi0, hk, hi1, hk1, hr, hrm⟩ := hrel
   have HRM1 := hdd hrm
   clear hrm
   by_cases hin : i < n
   ·cases gk with
    | zero => omega
    | succ k =>
    have HK := hdd hk
    have HR := hdd hr
    clear hr hk
    go_wp2_with fail
    refine (ih (deep - 1) t _ wr HD.out (by omega) (by omega) hi1 HRM1.out).mono ?_
    rintro e w3 ⟨ev, rfl, hp3⟩
    rw [HTT.out] at hp3
    by_cases hz3 : (skp K.pr d (K.pr.lT s) s1).1 = 0
    ·have hev : ev = .nilIface := by have := hp3.err; rw [hz3] at this; exact this.isNil
     subst hev
     have HZ3 := hdd hz3
     clear hz3
     go_wp2_with fail
     go_roundg k
     case measure => exact Nat.lt_succ_self _
     case rel =>
      refine ⟨i + 1, _, rfl, by omega, by have := HK.out; omega, hp3.inv HZ3.out, hk1.then hp3.keep, ?_, ?_⟩
      ·rw [← HR.out, rep_ok HZ3.out]
      ·have a1 := skp_len K.ok d _ _ HZ3.out
       have a2 := skp_dep K.ok d _ _ HZ3.out
       have a3 : _ + _ < _ := HRM1.out
       show _ + _ < _
       omega
    ·obtain ⟨tt, x, rfl⟩ := hp3.err.held hz3
     have HZ3 := hdd hz3
     clear hz3
     go_wp2_with fail
     go_ret
     have e2 : tot = skp K.pr d (K.pr.lT s) s1 := by
      rw [← HR.out, rep_bad HZ3.out]
     have e1 : endby K.pr.leS tot = skp K.pr d (K.pr.lT s) s1 := by rw [e2]; exact endby_bad HZ3.out
     rw [e1]
     exact ⟨_, rfl, Rp.Post.onto hk1 hp3⟩
   ·have hk0 : gk = 0 := by omega
    subst hk0
    have HR := hdd hr
    clear hr hk
    go_wp2_with fail
    refine (K.readSetEnd hi1).mono ?_
    rintro e w4 ⟨rfl, hp4⟩
    go_wp2_with fail
    go_ret
    exact ⟨_, rfl, .tot (by rw [← HR.out]; rfl) (Rp.Post.onto hk1 hp4)⟩
 ·have e0 : skp K.pr (d + 1) 14 s = (K.pr.lK s, K.pr.lS s) := by simp [skp, isSc, hz]
  rw [e0]
  have HZ := hdd hz
  clear hz e0
  obtain ⟨hTbm, hTbn, hTbc⟩ := K.mTb
  obtain ⟨hTem, hTen, hTec⟩ := K.mTe
  go_enter Tryz.func167, Tryz.ntmps167
  go_wp2_with fail
  refine (K.readSetBegin h).mono ?_
  rintro e w1 ⟨t, n, ev, rfl, hp1, hv1⟩
  obtain ⟨tt, x, rfl⟩ := hp1.err.held HZ.out
  clear hv1
  go_wp2_with fail
  go_ret
  exact ⟨_, rfl, hp1⟩
set_option maxRecDepth 100000 in
theorem Rp.skip_map {St : Type} (K : Rp.Ctx St) (d : Nat) (ih : Rp.Skips K d) (deep : Int) (s : St) (w : World) (hdq : deep.toNat = d + 1) (hd : 0 < deep) (hhi : deep ≤ 9223372036854775807) (h : K.Inv s w) (hroom : K.pr.Room s) :
  Calls Tryz.prog 167 #[ctxV, .iface K.T (.pointer (some ⟨K.P, 0, none⟩)), .int .u8 13, .int .i64 deep] w fun e w' => ∃ ev, e = .returned ev ∧ Rp.Post K w w' (skp K.pr (d + 1) 13 s).1 ev (skp K.pr (d + 1) 13 s).2 := by
 by_cases hz : K.pr.mK s = 0
 ·obtain ⟨tot, htot⟩ : ∃ tot, rep (twice (skp K.pr d (K.pr.mKT s)) (skp K.pr d (K.pr.mT s))) (K.pr.mN s).toNat (K.pr.mS s) = tot := ⟨_, rfl⟩
  have e0 : skp K.pr (d + 1) 13 s = endby K.pr.meS tot := by rw [← htot]; simp [skp, isSc, hz]
  rw [e0]
  have HT := hdd htot
  clear htot e0
  have hd1 : (deep - 1).toNat = d := by omega
  have HD := hdd hd1
  have HRM := hdd hroom
  clear hroom
  have HDD := hdd hdq
  have HZ := hdd hz
  clear hd1 hdq hz
  obtain ⟨hMbm, hMbn, hMbc⟩ := K.mMb
  obtain ⟨hMem, hMen, hMec⟩ := K.mMe
  go_enter Tryz.func167, Tryz.ntmps167
  go_wp2_with fail
  refine (K.readMapBegin h).mono ?_
  rintro e w1 ⟨kt, t, n, ev, rfl, hp1, hv1⟩
  have hev : ev = .nilIface := by have := hp1.err; rw [HZ.out] at this; exact this.isNil
  subst hev
  obtain ⟨hkt, ht, hn⟩ := hv1 HZ.out
  have hnb : n ≤ 2147483647 := by rw [hn]; exact K.ok.mb s
  have HKT := hdd hkt
  have HTT := hdd ht
  have HN := hdd hn
  clear hv1 ht hn hkt
  go_wp2_with fail
  go_loopg [150] n.toNat (fun k v wr => Rp.RepRel K w (twice (skp K.pr d (K.pr.mKT s)) (skp K.pr d (K.pr.mT s))) n tot k v wr)
  case atStart => exact ⟨0, _, rfl, by omega, by rw [Int.sub_zero], hp1.inv HZ.out, hp1.keep, by rw [HN.out]; exact HT.out, by have a1 := K.ok.m s HZ.out; have a2 := K.ok.dm s HZ.out; have a3 : _ + _ < _ := HRM.out; show _ + _ < _; omega⟩
  case round =>
   obtain ⟨i, s1, rfl, hi0, hk, hi1, hk1, hr, hrm⟩ := hrel
   have HRM1 := hdd hrm
   clear hrm
   by_cases hin : i < n
   ·cases gk with
    | zero => omega
    | succ k =>
    have HK := hdd hk
    have HR := hdd hr
    clear hr hk
    go_wp2_with fail
    refine (ih (deep - 1) kt _ wr HD.out (by omega) (by omega) hi1 HRM1.out).mono ?_
    rintro e w3 ⟨ev, rfl, hp3⟩
    rw [HKT.out] at hp3
    by_cases hz3 : (skp K.pr d (K.pr.mKT s) s1).1 = 0
    ·have hev : ev = .nilIface := by have := hp3.err; rw [hz3] at this; exact this.isNil
     subst hev
     have HZ3 := hdd hz3
     clear hz3
     go_wp2_with fail
     refine (ih (deep - 1) t _ w3 HD.out (by omega) (by omega) (hp3.inv HZ3.out) (by have a1 := skp_len K.ok d _ _ HZ3.out; have a2 := skp_dep K.ok d _ _ HZ3.out; have a3 : _ + _ < _ := HRM1.out; show _ + _ < _; omega)).mono ?_
     rintro e w4 ⟨ev, rfl, hp4⟩
     rw [HTT.out] at hp4
     by_cases hz4 : (skp K.pr d (K.pr.mT s) (skp K.pr d (K.pr.mKT s) s1).2).1 = 0
     ·have hev : ev = .nilIface := by have := hp4.err; rw [hz4] at this; exact this.isNil
      subst hev
      have HZ4 := hdd hz4
      clear hz4
      go_wp2_with fail
      go_roundg k
      case measure => exact Nat.lt_succ_self _
      case rel =>
       refine ⟨i + 1, _, rfl, by omega, by have := HK.out; omega, hp4.inv HZ4.out, (hk1.then hp3.keep).then hp4.keep, ?_, ?_⟩
       ·rw [← HR.out, rep_ok (by rw [twice_ok HZ3.out]; exact HZ4.out), twice_ok HZ3.out]
       ·have a1 := skp_len K.ok d _ _ HZ3.out
        have a2 := skp_dep K.ok d _ _ HZ3.out
        have a4 := skp_len K.ok d _ _ HZ4.out
        have a5 := skp_dep K.ok d _ _ HZ4.out
        have a3 : _ + _ < _ := HRM1.out
        show _ + _ < _
        omega
     ·obtain ⟨tt, x, rfl⟩ := hp4.err.held hz4
      have HZ4 := hdd hz4
      clear hz4
      go_wp2_with fail
      go_ret
      have e2 : tot = skp K.pr d (K.pr.mT s) (skp K.pr d (K.pr.mKT s) s1).2 := by
       rw [← HR.out, rep_bad (by rw [twice_ok HZ3.out]; exact HZ4.out), twice_ok HZ3.out]
      have e1 : endby K.pr.meS tot = skp K.pr d (K.pr.mT s) (skp K.pr d (K.pr.mKT s) s1).2 := by rw [e2]; exact endby_bad HZ4.out
      rw [e1]
      exact ⟨_, rfl, Rp.Post.onto (hk1.then hp3.keep) hp4⟩
    ·obtain ⟨tt, x, rfl⟩ := hp3.err.held hz3
     have HZ3 := hdd hz3
     clear hz3
     go_wp2_with fail
     go_ret
     have e2 : tot = skp K.pr d (K.pr.mKT s) s1 := by
      rw [← HR.out, rep_bad (by rw [twice_bad HZ3.out]; exact HZ3.out), twice_bad HZ3.out]
     have e1 : endby K.pr.meS tot = skp K.pr d (K.pr.mKT s) s1 := by rw [e2]; exact endby_bad HZ3.out
     rw [e1]
     exact ⟨_, rfl, Rp.Post.onto hk1 hp3⟩
   ·have hk0 : gk = 0 := by omega
    subst hk0
    have HR := hdd hr
    clear hr hk
    go_wp2_with fail
    refine (K.readMapEnd hi1).mono ?_
    rintro e w4 ⟨rfl, hp4⟩
    go_wp2_with fail
    go_ret
    exact ⟨_, rfl, .tot (by rw [← HR.out]; rfl) (Rp.Post.onto hk1 hp4)⟩
 ·have e0 : skp K.pr (d + 1) 13 s = (K.pr.mK s, K.pr.mS s) := by simp [skp, isSc, hz]
  rw [e0]
  have HZ := hdd hz
  clear hz e0
  obtain ⟨hMbm, hMbn, hMbc⟩ := K.mMb
  obtain ⟨hMem, hMen, hMec⟩ := K.mMe
  go_enter Tryz.func167, Tryz.ntmps167
  go_wp2_with fail
  refine (K.readMapBegin h).mono ?_
  rintro e w1 ⟨kt, t, n, ev, rfl, hp1, hv1⟩
  obtain ⟨tt, x, rfl⟩ := hp1.err.held HZ.out
  clear hv1
  go_wp2_with fail
  go_ret
  exact ⟨_, rfl, hp1⟩
theorem Rp.skips {St : Type} (K : Rp.Ctx St) (d : Nat) : Rp.Skips K d := by
 induction d with
 | zero => exact Rp.skip_zero K
 | succ d ih =>
  intro deep t s w hd hlo hhi h hroom
  have hd0 : 0 < deep := by omega
  by_cases hsc : isSc t = true
  ·have e : skp K.pr (d + 1) t s = (K.pr.scK t s, K.pr.scS t s) := by simp only [skp]; rw [if_pos hsc]
   rw [e]
   exact Rp.skip_scalar K d deep t s w hd0 hhi h hsc
  ·by_cases h12 : t = 12
   ·subst h12
    have e : skp K.pr (d + 1) 12 s = flds K.pr (skp K.pr d) (K.pr.len (K.pr.sbS s) + 1) (K.pr.sbS s) := by simp [skp, isSc]
    rw [e]
    exact Rp.skip_struct K d ih deep s w hd hd0 hhi h hroom
   ·by_cases h13 : t = 13
    ·subst h13; exact Rp.skip_map K d ih deep s w hd hd0 hhi h hroom
    ·by_cases h14 : t = 14
     ·subst h14; exact Rp.skip_set K d ih deep s w hd hd0 hhi h hroom
     ·by_cases h15 : t = 15
      ·subst h15; exact Rp.skip_list K d ih deep s w hd hd0 hhi h hroom
      ·have e : skp K.pr (d + 1) t s = (11, s) := by
        simp only [skp]; rw [if_neg hsc, if_neg h12, if_neg h13, if_neg (by omega)]
       rw [e]
       exact Rp.skip_other K deep t s w hd0 hhi h (by simpa using hsc) h12 h13 h14 h15
end Go.Proofs.YtjekbomlpcdojaaGreatDoor
