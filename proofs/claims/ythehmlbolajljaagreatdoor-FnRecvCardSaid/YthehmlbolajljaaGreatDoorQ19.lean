/- Part 19 of the proof: Skip3R, BinMg, Cmp0, Zig. -/
import Derived.Test.YthehmlbolajljaaGreatDoorQ10
set_option linter.unusedVariables false
set_option linter.unusedSimpArgs false
set_option linter.unusedSectionVars false
set_option maxHeartbeats 16000000
namespace Go.Proofs.YthehmlbolajljaaGreatDoor
open Go Go.RowKit
def Rp.RepRel {St : Type} (K : Rp.Ctx St) (w : World) (f : St → Int × St) (n : Int) (tot : Int × St) (k : Nat) (v : Value) (wr : World) : Prop :=
 ∃ i s, v = .int .i64 i ∧ 0 ≤ i ∧ k = (n - i).toNat ∧ K.Inv s wr ∧ Kpt (K.M) w wr ∧ rep f k s = tot ∧ K.pr.Room s
set_option maxRecDepth 100000 in
theorem Rp.skip_list {St : Type} (K : Rp.Ctx St) (d : Nat) (ih : Rp.Skips K d) (deep : Int) (s : St) (w : World) (hdq : deep.toNat = d + 1) (hd : 0 < deep) (hhi : deep ≤ 9223372036854775807) (h : K.Inv s w) (hroom : K.pr.Room s) :
  Calls Tryz.prog 116 #[ctxV, .iface K.T (.pointer (some ⟨K.P, 0, none⟩)), .int .u8 15, .int .i64 deep] w fun e w' => ∃ ev, e = .returned ev ∧ Rp.Post K w w' (skp K.pr (d + 1) 15 s).1 ev (skp K.pr (d + 1) 15 s).2 := by
 by_cases hz : K.pr.lK s = 0
 ·obtain ⟨tot, htot⟩ : ∃ tot, rep (skp K.pr d (K.pr.lT s)) (K.pr.lN s).toNat (K.pr.lS s) = tot := ⟨_, rfl⟩
  have e0 : skp K.pr (d + 1) 15 s = endby K.pr.leS tot := by rw [← htot]; simp [skp, isSc, hz]
  rw [e0]
  have HT := hdd htot
  clear htot e0
  have hd1 : (deep - 1).toNat = d := by omega
  have HD := hdd hd1
  have HRM := hdd hroom
  clear hroom
  have HDD := hdd hdq
  have HZ := hdd hz
  clear hd1 hdq hz
  obtain ⟨hLbm, hLbn, hLbc⟩ := K.mLb
  obtain ⟨hLem, hLen, hLec⟩ := K.mLe
  go_enter Tryz.func116, Tryz.ntmps116
  go_wp2_with fail
  refine (K.readListBegin h).mono ?_
  rintro e w1 ⟨t, n, ev, rfl, hp1, hv1⟩
  have hev : ev = .nilIface := by have := hp1.err; rw [HZ.out] at this; exact this.isNil
  subst hev
  obtain ⟨ht, hn⟩ := hv1 HZ.out
  have hnb : n ≤ 2147483647 := by rw [hn]; exact K.ok.lb s
  have HTT := hdd ht
  have HN := hdd hn
  clear hv1 ht hn
  go_wp2_with fail
  go_loopg [215] n.toNat (fun k v wr => Rp.RepRel K w (skp K.pr d (K.pr.lT s)) n tot k v wr)
  case atStart => exact ⟨0, _, rfl, by omega, by rw [Int.sub_zero], hp1.inv HZ.out, hp1.keep, by rw [HN.out]; exact HT.out, by have a1 := K.ok.l s HZ.out; have a2 := K.ok.dl s HZ.out; have a3 : _ + _ < _ := HRM.out; show _ + _ < _; omega⟩
  case round =>
   obtain ⟨i, s1, rfl, hi0, hk, hi1, hk1, hr, hrm⟩ := hrel
   have HRM1 := hdd hrm
   clear hrm
   by_cases hin : i < n
   ·cases gk with
    | zero => omega
    | succ k =>
    have HK := hdd hk
    have HR := hdd hr
    clear hr hk
    go_wp2_with fail
    refine (ih (deep - 1) t _ wr HD.out (by omega) (by omega) hi1 HRM1.out).mono ?_
    rintro e w3 ⟨ev, rfl, hp3⟩
    rw [HTT.out] at hp3
    by_cases hz3 : (skp K.pr d (K.pr.lT s) s1).1 = 0
    ·have hev : ev = .nilIface := by have := hp3.err; rw [hz3] at this; exact this.isNil
     subst hev
     have HZ3 := hdd hz3
     clear hz3
     go_wp2_with fail
     go_roundg k
     case measure => exact Nat.lt_succ_self _
     case rel =>
      refine ⟨i + 1, _, rfl, by omega, by have := HK.out; omega, hp3.inv HZ3.out, hk1.then hp3.keep, ?_, ?_⟩
      ·rw [← HR.out, rep_ok HZ3.out]
      ·have a1 := skp_len K.ok d _ _ HZ3.out
       have a2 := skp_dep K.ok d _ _ HZ3.out
       have a3 : _ + _ < _ := HRM1.out
       show _ + _ < _
       omega
    ·obtain ⟨tt, x, rfl⟩ := hp3.err.held hz3
     have HZ3 := hdd hz3
     clear hz3
     go_wp2_with fail
     go_ret
     have e2 : tot = skp K.pr d (K.pr.lT s) s1 := by
      rw [← HR.out, rep_bad HZ3.out]
     have e1 : endby K.pr.leS tot = skp K.pr d (K.pr.lT s) s1 := by rw [e2]; exact endby_bad HZ3.out
     rw [e1]
     exact ⟨_, rfl, Rp.Post.onto hk1 hp3⟩
   ·have hk0 : gk = 0 := by omega
    subst hk0
    have HR := hdd hr
    clear hr hk
    go_wp2_with fail
    refine (K.readListEnd hi1).mono ?_
    rintro e w4 ⟨rfl, hp4⟩
    go_wp2_with fail
    go_ret
    exact ⟨_, rfl, .tot (by rw [← HR.out]; rfl) (Rp.Post.onto hk1 hp4)⟩
 ·have e0 : skp K.pr (d + 1) 15 s = (K.pr.lK s, K.pr.lS s) := by simp [skp, isSc, hz]
  rw [e0]
  have HZ := hdd hz
  clear hz e0
  obtain ⟨hLbm, hLbn, hLbc⟩ := K.mLb
  obtain ⟨hLem, hLen, hLec⟩ := K.mLe
  go_enter Tryz.func116, Tryz.ntmps116
  go_wp2_with fail
  refine (K.readListBegin h).mono ?_
  rintro e w1 ⟨t, n, ev, rfl, hp1, hv1⟩
  obtain ⟨tt, x, rfl⟩ := hp1.err.held HZ.out
  clear hv1
  go_wp2_with fail
  go_ret
  exact ⟨_, rfl, hp1⟩
set_option maxRecDepth 100000 in
theorem Rp.skip_set {St : Type} (K : Rp.Ctx St) (d : Nat) (ih : Rp.Skips K d) (deep : Int) (s : St) (w : World) (hdq : deep.toNat = d + 1) (hd : 0 < deep) (hhi : deep ≤ 9223372036854775807) (h : K.Inv s w) (hroom : K.pr.Room s) :
  Calls Tryz.prog 116 #[ctxV, .iface K.T (.pointer (some ⟨K.P, 0, none⟩)), .int .u8 14, .int .i64 deep] w fun e w' => ∃ ev, e = .returned ev ∧ Rp.Post K w w' (skp K.pr (d + 1) 14 s).1 ev (skp K.pr (d + 1) 14 s).2 := by
 by_cases hz : K.pr.lK s = 0
 ·obtain ⟨tot, htot⟩ : ∃ tot, rep (skp K.pr d (K.pr.lT s)) (K.pr.lN s).toNat (K.pr.lS s) = tot := ⟨_, rfl⟩
  have e0 : skp K.pr (d + 1) 14 s = endby K.pr.leS tot := by rw [← htot]; simp [skp, isSc, hz]
  rw [e0]
  have HT := hdd htot
  clear htot e0
  have hd1 : (deep - 1).toNat = d := by omega
  have HD := hdd hd1
  have HRM := hdd hroom
  clear hroom
  have HDD := hdd hdq
  have HZ := hdd hz
  clear hd1 hdq hz
  obtain ⟨hTbm, hTbn, hTbc⟩ := K.mTb
  obtain ⟨hTem, hTen, hTec⟩ := K.mTe
  go_enter Tryz.func116, Tryz.ntmps116
  go_wp2_with fail
  refine (K.readSetBegin h).mono ?_
  rintro e w1 ⟨t, n, ev, rfl, hp1, hv1⟩
  have hev : ev = .nilIface := by have := hp1.err; rw [HZ.out] at this; exact this.isNil
  subst hev
  obtain ⟨ht, hn⟩ := hv1 HZ.out
  have hnb : n ≤ 2147483647 := by rw [hn]; exact K.ok.lb s
  have HTT := hdd ht
  have HN := hdd hn
  clear hv1 ht hn
  go_wp2_with fail
  go_loopg [187] n.toNat (fun k v wr => Rp.RepRel K w (skp K.pr d (K.pr.lT s)) n tot k v wr)
  case atStart => exact ⟨0, _, rfl, by omega, by rw [Int.sub_zero], hp1.inv HZ.out, hp1.keep, by rw [HN.out]; exact HT.out, by have a1 := K.ok.l s HZ.out; have a2 := K.ok.dl s HZ.out; have a3 : _ + _ < _ := HRM.out; show _ + _ < _; omega⟩
  case round =>
   obtain ⟨i, s1, rfl, hi0, hk, hi1, hk1, hr, hrm⟩ := hrel
   have HRM1 := hdd hrm
   clear hrm
   by_cases hin : i < n
   ·cases gk with
    | zero => omega
    | succ k =>
    have HK := hdd hk
    have HR := hdd hr
    clear hr hk
    go_wp2_with fail
    refine (ih (deep - 1) t _ wr HD.out (by omega) (by omega) hi1 HRM1.out).mono ?_
    rintro e w3 ⟨ev, rfl, hp3⟩
    rw [HTT.out] at hp3
    by_cases hz3 : (skp K.pr d (K.pr.lT s) s1).1 = 0
    ·have hev : ev = .nilIface := by have := hp3.err; rw [hz3] at this; exact this.isNil
     subst hev
     have HZ3 := hdd hz3
     clear hz3
     go_wp2_with fail
     go_roundg k
     case measure => exact Nat.lt_succ_self _
     case rel =>
      refine ⟨i + 1, _, rfl, by omega, by have := HK.out; omega, hp3.inv HZ3.out, hk1.then hp3.keep, ?_, ?_⟩
      ·rw [← HR.out, rep_ok HZ3.out]
      ·have a1 := skp_len K.ok d _ _ HZ3.out
       have a2 := skp_dep K.ok d _ _ HZ3.out
       have a3 : _ + _ < _ := HRM1.out
       show _ + _ < _
       omega
    ·obtain ⟨tt, x, rfl⟩ := hp3.err.held hz3
     have HZ3 := hdd hz3
     clear hz3
     go_wp2_with fail
     go_ret
     have e2 : tot = skp K.pr d (K.pr.lT s) s1 := by
      rw [← HR.out, rep_bad HZ3.out]
     have e1 : endby K.pr.leS tot = skp K.pr d (K.pr.lT s) s1 := by rw [e2]; exact endby_bad HZ3.out
     rw [e1]
     exact ⟨_, rfl, Rp.Post.onto hk1 hp3⟩
   ·have hk0 : gk = 0 := by omega
    subst hk0
    have HR := hdd hr
    clear hr hk
    go_wp2_with fail
    refine (K.readSetEnd hi1).mono ?_
    rintro e w4 ⟨rfl, hp4⟩
    go_wp2_with fail
    go_ret
    exact ⟨_, rfl, .tot (by rw [← HR.out]; rfl) (Rp.Post.onto hk1 hp4)⟩
 ·have e0 : skp K.pr (d + 1) 14 s = (K.pr.lK s, K.pr.lS s) := by simp [skp, isSc, hz]
  rw [e0]
  have HZ := hdd hz
  clear hz e0
  obtain ⟨hTbm, hTbn, hTbc⟩ := K.mTb
  obtain ⟨hTem, hTen, hTec⟩ := K.mTe
  go_enter Tryz.func116, Tryz.ntmps116
  go_wp2_with fail
  refine (K.readSetBegin h).mono ?_
  rintro e w1 ⟨t, n, ev, rfl, hp1, hv1⟩
  obtain ⟨tt, x, rfl⟩ := hp1.err.held HZ.out
  clear hv1
  go_wp2_with fail
  go_ret
  exact ⟨_, rfl, hp1⟩
set_option maxRecDepth 100000 in
theorem Rp.skip_map {St : Type} (K : Rp.Ctx St) (d : Nat) (ih : Rp.Skips K d) (deep : Int) (s : St) (w : World) (hdq : deep.toNat = d + 1) (hd : 0 < deep) (hhi : deep ≤ 9223372036854775807) (h : K.Inv s w) (hroom : K.pr.Room s) :
  Calls Tryz.prog 116 #[ctxV, .iface K.T (.pointer (some ⟨K.P, 0, none⟩)), .int .u8 13, .int .i64 deep] w fun e w' => ∃ ev, e = .returned ev ∧ Rp.Post K w w' (skp K.pr (d + 1) 13 s).1 ev (skp K.pr (d + 1) 13 s).2 := by
 by_cases hz : K.pr.mK s = 0
 ·obtain ⟨tot, htot⟩ : ∃ tot, rep (twice (skp K.pr d (K.pr.mKT s)) (skp K.pr d (K.pr.mT s))) (K.pr.mN s).toNat (K.pr.mS s) = tot := ⟨_, rfl⟩
  have e0 : skp K.pr (d + 1) 13 s = endby K.pr.meS tot := by rw [← htot]; simp [skp, isSc, hz]
  rw [e0]
  have HT := hdd htot
  clear htot e0
  have hd1 : (deep - 1).toNat = d := by omega
  have HD := hdd hd1
  have HRM := hdd hroom
  clear hroom
  have HDD := hdd hdq
  have HZ := hdd hz
  clear hd1 hdq hz
  obtain ⟨hMbm, hMbn, hMbc⟩ := K.mMb
  obtain ⟨hMem, hMen, hMec⟩ := K.mMe
  go_enter Tryz.func116, Tryz.ntmps116
  go_wp2_with fail
  refine (K.readMapBegin h).mono ?_
  rintro e w1 ⟨kt, t, n, ev, rfl, hp1, hv1⟩
  have hev : ev = .nilIface := by have := hp1.err; rw [HZ.out] at this; exact this.isNil
  subst hev
  obtain ⟨hkt, ht, hn⟩ := hv1 HZ.out
  have hnb : n ≤ 2147483647 := by rw [hn]; exact K.ok.mb s
  have HKT := hdd hkt
  have HTT := hdd ht
  have HN := hdd hn
  clear hv1 ht hn hkt
  go_wp2_with fail
  go_loopg [150] n.toNat (fun k v wr => Rp.RepRel K w (twice (skp K.pr d (K.pr.mKT s)) (skp K.pr d (K.pr.mT s))) n tot k v wr)
  case atStart => exact ⟨0, _, rfl, by omega, by rw [Int.sub_zero], hp1.inv HZ.out, hp1.keep, by rw [HN.out]; exact HT.out, by have a1 := K.ok.m s HZ.out; have a2 := K.ok.dm s HZ.out; have a3 : _ + _ < _ := HRM.out; show _ + _ < _; omega⟩
  case round =>
   obtain ⟨i, s1, rfl, hi0, hk, hi1, hk1, hr, hrm⟩ := hrel
   have HRM1 := hdd hrm
   clear hrm
   by_cases hin : i < n
   ·cases gk with
    | zero => omega
    | succ k =>
    have HK := hdd hk
    have HR := hdd hr
    clear hr hk
    go_wp2_with fail
    refine (ih (deep - 1) kt _ wr HD.out (by omega) (by omega) hi1 HRM1.out).mono ?_
    rintro e w3 ⟨ev, rfl, hp3⟩
    rw [HKT.out] at hp3
    by_cases hz3 : (skp K.pr d (K.pr.mKT s) s1).1 = 0
    ·have hev : ev = .nilIface := by have := hp3.err; rw [hz3] at this; exact this.isNil
     subst hev
     have HZ3 := hdd hz3
     clear hz3
     go_wp2_with fail
     refine (ih (deep - 1) t _ w3 HD.out (by omega) (by omega) (hp3.inv HZ3.out) (by have a1 := skp_len K.ok d _ _ HZ3.out; have a2 := skp_dep K.ok d _ _ HZ3.out; have a3 : _ + _ < _ := HRM1.out; show _ + _ < _; omega)).mono ?_
     rintro e w4 ⟨ev, rfl, hp4⟩
     rw [HTT.out] at hp4
     by_cases hz4 : (skp K.pr d (K.pr.mT s) (skp K.pr d (K.pr.mKT s) s1).2).1 = 0
     ·have hev : ev = .nilIface := by have := hp4.err; rw [hz4] at this; exact this.isNil
      subst hev
      have HZ4 := hdd hz4
      clear hz4
      go_wp2_with fail
      go_roundg k
      case measure => exact Nat.lt_succ_self _
      case rel =>
       refine ⟨i + 1, _, rfl, by omega, by have := HK.out; omega, hp4.inv HZ4.out, (hk1.then hp3.keep).then hp4.keep, ?_, ?_⟩
       ·rw [← HR.out, rep_ok (by rw [twice_ok HZ3.out]; exact HZ4.out), twice_ok HZ3.out]
       ·have a1 := skp_len K.ok d _ _ HZ3.out
        have a2 := skp_dep K.ok d _ _ HZ3.out
        have a4 := skp_len K.ok d _ _ HZ4.out
        have a5 := skp_dep K.ok d _ _ HZ4.out
        have a3 : _ + _ < _ := HRM1.out
        show _ + _ < _
        omega
     ·obtain ⟨tt, x, rfl⟩ := hp4.err.held hz4
      have HZ4 := hdd hz4
      clear hz4
      go_wp2_with fail
      go_ret
      have e2 : tot = skp K.pr d (K.pr.mT s) (skp K.pr d (K.pr.mKT s) s1).2 := by
       rw [← HR.out, rep_bad (by rw [twice_ok HZ3.out]; exact HZ4.out), twice_ok HZ3.out]
      have e1 : endby K.pr.meS tot = skp K.pr d (K.pr.mT s) (skp K.pr d (K.pr.mKT s) s1).2 := by rw [e2]; exact endby_bad HZ4.out
      rw [e1]
      exact ⟨_, rfl, Rp.Post.onto (hk1.then hp3.keep) hp4⟩
    ·obtain ⟨tt, x, rfl⟩ := hp3.err.held hz3
     have HZ3 := hdd hz3
     clear hz3
     go_wp2_with fail
     go_ret
     have e2 : tot = skp K.pr d (K.pr.mKT s) s1 := by
      rw [← HR.out, rep_bad (by rw [twice_bad HZ3.out]; exact HZ3.out), twice_bad HZ3.out]
     have e1 : endby K.pr.meS tot = skp K.pr d (K.pr.mKT s) s1 := by rw [e2]; exact endby_bad HZ3.out
     rw [e1]
     exact ⟨_, rfl, Rp.Post.onto hk1 hp3⟩
   ·have hk0 : gk = 0 := by omega
    subst hk0
    have HR := hdd hr
    clear hr hk
    go_wp2_with fail
    refine (K.readMapEnd hi1).mono ?_
    rintro e w4 ⟨rfl, hp4⟩
    go_wp2_with fail
    go_ret
    exact ⟨_, rfl, .tot (by rw [← HR.out]; rfl) (Rp.Post.onto hk1 hp4)⟩
 ·have e0 : skp K.pr (d + 1) 13 s = (K.pr.mK s, K.pr.mS s) := by simp [skp, isSc, hz]
  rw [e0]
  have HZ := hdd hz
  clear hz e0
  obtain ⟨hMbm, hMbn, hMbc⟩ := K.mMb
  obtain ⟨hMem, hMen, hMec⟩ := K.mMe
  go_enter Tryz.func116, Tryz.ntmps116
  go_wp2_with fail
  refine (K.readMapBegin h).mono ?_
  rintro e w1 ⟨kt, t, n, ev, rfl, hp1, hv1⟩
  obtain ⟨tt, x, rfl⟩ := hp1.err.held HZ.out
  clear hv1
  go_wp2_with fail
  go_ret
  exact ⟨_, rfl, hp1⟩
theorem Rp.skips {St : Type} (K : Rp.Ctx St) (d : Nat) : Rp.Skips K d := by
 induction d with
 | zero => exact Rp.skip_zero K
 | succ d ih =>
  intro deep t s w hd hlo hhi h hroom
  have hd0 : 0 < deep := by omega
  by_cases hsc : isSc t = true
  ·have e : skp K.pr (d + 1) t s = (K.pr.scK t s, K.pr.scS t s) := by simp only [skp]; rw [if_pos hsc]
   rw [e]
   exact Rp.skip_scalar K d deep t s w hd0 hhi h hsc
  ·by_cases h12 : t = 12
   ·subst h12
    have e : skp K.pr (d + 1) 12 s = flds K.pr (skp K.pr d) (K.pr.len (K.pr.sbS s) + 1) (K.pr.sbS s) := by simp [skp, isSc]
    rw [e]
    exact Rp.skip_struct K d ih deep s w hd hd0 hhi h hroom
   ·by_cases h13 : t = 13
    ·subst h13; exact Rp.skip_map K d ih deep s w hd hd0 hhi h hroom
    ·by_cases h14 : t = 14
     ·subst h14; exact Rp.skip_set K d ih deep s w hd hd0 hhi h hroom
     ·by_cases h15 : t = 15
      ·subst h15; exact Rp.skip_list K d ih deep s w hd hd0 hhi h hroom
      ·have e : skp K.pr (d + 1) t s = (11, s) := by
        simp only [skp]; rw [if_neg hsc, if_neg h12, if_neg h13, if_neg (by omega)]
       rw [e]
       exact Rp.skip_other K deep t s w hd0 hhi h (by simpa using hsc) h12 h13 h14 h15
def Cfg.strict (c : Cfg) : Bool := if c.plain = true then false else c.sr
def lo8 (n : Int) : Int := ((n % 256 : Int))
theorem lo8_bd (n : Int) : 0 ≤ lo8 n ∧ lo8 n ≤ 255 := by unfold lo8; omega
theorem and255_i32 (t : Int) : bits BinOp.and IntKind.i32 t 255 = lo8 t := by
 have e1 : BitVec.ofInt 32 t = BitVec.ofNat 32 (t % 4294967296).toNat := by
  apply BitVec.eq_of_toNat_eq
  simp only [BitVec.toNat_ofInt, BitVec.toNat_ofNat]
  omega
 have e2 : BitVec.ofInt 32 255 = BitVec.ofNat 32 255 := by decide
 have h3 : (t % 4294967296).toNat &&& 255 = (t % 4294967296).toNat % 256 := by
  have := Nat.and_two_pow_sub_one_eq_mod (t % 4294967296).toNat 8
  simpa using this
 show IntKind.i32.wrap ((BitVec.ofInt 32 t &&& BitVec.ofInt 32 255).toNat : Int) = _
 rw [e1, e2, ← BitVec.ofNat_and, h3, BitVec.toNat_ofNat]
 simp [lo8, IntKind.wrap, IntKind.bits, IntKind.signed]
 omega
theorem and255_w64 (t : Int) : bits BinOp.and IntKind.i64 t 255 = lo8 t := by
 have e1 : BitVec.ofInt 64 t = BitVec.ofNat 64 (t % 18446744073709551616).toNat := by
  apply BitVec.eq_of_toNat_eq
  simp only [BitVec.toNat_ofInt, BitVec.toNat_ofNat]
  omega
 have e2 : BitVec.ofInt 64 255 = BitVec.ofNat 64 255 := by decide
 have h3 : (t % 18446744073709551616).toNat &&& 255 = (t % 18446744073709551616).toNat % 256 := by
  have := Nat.and_two_pow_sub_one_eq_mod (t % 18446744073709551616).toNat 8
  simpa using this
 show IntKind.i64.wrap ((BitVec.ofInt 64 t &&& BitVec.ofInt 64 255).toNat : Int) = _
 rw [e1, e2, ← BitVec.ofNat_and, h3, BitVec.toNat_ofNat]
 simp [lo8, IntKind.wrap, IntKind.bits, IntKind.signed]
 omega
def verN (n : Int) : Int := bits BinOp.and IntKind.i64 n 4294901760
def bmK (s : List UInt8) (c : Cfg) : Int :=
 if s.length < 4 then 10 else if strN s < 0 then (if verN (strN s) = 2147549184 then (if strK (s.drop 4) c = 0 then fullK 4 (strRem (s.drop 4)) else strK (s.drop 4) c) else 14)
 else if c.strict = true then 14 else if strK s c = 0 then (if endK 1 (strRem s) = 0 then fullK 4 ((strRem s).drop 1) else endK 1 (strRem s)) else strK s c
def bmS (s : List UInt8) : List UInt8 := if strN s < 0 then (strRem (s.drop 4)).drop 4 else ((strRem s).drop 1).drop 4
def bmT (s : List UInt8) : Int := if strN s < 0 then lo8 (strN s) else match strRem s with | b :: _ => IntKind.i8.wrap b.toNat | [] => 0
def bmB (s : List UInt8) : List UInt8 := if strN s < 0 then strS (s.drop 4) else strS s
def bmN (s : List UInt8) : Int := if strN s < 0 then wrap32 (Lib.beNat ((strRem (s.drop 4)).take 4)) else wrap32 (Lib.beNat (((strRem s).drop 1).take 4))
theorem strK_cases (s : List UInt8) (c : Cfg) : strK s c = 0 ∨ strK s c = 10 ∨ strK s c = 12 ∨ strK s c = 13 := by
 unfold strK sizeK fullK; repeat' split
 all_goals omega
theorem pk_strK (s : List UInt8) (c : Cfg) : pk (strK s c) = strK s c := by
 rcases strK_cases s c with h | h | h | h <;> rw [h] <;> decide
theorem fullK_cases (n : Nat) (s : List UInt8) : fullK n s = 0 ∨ fullK n s = 10 := by unfold fullK; split <;> simp
theorem endK1_cases (s : List UInt8) : (endK 1 s = 1 ∧ s = []) ∨ (endK 1 s = 0 ∧ ∃ b r, s = b :: r) := by
 cases s with
 | nil => exact .inl ⟨by decide, rfl⟩
 | cons b r => exact .inr ⟨by simp [endK], b, r, rfl⟩
theorem strict_any {M : Nat → Prop} {w : World} {a : Option Addr} {c : Cfg} (h : CfgAt M w a c) : Calls Tryz.prog 307 #[.pointer a] w fun e w' => e = .returned (.bool c.strict) ∧ Keep (fun _ => False) w w' := by
 rcases h with ⟨hp, rfl⟩ | ⟨hp, b, r, s, rfl, _, _, _, hb, hr, _⟩
 ·have hm : c.strict = false := by simp [Cfg.strict, hp]
  rw [hm]
  go_enter Tryz.func307, Tryz.ntmps307
  go_wp2_with fail
  go_ret
  exact ⟨rfl, Keep.refl _ _⟩
 ·have c3 := cellAt hb 3
  simp at c3
  have hq : c.strict = c.sr := by simp [Cfg.strict, hp]
  rw [hq]
  go_enter Tryz.func307, Tryz.ntmps307
  go_wp2_with fail
  go_ret
  exact ⟨rfl, Keep.refl _ _⟩
def BMsg (E : Env) (P MB B D : Nat) (a : Option Addr) (c : Cfg) (rem : List UInt8) (w : World) (e : Ending) (w' : World) : Prop :=
 ∃ s t sq ev rem', e = .returned (.tuple #[.string s, .int .i32 t, .int .i32 sq, ev]) ∧ ErrAt E w.heap.size w' ev (bmK rem c) ∧ BinP E P MB B D a c rem' w' ∧ Keep (MB2 P B) w w' ∧
  (bmK rem c = 0 → s = ⟨(bmB rem).toArray⟩ ∧ t = bmT rem ∧ sq = bmN rem ∧ rem' = bmS rem)
theorem i8_bd2 (n : Int) : -128 ≤ IntKind.i8.wrap n ∧ IntKind.i8.wrap n ≤ 127 := by simp [IntKind.wrap, IntKind.bits, IntKind.signed]; split <;> omega
set_option maxRecDepth 100000 in
theorem bin_msgBegin {E : Env} {P MB B D : Nat} {a : Option Addr} {c : Cfg} {rem : List UInt8} {w : World} (h : BinP E P MB B D a c rem w) :
  Calls Tryz.prog 269 #[.pointer (some ⟨P, 0, none⟩), ctxV] w (BMsg E P MB B D a c rem w) := by
 go_enter Tryz.func269, Tryz.ntmps269
 go_wp2_with fail
 refine (bin_readI32 h).mono ?_
 rintro e w1 ⟨n, ev, rfl, he1, h1, hk1, ⟨hlo, hhi⟩, hv1⟩
 by_cases hl : rem.length < 4
 ·have hk10 : fullK 4 rem = 10 := by simp [fullK]; omega
  rw [hk10] at he1
  obtain ⟨t, x, rfl⟩ := he1.held (by decide)
  have HK : Hid (bmK rem c = 10) := hdd (by simp only [bmK, if_pos hl])
  have HE := hdd he1
  clear hv1 he1
  go_wp2_with fail
  refine (newPExc h1.glob hk1.size HE.out (by omega)).mono ?_
  rintro e w2 ⟨ev', rfl, he2, hk2⟩
  go_wp2_with fail
  go_returns
  exact ⟨_, _, _, _, _, rfl, by rw [HK.out]; exact he2, h1.fresh hk2, hk1.then (hk2.weak (fun _ _ x => x.elim)), fun hh => by rw [HK.out] at hh; omega⟩
 ·have hk0 : fullK 4 rem = 0 := by simp [fullK]; omega
  rw [hk0] at he1
  have hev := he1.isNil
  subst hev
  have hnn : strN rem = n := (hv1 (by omega)).symm
  have HN := hdd hnn
  have HL := hdd hl
  clear hnn hv1 he1 hk0 hl
  by_cases hn0 : n < 0
  ·have ha := and255_i32 n
   obtain ⟨q, hq⟩ : ∃ q, lo8 n = q := ⟨_, rfl⟩
   have hqb := lo8_bd n
   rw [hq] at ha hqb
   obtain ⟨hq0, hq1⟩ := hqb
   have HQ := hdd hq
   clear hq
   have HN0 := hdd hn0
   have HBB : Hid (bmB rem = strS (rem.drop 4)) := hdd (by simp only [bmB, HN.out, if_pos hn0])
   have HTT : Hid (bmT rem = q) := hdd (by simp only [bmT, HN.out, if_pos hn0, HQ.out])
   have HNN : Hid (bmN rem = wrap32 (Lib.beNat ((strRem (rem.drop 4)).take 4))) := hdd (by simp only [bmN, HN.out, if_pos hn0])
   have HSS : Hid (bmS rem = (strRem (rem.drop 4)).drop 4) := hdd (by simp only [bmS, HN.out, if_pos hn0])
   by_cases hver : bits BinOp.and IntKind.i64 n 4294901760 = 2147549184
   ·have HK1 : Hid (bmK rem c = if strK (rem.drop 4) c = 0 then fullK 4 (strRem (rem.drop 4)) else strK (rem.drop 4) c) := hdd (by simp only [bmK, if_neg HL.out, HN.out, if_pos hn0, verN, if_pos hver])
    go_wp2_with fail
    refine (bin_readString h1).mono ?_
    rintro e w2 ⟨s, ev, rem', rfl, he2, h2, hk2, hv2⟩
    have HKW := hdd (hk1.then hk2)
    by_cases hs : strK (rem.drop 4) c = 0
    ·obtain ⟨rfl, rfl⟩ := hv2 hs
     have HK2 : Hid (bmK rem c = fullK 4 (strRem (rem.drop 4))) := hdd (HK1.out.trans (if_pos hs))
     rw [hs] at he2
     have hev := he2.isNil
     subst hev
     clear he2 hs hv2
     go_wp2_with fail
     refine (bin_readI32 h2).mono ?_
     rintro e w3 ⟨sq, ev, rfl, he3, h3, hk3, hb3, hv3⟩
     have HK3 := hdd (HKW.out.then hk3)
     have HV3 := hdd hv3
     clear hv3
     rcases fullK_cases 4 (strRem (rem.drop 4)) with hf | hf
     ·rw [hf] at he3
      have hev := he3.isNil
      subst hev
      have HF := hdd hf
      clear he3 hf
      go_wp2_with fail
      go_returns
      exact ⟨_, _, _, _, _, rfl, by rw [HK2.out, HF.out]; exact ErrAt.nil _ _ _, h3, HK3.out, fun _ => ⟨by rw [HBB.out], HTT.out.symm, by rw [HNN.out]; exact HV3.out (fullK_len HF.out), HSS.out.symm⟩⟩
     ·rw [hf] at he3
      obtain ⟨t, x, rfl⟩ := he3.held (by decide)
      have HE := hdd (he3.mono HKW.out.size)
      have HF := hdd hf
      clear he3 hf
      go_wp2_with fail
      refine (newPExc h3.glob HK3.out.size HE.out (by omega)).mono ?_
      rintro e w4 ⟨ev', rfl, he4, hk4⟩
      go_wp2_with fail
      go_returns
      exact ⟨_, _, _, _, _, rfl, by rw [HK2.out, HF.out]; exact he4, h3.fresh hk4, HK3.out.then (hk4.weak (fun _ _ x => x.elim)), fun hh => by rw [HK2.out, HF.out] at hh; omega⟩
    ·have HK2 : Hid (bmK rem c = strK (rem.drop 4) c) := hdd (HK1.out.trans (if_neg hs))
     have hb50 : strK (rem.drop 4) c < 50 := by rcases strK_cases (rem.drop 4) c with h | h | h | h <;> omega
     have hpk := pk_strK (rem.drop 4) c
     obtain ⟨t, x, rfl⟩ := he2.held hs
     have HE := hdd (he2.mono hk1.size)
     have HS := hdd hs
     clear he2 hs hv2
     go_wp2_with fail
     refine (newPExc h2.glob HKW.out.size HE.out hb50).mono ?_
     rintro e w4 ⟨ev', rfl, he4, hk4⟩
     go_wp2_with fail
     go_returns
     exact ⟨_, _, _, _, _, rfl, by rw [HK2.out]; rw [hpk] at he4; exact he4, h2.fresh hk4, HKW.out.then (hk4.weak (fun _ _ x => x.elim)), fun hh => absurd (HK2.out ▸ hh) HS.out⟩
   ·have HK1 : Hid (bmK rem c = 14) := hdd (by simp only [bmK, if_neg HL.out, HN.out, if_pos hn0, verN, if_neg hver])
    go_wp2_with fail
    refine (errNew _ _).mono ?_
    rintro e w8 ⟨b, rfl, hb, _, hk8⟩
    go_wp2_with fail
    refine (newPExcT' (E := E) (n0 := w.heap.size) 4 (by omega) b 0 _ _ hb (hk8.lt hk1.size)).mono ?_
    rintro e w9 ⟨v, rfl, hv, hk9⟩
    go_wp2_with fail
    go_returns
    exact ⟨_, _, _, _, _, rfl, by rw [HK1.out]; exact hv, h1.fresh (hk8.then hk9), hk1.then ((hk8.then hk9).weak (fun _ _ x => x.elim)), fun hh => by rw [HK1.out] at hh; omega⟩
  ·have HN0 := hdd hn0
   have HBB : Hid (bmB rem = strS rem) := hdd (by simp only [bmB, HN.out, if_neg hn0])
   have HTT : Hid (bmT rem = match strRem rem with | b :: _ => IntKind.i8.wrap b.toNat | [] => 0) := hdd (by simp only [bmT, HN.out, if_neg hn0])
   have HNN : Hid (bmN rem = wrap32 (Lib.beNat (((strRem rem).drop 1).take 4))) := hdd (by simp only [bmN, HN.out, if_neg hn0])
   have HSS : Hid (bmS rem = ((strRem rem).drop 1).drop 4) := hdd (by simp only [bmS, HN.out, if_neg hn0])
   have HKA : Hid (bmK rem c = if c.strict = true then 14 else if strK rem c = 0 then (if endK 1 (strRem rem) = 0 then fullK 4 ((strRem rem).drop 1) else endK 1 (strRem rem)) else strK rem c) := hdd (by simp only [bmK, if_neg HL.out, HN.out, if_neg hn0])
   have HSK : Hid (strK rem c = if sizeK n c = 0 then fullK n.toNat (rem.drop 4) else sizeK n c) := hdd (by simp only [strK, if_neg HL.out, HN.out])
   have HSR : Hid (strRem rem = (rem.drop 4).drop n.toNat) := hdd (by simp only [strRem, HN.out])
   have HSTR : Hid (strS rem = (rem.drop 4).take n.toNat) := hdd (by simp only [strS, HN.out])
   obtain ⟨sc, e1, e2⟩ := h1.blk
   have c2 : w1.cell? ⟨P, 2, none⟩ = some (.pointer a) := by simp [cellAt e2 2]
   go_wp2_with fail
   refine (strict_any h1.cfg).mono ?_
   rintro e w2 ⟨rfl, hk2⟩
   have h2 := h1.fresh hk2
   have HKW := hdd (hk1.then (hk2.weak (fun _ _ x => x.elim)) : Keep (MB2 P B) w w2)
   have d2 := (hk2.cell (p := ⟨P, 2, none⟩) (lt_of_heap e2) id).trans c2
   clear c2 e1 e2
   by_cases hst : c.strict = true
   ·have HK1 : Hid (bmK rem c = 14) := hdd (HKA.out.trans (if_pos hst))
    rw [hst]
    go_wp2_with fail
    refine (errNew _ _).mono ?_
    rintro e w8 ⟨b, rfl, hb, _, hk8⟩
    go_wp2_with fail
    refine (newPExcT' (E := E) (n0 := w.heap.size) 4 (by omega) b 0 _ _ hb (hk8.lt HKW.out.size)).mono ?_
    rintro e w9 ⟨v, rfl, hv, hk9⟩
    go_wp2_with fail
    go_returns
    exact ⟨_, _, _, _, _, rfl, by rw [HK1.out]; exact hv, h2.fresh (hk8.then hk9), HKW.out.then ((hk8.then hk9).weak (fun _ _ x => x.elim)), fun hh => by rw [HK1.out] at hh; omega⟩
   ·have hst0 : c.strict = false := by simpa using hst
    have HKB : Hid (bmK rem c = if strK rem c = 0 then (if endK 1 (strRem rem) = 0 then fullK 4 ((strRem rem).drop 1) else endK 1 (strRem rem)) else strK rem c) := hdd (HKA.out.trans (if_neg hst))
    rw [hst0]
    clear hst hst0
    go_wp2_with fail
    refine (checkSize (E := E) (n0 := w.heap.size) n hhi h2.cfg h2.cok HKW.out.size).mono ?_
    rintro e w3 ⟨v, rfl, hv3, hk3⟩
    have h3 := h2.fresh hk3
    have HK3 := hdd (HKW.out.then (hk3.weak (fun _ _ x => x.elim)))
    by_cases hz : sizeK n c = 0
    ·rw [hz] at hv3
     have hv4 := hv3.isNil
     subst hv4
     obtain ⟨m, rfl⟩ := Int.eq_ofNat_of_zero_le (show 0 ≤ n by omega)
     have HSK2 : Hid (strK rem c = fullK m (rem.drop 4)) := hdd (HSK.out.trans ((if_pos hz).trans (by simp)))
     have hSR : (rem.drop 4).drop m = strRem rem := by rw [HSR.out]; simp
     have hSS : (rem.drop 4).take m = strS rem := by rw [HSTR.out]; simp
     simp only [Int.ofNat_eq_natCast] at *
     have HSR2 := hdd hSR
     have HSS2 := hdd hSS
     clear hSR hSS hz hv3 d2
     go_wp2_with fail
     refine (bin_readStringBody h3 m (by omega)).mono ?_
     rintro e w4 ⟨ev, rfl, he4, h4, hk4⟩
     rw [HSR2.out] at h4
     rw [HSS2.out]
     have HK4 := hdd (HK3.out.then hk4)
     rcases fullK_cases m (rem.drop 4) with hf | hf
     ·have HKC : Hid (bmK rem c = if endK 1 (strRem rem) = 0 then fullK 4 ((strRem rem).drop 1) else endK 1 (strRem rem)) := hdd (HKB.out.trans (if_pos (HSK2.out.trans hf)))
      rw [hf] at he4
      have hev := he4.isNil
      subst hev
      clear he4 hf
      go_wp2_with fail
      refine (bin_readByte h4).mono ?_
      rintro e w5 ⟨bt, ev, rfl, he5, h5, hk5, hbt, hbv⟩
      have HK5 := hdd (HK4.out.then hk5)
      rcases endK1_cases (strRem rem) with ⟨hq, hq2⟩ | ⟨hq, b, r, hq2⟩
      ·have HKD : Hid (bmK rem c = 1) := hdd (by rw [HKC.out, hq]; simp)
       rw [hq] at he5
       have HE := hdd (he5.mono HK4.out.size)
       obtain ⟨t, x, rfl⟩ := he5.held (by decide)
       clear he5 hbv
       go_wp2_with fail
       go_returns
       exact ⟨_, _, _, _, _, rfl, by rw [HKD.out]; exact HE.out, h5, HK5.out, fun hh => by rw [HKD.out] at hh; omega⟩
      ·have HKD : Hid (bmK rem c = fullK 4 ((strRem rem).drop 1)) := hdd (by rw [HKC.out, hq]; simp)
       rw [hq] at he5
       have hev := he5.isNil
       subst hev
       have hbb := hbv b r hq2
       have HTT2 : Hid (bmT rem = bt) := hdd (by rw [HTT.out, hq2, hbb])
       have hbt1 := hbt.1
       have hbt2 := hbt.2
       clear he5 hbv hbt hq hq2 hbb
       go_wp2_with fail
       refine (bin_readI32 h5).mono ?_
       rintro e w6 ⟨sq, ev, rfl, he6, h6, hk6, hb6, hv6⟩
       have HK6 := hdd (HK5.out.then hk6)
       have HV6 := hdd hv6
       clear hv6
       rcases fullK_cases 4 ((strRem rem).drop 1) with hf | hf
       ·rw [hf] at he6
        have hev := he6.isNil
        subst hev
        have HF := hdd hf
        clear he6 hf
        go_wp2_with fail
        go_returns
        exact ⟨_, _, _, _, _, rfl, by rw [HKD.out, HF.out]; exact ErrAt.nil _ _ _, h6, HK6.out, fun _ => ⟨by rw [HBB.out], HTT2.out.symm, by rw [HNN.out]; exact HV6.out (fullK_len HF.out), HSS.out.symm⟩⟩
       ·rw [hf] at he6
        have HE := hdd (he6.mono HK5.out.size)
        obtain ⟨t, x, rfl⟩ := he6.held (by decide)
        have HF := hdd hf
        clear he6 hf
        go_wp2_with fail
        go_returns
        exact ⟨_, _, _, _, _, rfl, by rw [HKD.out, HF.out]; exact HE.out, h6, HK6.out, fun hh => by rw [HKD.out, HF.out] at hh; omega⟩
     ·have HKC : Hid (bmK rem c = 10) := hdd (by rw [HKB.out, HSK2.out, hf]; simp)
      rw [hf] at he4
      have HE := hdd (he4.mono HK3.out.size)
      obtain ⟨t, x, rfl⟩ := he4.held (by decide)
      clear he4 hf
      go_wp2_with fail
      go_returns
      exact ⟨_, _, _, _, _, rfl, by rw [HKC.out]; exact HE.out, h4, HK4.out, fun hh => by rw [HKC.out] at hh; omega⟩
    ·have HKC : Hid (bmK rem c = sizeK n c) := hdd (by rw [HKB.out, HSK.out, if_neg hz, if_neg hz])
     obtain ⟨t, x, rfl⟩ := hv3.held hz
     have HE := hdd hv3
     have HZ := hdd hz
     clear hv3 hz
     go_wp2_with fail
     go_returns
     exact ⟨_, _, _, _, _, rfl, by rw [HKC.out]; exact HE.out, h3, HK3.out, fun hh => absurd (HKC.out ▸ hh) HZ.out⟩
structure Cmp.St where
 rem : List UInt8
 last : Int
 outer : List Int
 pend : Bool
 val : Bool
def vGo : Nat → List UInt8 → Int × Nat × List UInt8
 | 0, l => (11, 0, l)
 | _ + 1, [] => (1, 0, [])
 | n + 1, b :: r => if b.toNat < 128 then (0, b.toNat, r) else ((vGo n r).1, b.toNat % 128 + 128 * (vGo n r).2.1, (vGo n r).2.2)
def vK (l : List UInt8) : Int := (vGo 10 l).1
def vN (l : List UInt8) : Nat := (vGo 10 l).2.1
def vR (l : List UInt8) : List UInt8 := (vGo 10 l).2.2
theorem vGo_kind : ∀ n l, (vGo n l).1 = 0 ∨ (vGo n l).1 = 1 ∨ (vGo n l).1 = 11
 | 0, l => .inr (.inr rfl)
 | _ + 1, [] => .inr (.inl rfl)
 | n + 1, b :: r => by
  simp only [vGo]
  split
  ·exact .inl rfl
  ·exact vGo_kind n r
theorem vK_kind (l : List UInt8) : vK l = 0 ∨ vK l = 1 ∨ vK l = 11 := vGo_kind 10 l
theorem vGo_le : ∀ n l, (vGo n l).2.2.length ≤ l.length
 | 0, l => Nat.le_refl _
 | _ + 1, [] => Nat.le_refl _
 | n + 1, b :: r => by
  simp only [vGo]
  split
  ·simp
  ·have := vGo_le n r
   simp
   omega
theorem vR_le (l : List UInt8) : (vR l).length ≤ l.length := vGo_le 10 l
theorem vR_lt (l : List UInt8) (h : vK l = 0) : (vR l).length < l.length := by
 cases l with
 | nil => simp [vK, vGo] at h
 | cons b r =>
  simp only [vR, vGo]
  split
  ·simp
  ·have := vGo_le 9 r
   simp
   omega
def zz (u : Nat) : Int := if u % 2 = 0 then ((u / 2 : Nat) : Int) else -((u / 2 : Nat) : Int) - 1
def v32 (l : List UInt8) : Int := match l with | [] => 0 | b :: r => wrap32 (vN (b :: r))
theorem v32_eq (l : List UInt8) : v32 l = wrap32 (vN l) := by
 cases l with
 | nil => simp [v32, vN, vGo, wrap32]
 | cons b r => rfl
def z32 (l : List UInt8) : Int := zz (vN l % 4294967296)
def z64 (l : List UInt8) : Int := zz (vN l % 18446744073709551616)
theorem v32_bd (l : List UInt8) : -2147483648 ≤ v32 l ∧ v32 l ≤ 2147483647 := by rw [v32_eq]; simp only [wrap32]; omega
theorem zz_bd (u m : Nat) (h : u < 2 * m) : -(m : Int) ≤ zz u ∧ zz u < m := by unfold zz; split <;> omega
def cty (n : Nat) : Int := if n = 1 ∨ n = 2 then 2 else if n = 3 then 3 else if n = 4 then 6 else if n = 5 then 8 else if n = 6 then 10 else if n = 7 then 4 else if n = 8 then 11 else if n = 9 then 15 else if n = 10 then 14 else if n = 11 then 13 else if n = 12 then 12 else if n = 13 then 16 else 0
def ctyK (n : Nat) : Int := if n = 14 ∨ n = 15 then 10 else 0
def minCmp (t : Int) : Int := if t = 4 then 8 else if t = 16 then 16 else 1
theorem minCmp_bd (t : Int) : 1 ≤ minCmp t ∧ minCmp t ≤ 16 := by unfold minCmp; split; omega; split <;> omega
theorem cty_bd (n : Nat) : 0 ≤ cty n ∧ cty n ≤ 16 := by unfold cty; repeat' split
                                                        all_goals omega
def cstrK (l : List UInt8) (c : Cfg) : Int := if vK l = 0 then (if sizeK (v32 l) c = 0 then fullK (v32 l).toNat (vR l) else sizeK (v32 l) c) else pk (vK l)
def cstrS (l : List UInt8) : List UInt8 := (vR l).take (v32 l).toNat
def cstrRem (l : List UInt8) : List UInt8 := (vR l).drop (v32 l).toNat
abbrev Cmp.St.at (s : Cmp.St) (l : List UInt8) : Cmp.St := { s with rem := l }
def Cmp.scK (c : Cfg) (t : Int) (s : Cmp.St) : Int :=
 if t = 2 then (if s.pend = true then 0 else endK 1 s.rem) else if t = 3 then fullK 1 s.rem else if t = 6 ∨ t = 8 ∨ t = 10 then pk (vK s.rem) else if t = 4 then fullK 8 s.rem else if t = 11 then cstrK s.rem c else fullK 16 s.rem
def Cmp.scR (t : Int) (s : Cmp.St) : List UInt8 :=
 if t = 2 then (if s.pend = true then s.rem else s.rem.drop 1) else if t = 3 then s.rem.drop 1 else if t = 6 ∨ t = 8 ∨ t = 10 then vR s.rem else if t = 4 then s.rem.drop 8 else if t = 11 then cstrRem s.rem else s.rem.drop 16
def Cmp.scS (t : Int) (s : Cmp.St) : Cmp.St := { s with rem := Cmp.scR t s, pend := if t = 2 then false else s.pend }
def Cmp.scN (t : Int) (s : Cmp.St) : Int :=
 if t = 2 then (if s.pend = true then (if s.val = true then 1 else 0) else (match s.rem with | b :: _ => if (b == 1) = true then 1 else 0 | _ => 0)) else if t = 3 then (match s.rem with | b :: _ => IntKind.i8.wrap b.toNat | _ => 0) else
 if t = 6 then IntKind.i16.wrap (z32 s.rem) else if t = 8 then z32 s.rem else if t = 10 then z64 s.rem else if t = 4 then wrap64 (Lib.leNat (s.rem.take 8)) else 0
def Cmp.scB (t : Int) (s : Cmp.St) : List UInt8 := if t = 11 then cstrS s.rem else if t = 16 then s.rem.take 16 else []
def Cmp.sbS (s : Cmp.St) : Cmp.St := { s with outer := s.outer ++ [s.last], last := 0 }
def Cmp.seS (s : Cmp.St) : Cmp.St := { s with outer := s.outer.dropLast, last := s.outer.getLast?.getD 0 }
def Cmp.fK (s : Cmp.St) : Int := match s.rem with
 | [] => 1
 | b :: r => if b.toNat % 16 = 0 then 0 else if b.toNat / 16 = 0 then (if vK r = 0 then ctyK (b.toNat % 16) else pk (vK r)) else ctyK (b.toNat % 16)
def Cmp.fI (s : Cmp.St) : Int := match s.rem with
 | [] => 0
 | b :: r => if b.toNat % 16 = 0 then 0 else if b.toNat / 16 = 0 then IntKind.i16.wrap (z32 r) else IntKind.i16.wrap (IntKind.i16.wrap s.last + (b.toNat / 16 : Nat))
def Cmp.fT (s : Cmp.St) : Int := match s.rem with
 | [] => 0
 | b :: _ => if b.toNat % 16 = 0 then 0 else cty (b.toNat % 16)
def Cmp.fS (s : Cmp.St) : Cmp.St := match s.rem with
 | [] => s
 | b :: r => if b.toNat % 16 = 0 then s.at r else
  { rem := if b.toNat / 16 = 0 then vR r else r, last := Cmp.fI s, outer := s.outer,
    pend := if b.toNat % 16 = 1 ∨ b.toNat % 16 = 2 then true else s.pend, val := if b.toNat % 16 = 1 ∨ b.toNat % 16 = 2 then b.toNat % 16 == 1 else s.val }
def Cmp.mK (c : Cfg) (s : Cmp.St) : Int :=
 if vK s.rem = 0 then (if v32 s.rem = 0 then contK 0 2 (vR s.rem).length c else match vR s.rem with
  | [] => 1
  | b :: r => contK (v32 s.rem) (minCmp (cty (b.toNat / 16)) + minCmp (cty (b.toNat % 16))) r.length c) else pk (vK s.rem)
def Cmp.mS (s : Cmp.St) : Cmp.St := s.at (if v32 s.rem = 0 then vR s.rem else (vR s.rem).drop 1)
def Cmp.mKT (s : Cmp.St) : Int := if v32 s.rem = 0 then 0 else match vR s.rem with | [] => 0 | b :: _ => cty (b.toNat / 16)
def Cmp.mT (s : Cmp.St) : Int := if v32 s.rem = 0 then 0 else match vR s.rem with | [] => 0 | b :: _ => cty (b.toNat % 16)
def Cmp.lK (c : Cfg) (s : Cmp.St) : Int := match s.rem with
 | [] => 1
 | b :: r => if b.toNat / 16 = 15 then (if vK r = 0 then (if ctyK (b.toNat % 16) = 0 then contK (v32 r) (minCmp (cty (b.toNat % 16))) (vR r).length c else 10) else pk (vK r))
  else (if ctyK (b.toNat % 16) = 0 then contK ((b.toNat / 16 : Nat) : Int) (minCmp (cty (b.toNat % 16))) r.length c else 10)
def Cmp.lS (s : Cmp.St) : Cmp.St := s.at (match s.rem with | [] => [] | b :: r => if b.toNat / 16 = 15 then vR r else r)
def Cmp.lT (s : Cmp.St) : Int := match s.rem with | [] => 0 | b :: _ => cty (b.toNat % 16)
def Cmp.lN (s : Cmp.St) : Int := match s.rem with | [] => 0 | b :: r => if b.toNat / 16 = 15 then v32 r else ((b.toNat / 16 : Nat) : Int)
def Cmp.prc (c : Cfg) : Pr Cmp.St where
 len := fun s => s.rem.length
 dep := fun s => s.outer.length
 one := 1
 scK := Cmp.scK c
 scS := Cmp.scS
 scN := Cmp.scN
 scB := Cmp.scB
 sbS := Cmp.sbS
 seS := Cmp.seS
 feS := id
 meS := id
 leS := id
 fK := Cmp.fK
 fS := Cmp.fS
 fT := Cmp.fT
 fI := Cmp.fI
 mK := Cmp.mK c
 mS := Cmp.mS
 mKT := Cmp.mKT
 mT := Cmp.mT
 mN := fun s => v32 s.rem
 lK := Cmp.lK c
 lS := Cmp.lS
 lT := Cmp.lT
 lN := Cmp.lN
theorem pk_lt (k : Int) : pk k < 50 := by unfold pk; repeat' split
                                          all_goals omega
theorem fullK_lt (n : Nat) (l : List UInt8) : fullK n l < 50 := by unfold fullK; split <;> omega
theorem sizeK_lt (n : Int) (c : Cfg) : sizeK n c < 50 := by unfold sizeK; repeat' split
                                                            all_goals omega
theorem contK_lt (a b d : Int) (c : Cfg) : contK a b d c < 50 := by unfold contK; repeat' split
                                                                    all_goals omega
theorem cstrK_lt (l : List UInt8) (c : Cfg) : cstrK l c < 50 := by
 unfold cstrK; repeat' split
 ·exact fullK_lt _ _
 ·exact sizeK_lt _ _
 ·exact pk_lt _
theorem endK_lt0 (n : Nat) (l : List UInt8) : endK n l < 50 := by unfold endK; repeat' split
                                                                  all_goals omega
theorem ctyK_lt (n : Nat) : ctyK n < 50 := by unfold ctyK; split <;> omega
theorem Cmp.scK_lt (c : Cfg) (t : Int) (s : Cmp.St) : Cmp.scK c t s < 50 := by
 unfold Cmp.scK; repeat' split
 all_goals first | decide | exact endK_lt0 _ _ | exact fullK_lt _ _ | exact pk_lt _ | exact cstrK_lt _ _
theorem Cmp.fK_lt (s : Cmp.St) : Cmp.fK s < 50 := by
 unfold Cmp.fK; repeat' split
 all_goals first | decide | exact pk_lt _ | exact ctyK_lt _
theorem Cmp.mK_lt (c : Cfg) (s : Cmp.St) : Cmp.mK c s < 50 := by
 unfold Cmp.mK; repeat' split
 all_goals first | decide | exact pk_lt _ | exact contK_lt _ _ _ _
theorem Cmp.lK_lt (c : Cfg) (s : Cmp.St) : Cmp.lK c s < 50 := by
 unfold Cmp.lK; repeat' split
 all_goals first | decide | exact pk_lt _ | exact contK_lt _ _ _ _
theorem cstrRem_le (l : List UInt8) : (cstrRem l).length ≤ l.length := by have := vR_le l; simp only [cstrRem, List.length_drop]; omega
theorem Cmp.ok_sc (t : Int) (s : Cmp.St) : (Cmp.scR t s).length ≤ s.rem.length := by
 have h1 := vR_le s.rem
 have h2 := cstrRem_le s.rem
 unfold Cmp.scR
 repeat' split
 all_goals first | omega | (simp only [List.length_drop]; omega)
theorem Cmp.ok_f (s : Cmp.St) (h : Cmp.fK s = 0) : (Cmp.fS s).rem.length < s.rem.length := by
 obtain ⟨rem, last, outer, pend, val⟩ := s
 cases rem with
 | nil => simp [Cmp.fK] at h
 | cons b r =>
  have h1 := vR_le r
  simp only [Cmp.fS]
  split
  ·simp
  ·simp only [List.length_cons]
   split <;> omega
theorem Cmp.ok_m (c : Cfg) (s : Cmp.St) (h : Cmp.mK c s = 0) : (Cmp.mS s).rem.length < s.rem.length := by
 have h0 : vK s.rem = 0 := by
  unfold Cmp.mK at h
  split at h
  ·assumption
  ·rename_i h1
   have := vK_kind s.rem
   unfold pk at h
   split at h
   ·assumption
   ·split at h <;> omega
 have h1 := vR_lt s.rem h0
 simp only [Cmp.mS]
 split
 ·exact h1
 ·simp only [List.length_drop]; omega
theorem Cmp.ok_l (c : Cfg) (s : Cmp.St) (h : Cmp.lK c s = 0) : (Cmp.lS s).rem.length < s.rem.length := by
 obtain ⟨rem, last, outer, pend, val⟩ := s
 cases rem with
 | nil => simp [Cmp.lK] at h
 | cons b r =>
  have h1 := vR_le r
  simp only [Cmp.lS, List.length_cons]
  split <;> omega
theorem Cmp.ok_lb (s : Cmp.St) : Cmp.lN s ≤ 2147483647 := by
 obtain ⟨rem, last, outer, pend, val⟩ := s
 cases rem with
 | nil => simp [Cmp.lN]
 | cons b r =>
  simp only [Cmp.lN]
  split
  ·exact (v32_bd r).2
  ·have := b.toNat_lt
   omega
theorem Cmp.ok_dsb (s : Cmp.St) : (Cmp.sbS s).outer.length = s.outer.length + 1 := by
 simp [Cmp.sbS]
theorem Cmp.ok_dse (s : Cmp.St) (h : 1 ≤ s.outer.length) : (Cmp.seS s).outer.length + 1 = s.outer.length := by
 simp [Cmp.seS]
 omega
theorem Cmp.ok_df (s : Cmp.St) : (Cmp.fS s).outer.length = s.outer.length := by
 obtain ⟨rem, last, outer, pend, val⟩ := s
 cases rem with
 | nil => rfl
 | cons b r =>
  simp only [Cmp.fS]
  split <;> rfl
theorem Cmp.okc (c : Cfg) : (Cmp.prc c).Ok where
 sc := Cmp.ok_sc
 sb s := Nat.le_refl _
 se s := Nat.le_refl _
 fe s := Nat.le_refl _
 me s := Nat.le_refl _
 le s := Nat.le_refl _
 f := Cmp.ok_f
 m := Cmp.ok_m c
 l := Cmp.ok_l c
 mb s := (v32_bd s.rem).2
 lb := Cmp.ok_lb
 one1 := Nat.le_refl _
 dsc _ _ _ := rfl
 dsb := Cmp.ok_dsb
 dse := Cmp.ok_dse
 dfe _ := rfl
 dme _ := rfl
 dle _ := rfl
 df := fun s _ => Cmp.ok_df s
 dm s _ := rfl
 dl s _ := rfl
theorem i64_wr (n : Int) : IntKind.i64.wrap n = if n % 18446744073709551616 ≥ 9223372036854775808 then n % 18446744073709551616 - 18446744073709551616 else n % 18446744073709551616 := by
 simp [IntKind.wrap, IntKind.bits, IntKind.signed]
theorem i32_wr (n : Int) : IntKind.i32.wrap n = if n % 4294967296 ≥ 2147483648 then n % 4294967296 - 4294967296 else n % 4294967296 := by
 simp [IntKind.wrap, IntKind.bits, IntKind.signed]
theorem i16_wr (n : Int) : IntKind.i16.wrap n = if n % 65536 ≥ 32768 then n % 65536 - 65536 else n % 65536 := by
 simp [IntKind.wrap, IntKind.bits, IntKind.signed]
theorem u64_wr (n : Int) : IntKind.u64.wrap n = n % 18446744073709551616 := by
 simp [IntKind.wrap, IntKind.bits, IntKind.signed]
theorem u32_wr (n : Int) : IntKind.u32.wrap n = n % 4294967296 := by
 simp [IntKind.wrap, IntKind.bits, IntKind.signed]
theorem ofInt64 (x : Int) (n : Nat) (h : x % 18446744073709551616 = ((n % 18446744073709551616 : Nat) : Int)) : BitVec.ofInt 64 x = BitVec.ofNat 64 n := by
 apply BitVec.eq_of_toNat_eq
 simp only [BitVec.toNat_ofInt, BitVec.toNat_ofNat]
 omega
theorem ofInt32 (x : Int) (n : Nat) (h : x % 4294967296 = ((n % 4294967296 : Nat) : Int)) : BitVec.ofInt 32 x = BitVec.ofNat 32 n := by
 apply BitVec.eq_of_toNat_eq
 simp only [BitVec.toNat_ofInt, BitVec.toNat_ofNat]
 omega
theorem or_low (k acc c : Nat) (h : acc < 2 ^ k) : acc ||| c * 2 ^ k = acc + c * 2 ^ k := by
 rw [Nat.or_comm, Nat.mul_comm, ← Nat.two_pow_add_eq_or_of_lt h, Nat.add_comm]
theorem or_i64 (k acc c : Nat) (h : acc < 2 ^ k) : bits .or .i64 (IntKind.i64.wrap (acc : Nat)) (IntKind.i64.wrap ((c : Int) * 2 ^ k)) = IntKind.i64.wrap ((acc + c * 2 ^ k : Nat) : Int) := by
 show IntKind.i64.wrap ((BitVec.ofInt 64 _ ||| BitVec.ofInt 64 _).toNat : Int) = _
 have e0 : ((c : Int) * 2 ^ k) = ((c * 2 ^ k : Nat) : Int) := by simp
 rw [e0]
 rw [ofInt64 (IntKind.i64.wrap (acc : Nat)) acc (by rw [i64_wr]; split <;> omega), ofInt64 (IntKind.i64.wrap ((c * 2 ^ k : Nat) : Int)) (c * 2 ^ k) (by rw [i64_wr]; split <;> omega)]
 rw [← BitVec.ofNat_or, BitVec.toNat_ofNat, or_low k acc c h, i64_wr, i64_wr]
 generalize acc + c * 2 ^ k = m
 have e2 : ((m % 2 ^ 64 : Nat) : Int) % 18446744073709551616 = (m : Int) % 18446744073709551616 := by omega
 rw [e2]
theorem or_u64 (k acc c : Nat) (h : acc < 2 ^ k) (hm : c * 2 ^ k < 18446744073709551616) (ha : acc + c * 2 ^ k < 18446744073709551616) : bits .or .u64 (acc : Nat) (IntKind.u64.wrap ((c : Int) * 2 ^ k)) = ((acc + c * 2 ^ k : Nat) : Int) := by
 show IntKind.u64.wrap ((BitVec.ofInt 64 _ ||| BitVec.ofInt 64 _).toNat : Int) = _
 have e0 : ((c : Int) * 2 ^ k) = ((c * 2 ^ k : Nat) : Int) := by simp
 rw [e0]
 rw [ofInt64 (acc : Nat) acc (by omega), ofInt64 (IntKind.u64.wrap ((c * 2 ^ k : Nat) : Int)) (c * 2 ^ k) (by rw [u64_wr]; omega)]
 rw [← BitVec.ofNat_or, BitVec.toNat_ofNat, or_low k acc c h, u64_wr]
 rw [Nat.mod_eq_of_lt ha]
 omega
theorem and1_i32 (n : Int) : bits .and .i32 n 1 = n % 2 := by
 show IntKind.i32.wrap ((BitVec.ofInt 32 n &&& BitVec.ofInt 32 1).toNat : Int) = _
 rw [ofInt32 n (n % 4294967296).toNat (by omega), ofInt32 1 1 (by decide), ← BitVec.ofNat_and, BitVec.toNat_ofNat]
 have := Nat.and_two_pow_sub_one_eq_mod (n % 4294967296).toNat 1
 simp only [Nat.pow_one, Nat.reduceSub] at this
 rw [this, i32_wr]
 split <;> omega
theorem and1_u32 (n : Int) : bits .and .u32 n 1 = n % 2 := by
 show IntKind.u32.wrap ((BitVec.ofInt 32 n &&& BitVec.ofInt 32 1).toNat : Int) = _
 rw [ofInt32 n (n % 4294967296).toNat (by omega), ofInt32 1 1 (by decide), ← BitVec.ofNat_and, BitVec.toNat_ofNat]
 have := Nat.and_two_pow_sub_one_eq_mod (n % 4294967296).toNat 1
 simp only [Nat.pow_one, Nat.reduceSub] at this
 rw [this, u32_wr]
 omega
theorem and1_i64 (n : Int) : bits .and .i64 n 1 = n % 2 := by
 show IntKind.i64.wrap ((BitVec.ofInt 64 n &&& BitVec.ofInt 64 1).toNat : Int) = _
 rw [ofInt64 n (n % 18446744073709551616).toNat (by omega), ofInt64 1 1 (by decide), ← BitVec.ofNat_and, BitVec.toNat_ofNat]
 have := Nat.and_two_pow_sub_one_eq_mod (n % 18446744073709551616).toNat 1
 simp only [Nat.pow_one, Nat.reduceSub] at this
 rw [this, i64_wr]
 split <;> omega
theorem and1_u64 (n : Int) : bits .and .u64 n 1 = n % 2 := by
 show IntKind.u64.wrap ((BitVec.ofInt 64 n &&& BitVec.ofInt 64 1).toNat : Int) = _
 rw [ofInt64 n (n % 18446744073709551616).toNat (by omega), ofInt64 1 1 (by decide), ← BitVec.ofNat_and, BitVec.toNat_ofNat]
 have := Nat.and_two_pow_sub_one_eq_mod (n % 18446744073709551616).toNat 1
 simp only [Nat.pow_one, Nat.reduceSub] at this
 rw [this, u64_wr]
 omega
theorem xor0_i32 (n : Nat) (h : n < 2147483648) : bits .xor .i32 (n : Int) 0 = n := by
 show IntKind.i32.wrap ((BitVec.ofInt 32 (n : Int) ^^^ BitVec.ofInt 32 0).toNat : Int) = _
 rw [ofInt32 (n : Int) n (by omega), ofInt32 0 0 (by decide), ← BitVec.ofNat_xor, BitVec.toNat_ofNat, Nat.xor_zero, i32_wr]
 split <;> omega
theorem xor0_i64 (n : Nat) (h : n < 9223372036854775808) : bits .xor .i64 (n : Int) 0 = n := by
 show IntKind.i64.wrap ((BitVec.ofInt 64 (n : Int) ^^^ BitVec.ofInt 64 0).toNat : Int) = _
 rw [ofInt64 (n : Int) n (by omega), ofInt64 0 0 (by decide), ← BitVec.ofNat_xor, BitVec.toNat_ofNat, Nat.xor_zero, i64_wr]
 split <;> omega
theorem xor_ones (m n : Nat) (h : n < 2 ^ m) : n ^^^ (2 ^ m - 1) = 2 ^ m - 1 - n := by
 apply Nat.eq_of_testBit_eq
 intro i
 rw [Nat.testBit_xor, Nat.testBit_two_pow_sub_one, show 2 ^ m - 1 - n = 2 ^ m - (n + 1) by omega, Nat.testBit_two_pow_sub_succ h]
 by_cases hi : i < m
 ·simp [hi]
 ·have : n.testBit i = false := Nat.testBit_lt_two_pow (Nat.lt_of_lt_of_le h (Nat.pow_le_pow_right (by decide) (by omega)))
  simp [hi, this]
theorem xor1_i32 (n : Nat) (h : n < 2147483648) : bits .xor .i32 (n : Int) (-1) = -(n : Int) - 1 := by
 show IntKind.i32.wrap ((BitVec.ofInt 32 (n : Int) ^^^ BitVec.ofInt 32 (-1)).toNat : Int) = _
 have := xor_ones 32 n (by omega)
 simp only [Nat.reducePow, Nat.reduceSub] at this
 rw [ofInt32 (n : Int) n (by omega), ofInt32 (-1) 4294967295 (by decide), ← BitVec.ofNat_xor, BitVec.toNat_ofNat, this, i32_wr]
 split <;> omega
theorem xor1_i64 (n : Nat) (h : n < 9223372036854775808) : bits .xor .i64 (n : Int) (-1) = -(n : Int) - 1 := by
 show IntKind.i64.wrap ((BitVec.ofInt 64 (n : Int) ^^^ BitVec.ofInt 64 (-1)).toNat : Int) = _
 have := xor_ones 64 n (by omega)
 simp only [Nat.reducePow, Nat.reduceSub] at this
 rw [ofInt64 (n : Int) n (by omega), ofInt64 (-1) 18446744073709551615 (by decide), ← BitVec.ofNat_xor, BitVec.toNat_ofNat, this, i64_wr]
 split <;> omega
theorem unzig32 (m : Nat) (h : m < 4294967296) : bits .xor .i32 (((m / 2 : Nat) : Int)) (-((m : Int) % 2)) = zz m := by
 unfold zz
 by_cases he : m % 2 = 0
 ·rw [if_pos he, show (-((m : Int) % 2)) = 0 by omega]
  exact xor0_i32 _ (by omega)
 ·rw [if_neg he, show (-((m : Int) % 2)) = -1 by omega]
  exact xor1_i32 _ (by omega)
theorem unzig64 (m : Nat) (h : m < 18446744073709551616) : bits .xor .i64 (((m / 2 : Nat) : Int)) (-((m : Int) % 2)) = zz m := by
 unfold zz
 by_cases he : m % 2 = 0
 ·rw [if_pos he, show (-((m : Int) % 2)) = 0 by omega]
  exact xor0_i64 _ (by omega)
 ·rw [if_neg he, show (-((m : Int) % 2)) = -1 by omega]
  exact xor1_i64 _ (by omega)
theorem and15_fin : ∀ b : Fin 256, bits .and .u8 ((b.val : Nat) : Int) 15 = ((b.val % 16 : Nat) : Int) := by decide +kernel
theorem and240_fin : ∀ b : Fin 256, bits .and .u8 ((b.val : Nat) : Int) 240 = ((b.val / 16 * 16 : Nat) : Int) := by decide +kernel
theorem and127_fin : ∀ b : Fin 256, bits .and .u8 ((b.val : Nat) : Int) 127 = ((b.val % 128 : Nat) : Int) := by decide +kernel
theorem and128_fin : ∀ b : Fin 256, bits .and .u8 ((b.val : Nat) : Int) 128 = ((b.val / 128 * 128 : Nat) : Int) := by decide +kernel
theorem and1_fin : ∀ b : Fin 256, bits .and .u8 ((b.val : Nat) : Int) 1 = ((b.val % 2 : Nat) : Int) := by decide +kernel
theorem u8_and15 (b : UInt8) : bits .and .u8 ((b.toNat : Nat) : Int) 15 = ((b.toNat % 16 : Nat) : Int) := and15_fin ⟨b.toNat, b.toNat_lt⟩
theorem u8_and240 (b : UInt8) : bits .and .u8 ((b.toNat : Nat) : Int) 240 = ((b.toNat / 16 * 16 : Nat) : Int) := and240_fin ⟨b.toNat, b.toNat_lt⟩
theorem u8_and127' (b : UInt8) : bits .and .u8 ((b.toNat : Nat) : Int) 127 = ((b.toNat % 128 : Nat) : Int) := and127_fin ⟨b.toNat, b.toNat_lt⟩
theorem u8_and128 (b : UInt8) : bits .and .u8 ((b.toNat : Nat) : Int) 128 = ((b.toNat / 128 * 128 : Nat) : Int) := and128_fin ⟨b.toNat, b.toNat_lt⟩
theorem u8_and1 (b : UInt8) : bits .and .u8 ((b.toNat : Nat) : Int) 1 = ((b.toNat % 2 : Nat) : Int) := and1_fin ⟨b.toNat, b.toNat_lt⟩
end Go.Proofs.YthehmlbolajljaaGreatDoor
