/- Part 20 of the proof: Skip3Bin. -/
import Derived.Test.YtpfifpgbnhdjnaaGreatDoorA10
set_option linter.unusedVariables false
set_option linter.unusedSimpArgs false
set_option linter.unusedSectionVars false
/- thrift.Skip over a protocol: maps, lists, sets; every value. -/
namespace Go.Proofs.YtpfifpgbnhdjnaaGreatDoor
open Go Go.RowKit

/-- What holds ahead of each element: k are still to come, tot is what all of them make. -/
def Bin.RepRel (K : Bin.Ctx) (w : World) (f : Bin.St → Int × Bin.St) (n : Int) (tot : Int × Bin.St) (k : Nat) (v : Value) (wr : World) : Prop :=
  ∃ i s, v = .int .i64 i ∧ 0 ≤ i ∧ k = (n - i).toNat ∧ Bin.Inv K s wr ∧ Kpt (Bin.M K) w wr ∧ rep f k s = tot ∧ (Bin.pr K).Room s

theorem Bin.Post.tot {K : Bin.Ctx} {w w' : World} {ev : Value} {r : Int × Bin.St} {k : Int} {s : Bin.St} (e : r = (k, s)) (h : Bin.Post K w w' k ev s) : Bin.Post K w w' r.1 ev r.2 := by rw [e]; exact h

set_option maxRecDepth 100000 in
set_option maxHeartbeats 8000000 in
theorem Bin.skip_list (K : Bin.Ctx) (d : Nat) (ih : Bin.Skips K d) (deep : Int) (s : Bin.St) (w : World) (hdd : deep.toNat = d + 1) (hd : 0 < deep) (hhi : deep ≤ 9223372036854775807) (h : Bin.Inv K s w) (hroom : (Bin.pr K).Room s) :
    Calls Tryz.prog 38 #[ctxV, .iface 112 (.pointer (some ⟨K.P, 0, none⟩)), .int .u8 15, .int .i64 deep] w fun e w' => ∃ ev, e = .returned ev ∧ Bin.Post K w w' (skp (Bin.pr K) (d + 1) 15 s).1 ev (skp (Bin.pr K) (d + 1) 15 s).2 := by
  by_cases hz : (Bin.pr K).lK s = 0
  · obtain ⟨tot, htot⟩ : ∃ tot, rep (skp (Bin.pr K) d ((Bin.pr K).lT s)) ((Bin.pr K).lN s).toNat ((Bin.pr K).lS s) = tot := ⟨_, rfl⟩
    have e0 : skp (Bin.pr K) (d + 1) 15 s = endby (Bin.pr K).leS tot := by rw [← htot]; simp [skp, isSc, hz]
    rw [e0]
    have HT := Lib.hid htot
    clear htot e0
    have hd1 : (deep - 1).toNat = d := by omega
    have HD := Lib.hid hd1
    have HRM := Lib.hid hroom
    clear hroom
    have HDD := Lib.hid hdd
    have HZ := Lib.hid hz
    clear hd1 hdd hz
    go_enter Tryz.func38, Tryz.ntmps38
    go_wp2_with fail
    refine (Bin.readListBegin h).mono ?_
    rintro e w1 ⟨t, n, ev, rfl, hp1, hv1⟩
    have hev : ev = .nilIface := by have := hp1.err; rw [HZ.out] at this; exact this.isNil
    subst hev
    obtain ⟨ht, hn⟩ := hv1 HZ.out
    have hnb : n ≤ 2147483647 := by rw [hn]; exact (Bin.ok K).lb s
    have HTT := Lib.hid ht
    have HN := Lib.hid hn
    clear hv1 ht hn
    go_wp2_with fail
    go_loopg [215] n.toNat (fun k v wr => Bin.RepRel K w (skp (Bin.pr K) d ((Bin.pr K).lT s)) n tot k v wr)
    case atStart => exact ⟨0, _, rfl, by omega, by rw [Int.sub_zero], hp1.inv HZ.out, hp1.keep, by rw [HN.out]; exact HT.out, by have a1 := (Bin.ok K).l s HZ.out; have a2 := (Bin.ok K).dl s HZ.out; have a3 : _ + _ < _ := HRM.out; show _ + _ < _; omega⟩
    case round =>
      obtain ⟨i, s1, rfl, hi0, hk, hi1, hk1, hr, hrm⟩ := hrel
      have HRM1 := Lib.hid hrm
      clear hrm
      by_cases hin : i < n
      · cases gk with
        | zero => omega
        | succ k =>
        have HK := Lib.hid hk
        have HR := Lib.hid hr
        clear hr hk
        go_wp2_with fail
        refine (ih (deep - 1) t _ wr HD.out (by omega) (by omega) hi1 HRM1.out).mono ?_
        rintro e w3 ⟨ev, rfl, hp3⟩
        rw [HTT.out] at hp3
        by_cases hz3 : (skp (Bin.pr K) d ((Bin.pr K).lT s) s1).1 = 0
        · have hev : ev = .nilIface := by have := hp3.err; rw [hz3] at this; exact this.isNil
          subst hev
          have HZ3 := Lib.hid hz3
          clear hz3
          go_wp2_with fail
          go_roundg k
          case measure => exact Nat.lt_succ_self _
          case rel =>
            refine ⟨i + 1, _, rfl, by omega, by have := HK.out; omega, hp3.inv HZ3.out, hk1.then hp3.keep, ?_, ?_⟩
            · rw [← HR.out, rep_ok HZ3.out]
            · have a1 := skp_len (Bin.ok K) d _ _ HZ3.out
              have a2 := skp_dep (Bin.ok K) d _ _ HZ3.out
              have a3 : _ + _ < _ := HRM1.out
              show _ + _ < _
              omega
        · obtain ⟨tt, x, rfl⟩ := hp3.err.held hz3
          have HZ3 := Lib.hid hz3
          clear hz3
          go_wp2_with fail
          go_ret
          have e2 : tot = skp (Bin.pr K) d ((Bin.pr K).lT s) s1 := by
            rw [← HR.out, rep_bad HZ3.out]
          have e1 : endby (Bin.pr K).leS tot = skp (Bin.pr K) d ((Bin.pr K).lT s) s1 := by rw [e2]; exact endby_bad HZ3.out
          rw [e1]
          exact ⟨_, rfl, Bin.Post.onto hk1 hp3⟩
      · have hk0 : gk = 0 := by omega
        subst hk0
        have HR := Lib.hid hr
        clear hr hk
        go_wp2_with fail
        refine (Bin.readListEnd hi1).mono ?_
        rintro e w4 ⟨rfl, hp4⟩
        go_wp2_with fail
        go_ret
        exact ⟨_, rfl, .tot (by rw [← HR.out]; rfl) (Bin.Post.onto hk1 hp4)⟩
  · have e0 : skp (Bin.pr K) (d + 1) 15 s = ((Bin.pr K).lK s, (Bin.pr K).lS s) := by simp [skp, isSc, hz]
    rw [e0]
    have HZ := Lib.hid hz
    clear hz e0
    go_enter Tryz.func38, Tryz.ntmps38
    go_wp2_with fail
    refine (Bin.readListBegin h).mono ?_
    rintro e w1 ⟨t, n, ev, rfl, hp1, hv1⟩
    obtain ⟨tt, x, rfl⟩ := hp1.err.held HZ.out
    clear hv1
    go_wp2_with fail
    go_ret
    exact ⟨_, rfl, hp1⟩

set_option maxRecDepth 100000 in
set_option maxHeartbeats 8000000 in
theorem Bin.skip_set (K : Bin.Ctx) (d : Nat) (ih : Bin.Skips K d) (deep : Int) (s : Bin.St) (w : World) (hdd : deep.toNat = d + 1) (hd : 0 < deep) (hhi : deep ≤ 9223372036854775807) (h : Bin.Inv K s w) (hroom : (Bin.pr K).Room s) :
    Calls Tryz.prog 38 #[ctxV, .iface 112 (.pointer (some ⟨K.P, 0, none⟩)), .int .u8 14, .int .i64 deep] w fun e w' => ∃ ev, e = .returned ev ∧ Bin.Post K w w' (skp (Bin.pr K) (d + 1) 14 s).1 ev (skp (Bin.pr K) (d + 1) 14 s).2 := by
  by_cases hz : (Bin.pr K).lK s = 0
  · obtain ⟨tot, htot⟩ : ∃ tot, rep (skp (Bin.pr K) d ((Bin.pr K).lT s)) ((Bin.pr K).lN s).toNat ((Bin.pr K).lS s) = tot := ⟨_, rfl⟩
    have e0 : skp (Bin.pr K) (d + 1) 14 s = endby (Bin.pr K).leS tot := by rw [← htot]; simp [skp, isSc, hz]
    rw [e0]
    have HT := Lib.hid htot
    clear htot e0
    have hd1 : (deep - 1).toNat = d := by omega
    have HD := Lib.hid hd1
    have HRM := Lib.hid hroom
    clear hroom
    have HDD := Lib.hid hdd
    have HZ := Lib.hid hz
    clear hd1 hdd hz
    go_enter Tryz.func38, Tryz.ntmps38
    go_wp2_with fail
    refine (Bin.readSetBegin h).mono ?_
    rintro e w1 ⟨t, n, ev, rfl, hp1, hv1⟩
    have hev : ev = .nilIface := by have := hp1.err; rw [HZ.out] at this; exact this.isNil
    subst hev
    obtain ⟨ht, hn⟩ := hv1 HZ.out
    have hnb : n ≤ 2147483647 := by rw [hn]; exact (Bin.ok K).lb s
    have HTT := Lib.hid ht
    have HN := Lib.hid hn
    clear hv1 ht hn
    go_wp2_with fail
    go_loopg [187] n.toNat (fun k v wr => Bin.RepRel K w (skp (Bin.pr K) d ((Bin.pr K).lT s)) n tot k v wr)
    case atStart => exact ⟨0, _, rfl, by omega, by rw [Int.sub_zero], hp1.inv HZ.out, hp1.keep, by rw [HN.out]; exact HT.out, by have a1 := (Bin.ok K).l s HZ.out; have a2 := (Bin.ok K).dl s HZ.out; have a3 : _ + _ < _ := HRM.out; show _ + _ < _; omega⟩
    case round =>
      obtain ⟨i, s1, rfl, hi0, hk, hi1, hk1, hr, hrm⟩ := hrel
      have HRM1 := Lib.hid hrm
      clear hrm
      by_cases hin : i < n
      · cases gk with
        | zero => omega
        | succ k =>
        have HK := Lib.hid hk
        have HR := Lib.hid hr
        clear hr hk
        go_wp2_with fail
        refine (ih (deep - 1) t _ wr HD.out (by omega) (by omega) hi1 HRM1.out).mono ?_
        rintro e w3 ⟨ev, rfl, hp3⟩
        rw [HTT.out] at hp3
        by_cases hz3 : (skp (Bin.pr K) d ((Bin.pr K).lT s) s1).1 = 0
        · have hev : ev = .nilIface := by have := hp3.err; rw [hz3] at this; exact this.isNil
          subst hev
          have HZ3 := Lib.hid hz3
          clear hz3
          go_wp2_with fail
          go_roundg k
          case measure => exact Nat.lt_succ_self _
          case rel =>
            refine ⟨i + 1, _, rfl, by omega, by have := HK.out; omega, hp3.inv HZ3.out, hk1.then hp3.keep, ?_, ?_⟩
            · rw [← HR.out, rep_ok HZ3.out]
            · have a1 := skp_len (Bin.ok K) d _ _ HZ3.out
              have a2 := skp_dep (Bin.ok K) d _ _ HZ3.out
              have a3 : _ + _ < _ := HRM1.out
              show _ + _ < _
              omega
        · obtain ⟨tt, x, rfl⟩ := hp3.err.held hz3
          have HZ3 := Lib.hid hz3
          clear hz3
          go_wp2_with fail
          go_ret
          have e2 : tot = skp (Bin.pr K) d ((Bin.pr K).lT s) s1 := by
            rw [← HR.out, rep_bad HZ3.out]
          have e1 : endby (Bin.pr K).leS tot = skp (Bin.pr K) d ((Bin.pr K).lT s) s1 := by rw [e2]; exact endby_bad HZ3.out
          rw [e1]
          exact ⟨_, rfl, Bin.Post.onto hk1 hp3⟩
      · have hk0 : gk = 0 := by omega
        subst hk0
        have HR := Lib.hid hr
        clear hr hk
        go_wp2_with fail
        refine (Bin.readSetEnd hi1).mono ?_
        rintro e w4 ⟨rfl, hp4⟩
        go_wp2_with fail
        go_ret
        exact ⟨_, rfl, .tot (by rw [← HR.out]; rfl) (Bin.Post.onto hk1 hp4)⟩
  · have e0 : skp (Bin.pr K) (d + 1) 14 s = ((Bin.pr K).lK s, (Bin.pr K).lS s) := by simp [skp, isSc, hz]
    rw [e0]
    have HZ := Lib.hid hz
    clear hz e0
    go_enter Tryz.func38, Tryz.ntmps38
    go_wp2_with fail
    refine (Bin.readSetBegin h).mono ?_
    rintro e w1 ⟨t, n, ev, rfl, hp1, hv1⟩
    obtain ⟨tt, x, rfl⟩ := hp1.err.held HZ.out
    clear hv1
    go_wp2_with fail
    go_ret
    exact ⟨_, rfl, hp1⟩

set_option maxRecDepth 100000 in
set_option maxHeartbeats 8000000 in
theorem Bin.skip_map (K : Bin.Ctx) (d : Nat) (ih : Bin.Skips K d) (deep : Int) (s : Bin.St) (w : World) (hdd : deep.toNat = d + 1) (hd : 0 < deep) (hhi : deep ≤ 9223372036854775807) (h : Bin.Inv K s w) (hroom : (Bin.pr K).Room s) :
    Calls Tryz.prog 38 #[ctxV, .iface 112 (.pointer (some ⟨K.P, 0, none⟩)), .int .u8 13, .int .i64 deep] w fun e w' => ∃ ev, e = .returned ev ∧ Bin.Post K w w' (skp (Bin.pr K) (d + 1) 13 s).1 ev (skp (Bin.pr K) (d + 1) 13 s).2 := by
  by_cases hz : (Bin.pr K).mK s = 0
  · obtain ⟨tot, htot⟩ : ∃ tot, rep (twice (skp (Bin.pr K) d ((Bin.pr K).mKT s)) (skp (Bin.pr K) d ((Bin.pr K).mT s))) ((Bin.pr K).mN s).toNat ((Bin.pr K).mS s) = tot := ⟨_, rfl⟩
    have e0 : skp (Bin.pr K) (d + 1) 13 s = endby (Bin.pr K).meS tot := by rw [← htot]; simp [skp, isSc, hz]
    rw [e0]
    have HT := Lib.hid htot
    clear htot e0
    have hd1 : (deep - 1).toNat = d := by omega
    have HD := Lib.hid hd1
    have HRM := Lib.hid hroom
    clear hroom
    have HDD := Lib.hid hdd
    have HZ := Lib.hid hz
    clear hd1 hdd hz
    go_enter Tryz.func38, Tryz.ntmps38
    go_wp2_with fail
    refine (Bin.readMapBegin h).mono ?_
    rintro e w1 ⟨kt, t, n, ev, rfl, hp1, hv1⟩
    have hev : ev = .nilIface := by have := hp1.err; rw [HZ.out] at this; exact this.isNil
    subst hev
    obtain ⟨hkt, ht, hn⟩ := hv1 HZ.out
    have hnb : n ≤ 2147483647 := by rw [hn]; exact (Bin.ok K).mb s
    have HKT := Lib.hid hkt
    have HTT := Lib.hid ht
    have HN := Lib.hid hn
    clear hv1 ht hn hkt
    go_wp2_with fail
    go_loopg [150] n.toNat (fun k v wr => Bin.RepRel K w (twice (skp (Bin.pr K) d ((Bin.pr K).mKT s)) (skp (Bin.pr K) d ((Bin.pr K).mT s))) n tot k v wr)
    case atStart => exact ⟨0, _, rfl, by omega, by rw [Int.sub_zero], hp1.inv HZ.out, hp1.keep, by rw [HN.out]; exact HT.out, by have a1 := (Bin.ok K).m s HZ.out; have a2 := (Bin.ok K).dm s HZ.out; have a3 : _ + _ < _ := HRM.out; show _ + _ < _; omega⟩
    case round =>
      obtain ⟨i, s1, rfl, hi0, hk, hi1, hk1, hr, hrm⟩ := hrel
      have HRM1 := Lib.hid hrm
      clear hrm
      by_cases hin : i < n
      · cases gk with
        | zero => omega
        | succ k =>
        have HK := Lib.hid hk
        have HR := Lib.hid hr
        clear hr hk
        go_wp2_with fail
        refine (ih (deep - 1) kt _ wr HD.out (by omega) (by omega) hi1 HRM1.out).mono ?_
        rintro e w3 ⟨ev, rfl, hp3⟩
        rw [HKT.out] at hp3
        by_cases hz3 : (skp (Bin.pr K) d ((Bin.pr K).mKT s) s1).1 = 0
        · have hev : ev = .nilIface := by have := hp3.err; rw [hz3] at this; exact this.isNil
          subst hev
          have HZ3 := Lib.hid hz3
          clear hz3
          go_wp2_with fail
          refine (ih (deep - 1) t _ w3 HD.out (by omega) (by omega) (hp3.inv HZ3.out) (by have a1 := skp_len (Bin.ok K) d _ _ HZ3.out; have a2 := skp_dep (Bin.ok K) d _ _ HZ3.out; have a3 : _ + _ < _ := HRM1.out; show _ + _ < _; omega)).mono ?_
          rintro e w4 ⟨ev, rfl, hp4⟩
          rw [HTT.out] at hp4
          by_cases hz4 : (skp (Bin.pr K) d ((Bin.pr K).mT s) (skp (Bin.pr K) d ((Bin.pr K).mKT s) s1).2).1 = 0
          · have hev : ev = .nilIface := by have := hp4.err; rw [hz4] at this; exact this.isNil
            subst hev
            have HZ4 := Lib.hid hz4
            clear hz4
            go_wp2_with fail
            go_roundg k
            case measure => exact Nat.lt_succ_self _
            case rel =>
              refine ⟨i + 1, _, rfl, by omega, by have := HK.out; omega, hp4.inv HZ4.out, (hk1.then hp3.keep).then hp4.keep, ?_, ?_⟩
              · rw [← HR.out, rep_ok (by rw [twice_ok HZ3.out]; exact HZ4.out), twice_ok HZ3.out]
              · have a1 := skp_len (Bin.ok K) d _ _ HZ3.out
                have a2 := skp_dep (Bin.ok K) d _ _ HZ3.out
                have a4 := skp_len (Bin.ok K) d _ _ HZ4.out
                have a5 := skp_dep (Bin.ok K) d _ _ HZ4.out
                have a3 : _ + _ < _ := HRM1.out
                show _ + _ < _
                omega
          · obtain ⟨tt, x, rfl⟩ := hp4.err.held hz4
            have HZ4 := Lib.hid hz4
            clear hz4
            go_wp2_with fail
            go_ret
            have e2 : tot = skp (Bin.pr K) d ((Bin.pr K).mT s) (skp (Bin.pr K) d ((Bin.pr K).mKT s) s1).2 := by
              rw [← HR.out, rep_bad (by rw [twice_ok HZ3.out]; exact HZ4.out), twice_ok HZ3.out]
            have e1 : endby (Bin.pr K).meS tot = skp (Bin.pr K) d ((Bin.pr K).mT s) (skp (Bin.pr K) d ((Bin.pr K).mKT s) s1).2 := by rw [e2]; exact endby_bad HZ4.out
            rw [e1]
            exact ⟨_, rfl, Bin.Post.onto (hk1.then hp3.keep) hp4⟩
        · obtain ⟨tt, x, rfl⟩ := hp3.err.held hz3
          have HZ3 := Lib.hid hz3
          clear hz3
          go_wp2_with fail
          go_ret
          have e2 : tot = skp (Bin.pr K) d ((Bin.pr K).mKT s) s1 := by
            rw [← HR.out, rep_bad (by rw [twice_bad HZ3.out]; exact HZ3.out), twice_bad HZ3.out]
          have e1 : endby (Bin.pr K).meS tot = skp (Bin.pr K) d ((Bin.pr K).mKT s) s1 := by rw [e2]; exact endby_bad HZ3.out
          rw [e1]
          exact ⟨_, rfl, Bin.Post.onto hk1 hp3⟩
      · have hk0 : gk = 0 := by omega
        subst hk0
        have HR := Lib.hid hr
        clear hr hk
        go_wp2_with fail
        refine (Bin.readMapEnd hi1).mono ?_
        rintro e w4 ⟨rfl, hp4⟩
        go_wp2_with fail
        go_ret
        exact ⟨_, rfl, .tot (by rw [← HR.out]; rfl) (Bin.Post.onto hk1 hp4)⟩
  · have e0 : skp (Bin.pr K) (d + 1) 13 s = ((Bin.pr K).mK s, (Bin.pr K).mS s) := by simp [skp, isSc, hz]
    rw [e0]
    have HZ := Lib.hid hz
    clear hz e0
    go_enter Tryz.func38, Tryz.ntmps38
    go_wp2_with fail
    refine (Bin.readMapBegin h).mono ?_
    rintro e w1 ⟨kt, t, n, ev, rfl, hp1, hv1⟩
    obtain ⟨tt, x, rfl⟩ := hp1.err.held HZ.out
    clear hv1
    go_wp2_with fail
    go_ret
    exact ⟨_, rfl, hp1⟩

theorem Bin.skips (K : Bin.Ctx) (d : Nat) : Bin.Skips K d := by
  induction d with
  | zero => exact Bin.skip_zero K
  | succ d ih =>
    intro deep t s w hd hlo hhi h hroom
    have hd0 : 0 < deep := by omega
    by_cases hsc : isSc t = true
    · have e : skp (Bin.pr K) (d + 1) t s = ((Bin.pr K).scK t s, (Bin.pr K).scS t s) := by simp only [skp]; rw [if_pos hsc]
      rw [e]
      exact Bin.skip_scalar K d deep t s w hd0 hhi h hsc
    · by_cases h12 : t = 12
      · subst h12
        have e : skp (Bin.pr K) (d + 1) 12 s = flds (Bin.pr K) (skp (Bin.pr K) d) ((Bin.pr K).len ((Bin.pr K).sbS s) + 1) ((Bin.pr K).sbS s) := by simp [skp, isSc]
        rw [e]
        exact Bin.skip_struct K d ih deep s w hd hd0 hhi h hroom
      · by_cases h13 : t = 13
        · subst h13; exact Bin.skip_map K d ih deep s w hd hd0 hhi h hroom
        · by_cases h14 : t = 14
          · subst h14; exact Bin.skip_set K d ih deep s w hd hd0 hhi h hroom
          · by_cases h15 : t = 15
            · subst h15; exact Bin.skip_list K d ih deep s w hd hd0 hhi h hroom
            · have e : skp (Bin.pr K) (d + 1) t s = (11, s) := by
                simp only [skp]; rw [if_neg hsc, if_neg h12, if_neg h13, if_neg (by omega)]
              rw [e]
              exact Bin.skip_other K deep t s w hd0 hhi h (by simpa using hsc) h12 h13 h14 h15

end Go.Proofs.YtpfifpgbnhdjnaaGreatDoor
