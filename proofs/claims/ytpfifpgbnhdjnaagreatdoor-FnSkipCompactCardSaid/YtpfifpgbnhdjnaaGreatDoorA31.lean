/- Part 31 of the proof: SkipCmp, Skip2Cmp, Skip3Cmp. -/
import Derived.Test.YtpfifpgbnhdjnaaGreatDoorA30
import Derived.Deep.LoopGhost
set_option linter.unusedVariables false
set_option linter.unusedSimpArgs false
set_option linter.unusedSectionVars false
/- thrift.Skip over a protocol: how a value is passed over, by induction on the depth. -/
namespace Go.Proofs.YtpfifpgbnhdjnaaGreatDoor
open Go Go.RowKit

/-- What a call of Skip brings about. -/
abbrev Cmp.Skips (K : Cmp.Ctx) (d : Nat) : Prop := ∀ (deep t : Int) (s : Cmp.St) (w : World), deep.toNat = d → -9223372036854775808 ≤ deep → deep ≤ 9223372036854775807 → Cmp.Inv K s w → (Cmp.pr K).Room s →
  Calls Tryz.prog 38 #[ctxV, .iface 108 (.pointer (some ⟨K.P, 0, none⟩)), .int .u8 t, .int .i64 deep] w fun e w' => ∃ ev, e = .returned ev ∧ Cmp.Post K w w' (skp (Cmp.pr K) d t s).1 ev (skp (Cmp.pr K) d t s).2

set_option maxRecDepth 100000 in
set_option maxHeartbeats 2000000 in
theorem Cmp.skip_zero (K : Cmp.Ctx) : Cmp.Skips K 0 := by
  intro deep t s w hd hlo hhi h _
  have hle : deep ≤ 0 := by omega
  go_enter Tryz.func38, Tryz.ntmps38
  go_wp2_with fail
  refine (errNew _ _).mono ?_
  rintro e w8 ⟨b, rfl, hb, _, hk8⟩
  go_wp2_with fail
  refine (newPExcT' (E := K.E) (n0 := w.heap.size) 6 (by omega) b 0 _ _ hb hk8.size).mono ?_
  rintro e w9 ⟨v, rfl, hv, hk9⟩
  go_wp2_with fail
  go_ret
  exact ⟨_, rfl, .bad h (hk8.then hk9) hv (by simp [skp])⟩

set_option maxRecDepth 100000 in
set_option maxHeartbeats 4000000 in
theorem Cmp.skip_scalar (K : Cmp.Ctx) (d : Nat) (deep t : Int) (s : Cmp.St) (w : World) (hd : 0 < deep) (hhi : deep ≤ 9223372036854775807) (h : Cmp.Inv K s w) (ht : isSc t = true) :
    Calls Tryz.prog 38 #[ctxV, .iface 108 (.pointer (some ⟨K.P, 0, none⟩)), .int .u8 t, .int .i64 deep] w fun e w' => ∃ ev, e = .returned ev ∧ Cmp.Post K w w' ((Cmp.pr K).scK t s) ev ((Cmp.pr K).scS t s) := by
  have ht : t = 2 ∨ t = 3 ∨ t = 6 ∨ t = 8 ∨ t = 10 ∨ t = 4 ∨ t = 11 ∨ t = 16 := by simpa [isSc, or_assoc] using ht
  rcases ht with rfl | rfl | rfl | rfl | rfl | rfl | rfl | rfl
  · go_enter Tryz.func38, Tryz.ntmps38
    go_wp2_with fail
    refine (Cmp.readBool h).mono ?_
    rintro e w1 ⟨v, ev, rfl, hp, _⟩
    go_wp2_with fail
    go_ret
    exact ⟨_, rfl, hp⟩
  · go_enter Tryz.func38, Tryz.ntmps38
    go_wp2_with fail
    refine (Cmp.readByte h).mono ?_
    rintro e w1 ⟨v, ev, rfl, hp, _⟩
    go_wp2_with fail
    go_ret
    exact ⟨_, rfl, hp⟩
  · go_enter Tryz.func38, Tryz.ntmps38
    go_wp2_with fail
    refine (Cmp.readI16 h).mono ?_
    rintro e w1 ⟨v, ev, rfl, hp, _⟩
    go_wp2_with fail
    go_ret
    exact ⟨_, rfl, hp⟩
  · go_enter Tryz.func38, Tryz.ntmps38
    go_wp2_with fail
    refine (Cmp.readI32 h).mono ?_
    rintro e w1 ⟨v, ev, rfl, hp, _⟩
    go_wp2_with fail
    go_ret
    exact ⟨_, rfl, hp⟩
  · go_enter Tryz.func38, Tryz.ntmps38
    go_wp2_with fail
    refine (Cmp.readI64 h).mono ?_
    rintro e w1 ⟨v, ev, rfl, hp, _⟩
    go_wp2_with fail
    go_ret
    exact ⟨_, rfl, hp⟩
  · go_enter Tryz.func38, Tryz.ntmps38
    go_wp2_with fail
    refine (Cmp.readDouble h).mono ?_
    rintro e w1 ⟨v, ev, rfl, hp, _⟩
    go_wp2_with fail
    go_ret
    exact ⟨_, rfl, hp⟩
  · go_enter Tryz.func38, Tryz.ntmps38
    go_wp2_with fail
    refine (Cmp.readString h).mono ?_
    rintro e w1 ⟨v, ev, rfl, hp, _⟩
    go_wp2_with fail
    go_ret
    exact ⟨_, rfl, hp⟩
  · go_enter Tryz.func38, Tryz.ntmps38
    go_wp2_with fail
    refine (Cmp.readUUID h).mono ?_
    rintro e w1 ⟨v, ev, rfl, hp, _⟩
    go_wp2_with fail
    go_ret
    exact ⟨_, rfl, hp⟩

set_option maxRecDepth 100000 in
set_option maxHeartbeats 4000000 in
theorem Cmp.skip_other (K : Cmp.Ctx) (deep t : Int) (s : Cmp.St) (w : World) (hd : 0 < deep) (hhi : deep ≤ 9223372036854775807) (h : Cmp.Inv K s w) (ht : isSc t = false) (h12 : ¬ t = 12) (h13 : ¬ t = 13) (h14 : ¬ t = 14) (h15 : ¬ t = 15) :
    Calls Tryz.prog 38 #[ctxV, .iface 108 (.pointer (some ⟨K.P, 0, none⟩)), .int .u8 t, .int .i64 deep] w fun e w' => ∃ ev, e = .returned ev ∧ Cmp.Post K w w' 11 ev s := by
  obtain ⟨n2, n3, n6, n8, n10, n4, n11, n16⟩ : (¬ t = 2) ∧ (¬ t = 3) ∧ (¬ t = 6) ∧ (¬ t = 8) ∧ (¬ t = 10) ∧ (¬ t = 4) ∧ (¬ t = 11) ∧ (¬ t = 16) := by simpa [isSc, and_assoc] using ht
  go_enter Tryz.func38, Tryz.ntmps38
  go_wp2_with fail
  refine (errNew _ _).mono ?_
  rintro e w8 ⟨b, rfl, hb, _, hk8⟩
  go_wp2_with fail
  refine (newPExcT' (E := K.E) (n0 := w.heap.size) 1 (by omega) b 0 _ _ hb hk8.size).mono ?_
  rintro e w9 ⟨v, rfl, hv, hk9⟩
  go_wp2_with fail
  go_ret
  exact ⟨_, rfl, .bad h (hk8.then hk9) hv (by decide)⟩

end Go.Proofs.YtpfifpgbnhdjnaaGreatDoor

/- thrift.Skip over a protocol: structs. -/
namespace Go.Proofs.YtpfifpgbnhdjnaaGreatDoor
open Go Go.RowKit

/-- What holds ahead of each field: tot is what the whole fields make. -/
def Cmp.FldRel (K : Cmp.Ctx) (w : World) (f : Int → Cmp.St → Int × Cmp.St) (tot : Int × Cmp.St) (b k : Nat) (wr : World) : Prop :=
  ∃ s, Cmp.Inv K s wr ∧ Kpt (Cmp.M K) w wr ∧ (Cmp.pr K).len s < k ∧ flds (Cmp.pr K) f k s = tot ∧ (Cmp.pr K).one ≤ (Cmp.pr K).dep s ∧ (Cmp.pr K).len s + (Cmp.pr K).dep s ≤ b

set_option maxRecDepth 100000 in
set_option maxHeartbeats 8000000 in
theorem Cmp.skip_struct (K : Cmp.Ctx) (d : Nat) (ih : Cmp.Skips K d) (deep : Int) (s : Cmp.St) (w : World) (hdd : deep.toNat = d + 1) (hd : 0 < deep) (hhi : deep ≤ 9223372036854775807) (h : Cmp.Inv K s w) (hroom : (Cmp.pr K).Room s) :
    Calls Tryz.prog 38 #[ctxV, .iface 108 (.pointer (some ⟨K.P, 0, none⟩)), .int .u8 12, .int .i64 deep] w fun e w' => ∃ ev, e = .returned ev ∧ Cmp.Post K w w' (flds (Cmp.pr K) (skp (Cmp.pr K) d) ((Cmp.pr K).len ((Cmp.pr K).sbS s) + 1) ((Cmp.pr K).sbS s)).1 ev (flds (Cmp.pr K) (skp (Cmp.pr K) d) ((Cmp.pr K).len ((Cmp.pr K).sbS s) + 1) ((Cmp.pr K).sbS s)).2 := by
  obtain ⟨tot, htot⟩ : ∃ tot, flds (Cmp.pr K) (skp (Cmp.pr K) d) ((Cmp.pr K).len ((Cmp.pr K).sbS s) + 1) ((Cmp.pr K).sbS s) = tot := ⟨_, rfl⟩
  rw [htot]
  have HT := Lib.hid htot
  clear htot
  have hd1 : (deep - 1).toNat = d := by omega
  have HD := Lib.hid hd1
  have hR : (Cmp.pr K).len s + (Cmp.pr K).dep s < 1099511627776 := hroom
  have HRM := Lib.hid hR
  clear hroom hR
  have HDD := Lib.hid hdd
  clear hd1 hdd
  go_enter Tryz.func38, Tryz.ntmps38
  go_wp2_with fail
  refine (Cmp.readStructBegin h (by have := HRM.out; omega)).mono ?_
  rintro e w1 ⟨l, rfl, hp1⟩
  go_wp2_with fail
  go_loopg [] ((Cmp.pr K).len ((Cmp.pr K).sbS s) + 1) (fun k wr => Cmp.FldRel K w (skp (Cmp.pr K) d) tot ((Cmp.pr K).len s + (Cmp.pr K).dep s + (Cmp.pr K).one) k wr)
  case atStart => exact ⟨_, hp1.inv rfl, hp1.keep, Nat.lt_succ_self _, HT.out, by rw [(Cmp.ok K).dsb]; omega, by rw [(Cmp.ok K).dsb]; have := (Cmp.ok K).sb s; omega⟩
  case round =>
    obtain ⟨s1, hi1, hk1, hlt, hfl, hdp⟩ := hrel
    have HDP := Lib.hid hdp
    clear hdp
    cases gk with
    | zero => exact absurd hlt (Nat.not_lt_zero _)
    | succ k =>
    have HF := Lib.hid hfl
    have HLT := Lib.hid hlt
    clear hfl hlt
    go_wp2_with fail
    refine (Cmp.readFieldBegin hi1).mono ?_
    rintro e w2 ⟨l2, t, id, ev, rfl, hp2, hv2⟩
    by_cases hz : (Cmp.pr K).fK s1 = 0
    · have hev : ev = .nilIface := by have := hp2.err; rw [hz] at this; exact this.isNil
      subst hev
      obtain ⟨ht, hid2⟩ := hv2 hz
      have HZ := Lib.hid hz
      clear hv2 hz hid2
      by_cases ht0 : t = 0
      · subst ht0
        have HT0 := Lib.hid ht
        clear ht
        go_wp2_with fail
        refine (Cmp.readStructEnd (hp2.inv HZ.out) (by rw [(Cmp.ok K).df s1 HZ.out]; exact HDP.out.1)).mono ?_
        rintro e w3 ⟨rfl, hp3⟩
        go_wp2_with fail
        go_ret
        have e1 : tot = (0, (Cmp.pr K).seS ((Cmp.pr K).fS s1)) := by
          rw [← HF.out]; simp only [flds]; rw [if_pos HZ.out, if_pos HT0.out.symm]
        rw [e1]
        exact ⟨_, rfl, (Cmp.Post.onto hk1 hp2).then hp3⟩
      · have HT0 := Lib.hid ht
        clear ht
        go_wp2_with fail
        refine (ih (deep - 1) t _ w2 HD.out (by omega) (by omega) (hp2.inv HZ.out) (by have a1 := (Cmp.ok K).df s1 HZ.out; have a2 := (Cmp.ok K).f s1 HZ.out; have a3 := HDP.out.2; have a4 := (Cmp.ok K).one1; have a5 := HRM.out; show _ + _ < _; omega)).mono ?_
        rintro e w3 ⟨ev, rfl, hp3⟩
        rw [HT0.out] at hp3
        have hne : ¬ (Cmp.pr K).fT s1 = 0 := fun hh => ht0 (HT0.out.trans hh)
        by_cases hz3 : (skp (Cmp.pr K) d ((Cmp.pr K).fT s1) ((Cmp.pr K).fS s1)).1 = 0
        · have hev : ev = .nilIface := by have := hp3.err; rw [hz3] at this; exact this.isNil
          subst hev
          have HZ3 := Lib.hid hz3
          have HNE := Lib.hid hne
          clear hz3 hne
          go_wp2_with fail
          refine (Cmp.readFieldEnd (hp3.inv HZ3.out)).mono ?_
          rintro e w4 ⟨rfl, hp4⟩
          go_wp2_with fail
          go_roundg k
          case measure => exact Nat.lt_succ_self _
          case rel =>
            refine ⟨_, hp4.inv rfl, ((hk1.then hp2.keep).then hp3.keep).then hp4.keep, ?_, ?_, ?_⟩
            · have ok := Cmp.ok K
              have a1 := ok.fe (skp (Cmp.pr K) d ((Cmp.pr K).fT s1) ((Cmp.pr K).fS s1)).2
              have a2 := skp_len ok d _ _ HZ3.out
              have a3 := ok.f s1 HZ.out
              have a4 := HLT.out
              omega
            · rw [← HF.out]; simp only [flds]; rw [if_pos HZ.out, if_neg HNE.out, if_pos HZ3.out]
            · have ok := Cmp.ok K
              have a1 := ok.fe (skp (Cmp.pr K) d ((Cmp.pr K).fT s1) ((Cmp.pr K).fS s1)).2
              have a2 := skp_len ok d _ _ HZ3.out
              have a3 := ok.f s1 HZ.out
              have a4 := HDP.out
              have a5 := ok.dfe (skp (Cmp.pr K) d ((Cmp.pr K).fT s1) ((Cmp.pr K).fS s1)).2
              have a6 := skp_dep ok d _ _ HZ3.out
              have a7 := ok.df s1 HZ.out
              exact ⟨by omega, by omega⟩
        · obtain ⟨tt, x, rfl⟩ := hp3.err.held hz3
          have HZ3 := Lib.hid hz3
          have HNE := Lib.hid hne
          clear hz3 hne
          go_wp2_with fail
          go_ret
          have e1 : tot = skp (Cmp.pr K) d ((Cmp.pr K).fT s1) ((Cmp.pr K).fS s1) := by
            rw [← HF.out]; simp only [flds]; rw [if_pos HZ.out, if_neg HNE.out, if_neg HZ3.out]
          rw [e1]
          exact ⟨_, rfl, Cmp.Post.onto (hk1.then hp2.keep) hp3⟩
    · obtain ⟨tt, x, rfl⟩ := hp2.err.held hz
      have HZ := Lib.hid hz
      clear hv2 hz
      go_wp2_with fail
      go_ret
      have e1 : tot = ((Cmp.pr K).fK s1, (Cmp.pr K).fS s1) := by
        rw [← HF.out]; simp only [flds]; rw [if_neg HZ.out]
      rw [e1]
      exact ⟨_, rfl, Cmp.Post.onto hk1 hp2⟩

end Go.Proofs.YtpfifpgbnhdjnaaGreatDoor

/- thrift.Skip over a protocol: maps, lists, sets; every value. -/
namespace Go.Proofs.YtpfifpgbnhdjnaaGreatDoor
open Go Go.RowKit

/-- What holds ahead of each element: k are still to come, tot is what all of them make. -/
def Cmp.RepRel (K : Cmp.Ctx) (w : World) (f : Cmp.St → Int × Cmp.St) (n : Int) (tot : Int × Cmp.St) (k : Nat) (v : Value) (wr : World) : Prop :=
  ∃ i s, v = .int .i64 i ∧ 0 ≤ i ∧ k = (n - i).toNat ∧ Cmp.Inv K s wr ∧ Kpt (Cmp.M K) w wr ∧ rep f k s = tot ∧ (Cmp.pr K).Room s

theorem Cmp.Post.tot {K : Cmp.Ctx} {w w' : World} {ev : Value} {r : Int × Cmp.St} {k : Int} {s : Cmp.St} (e : r = (k, s)) (h : Cmp.Post K w w' k ev s) : Cmp.Post K w w' r.1 ev r.2 := by rw [e]; exact h

set_option maxRecDepth 100000 in
set_option maxHeartbeats 8000000 in
theorem Cmp.skip_list (K : Cmp.Ctx) (d : Nat) (ih : Cmp.Skips K d) (deep : Int) (s : Cmp.St) (w : World) (hdd : deep.toNat = d + 1) (hd : 0 < deep) (hhi : deep ≤ 9223372036854775807) (h : Cmp.Inv K s w) (hroom : (Cmp.pr K).Room s) :
    Calls Tryz.prog 38 #[ctxV, .iface 108 (.pointer (some ⟨K.P, 0, none⟩)), .int .u8 15, .int .i64 deep] w fun e w' => ∃ ev, e = .returned ev ∧ Cmp.Post K w w' (skp (Cmp.pr K) (d + 1) 15 s).1 ev (skp (Cmp.pr K) (d + 1) 15 s).2 := by
  by_cases hz : (Cmp.pr K).lK s = 0
  · obtain ⟨tot, htot⟩ : ∃ tot, rep (skp (Cmp.pr K) d ((Cmp.pr K).lT s)) ((Cmp.pr K).lN s).toNat ((Cmp.pr K).lS s) = tot := ⟨_, rfl⟩
    have e0 : skp (Cmp.pr K) (d + 1) 15 s = endby (Cmp.pr K).leS tot := by rw [← htot]; simp [skp, isSc, hz]
    rw [e0]
    have HT := Lib.hid htot
    clear htot e0
    have hd1 : (deep - 1).toNat = d := by omega
    have HD := Lib.hid hd1
    have HRM := Lib.hid hroom
    clear hroom
    have HDD := Lib.hid hdd
    have HZ := Lib.hid hz
    clear hd1 hdd hz
    go_enter Tryz.func38, Tryz.ntmps38
    go_wp2_with fail
    refine (Cmp.readListBegin h).mono ?_
    rintro e w1 ⟨t, n, ev, rfl, hp1, hv1⟩
    have hev : ev = .nilIface := by have := hp1.err; rw [HZ.out] at this; exact this.isNil
    subst hev
    obtain ⟨ht, hn⟩ := hv1 HZ.out
    have hnb : n ≤ 2147483647 := by rw [hn]; exact (Cmp.ok K).lb s
    have HTT := Lib.hid ht
    have HN := Lib.hid hn
    clear hv1 ht hn
    go_wp2_with fail
    go_loopg [215] n.toNat (fun k v wr => Cmp.RepRel K w (skp (Cmp.pr K) d ((Cmp.pr K).lT s)) n tot k v wr)
    case atStart => exact ⟨0, _, rfl, by omega, by rw [Int.sub_zero], hp1.inv HZ.out, hp1.keep, by rw [HN.out]; exact HT.out, by have a1 := (Cmp.ok K).l s HZ.out; have a2 := (Cmp.ok K).dl s HZ.out; have a3 : _ + _ < _ := HRM.out; show _ + _ < _; omega⟩
    case round =>
      obtain ⟨i, s1, rfl, hi0, hk, hi1, hk1, hr, hrm⟩ := hrel
      have HRM1 := Lib.hid hrm
      clear hrm
      by_cases hin : i < n
      · cases gk with
        | zero => omega
        | succ k =>
        have HK := Lib.hid hk
        have HR := Lib.hid hr
        clear hr hk
        go_wp2_with fail
        refine (ih (deep - 1) t _ wr HD.out (by omega) (by omega) hi1 HRM1.out).mono ?_
        rintro e w3 ⟨ev, rfl, hp3⟩
        rw [HTT.out] at hp3
        by_cases hz3 : (skp (Cmp.pr K) d ((Cmp.pr K).lT s) s1).1 = 0
        · have hev : ev = .nilIface := by have := hp3.err; rw [hz3] at this; exact this.isNil
          subst hev
          have HZ3 := Lib.hid hz3
          clear hz3
          go_wp2_with fail
          go_roundg k
          case measure => exact Nat.lt_succ_self _
          case rel =>
            refine ⟨i + 1, _, rfl, by omega, by have := HK.out; omega, hp3.inv HZ3.out, hk1.then hp3.keep, ?_, ?_⟩
            · rw [← HR.out, rep_ok HZ3.out]
            · have a1 := skp_len (Cmp.ok K) d _ _ HZ3.out
              have a2 := skp_dep (Cmp.ok K) d _ _ HZ3.out
              have a3 : _ + _ < _ := HRM1.out
              show _ + _ < _
              omega
        · obtain ⟨tt, x, rfl⟩ := hp3.err.held hz3
          have HZ3 := Lib.hid hz3
          clear hz3
          go_wp2_with fail
          go_ret
          have e2 : tot = skp (Cmp.pr K) d ((Cmp.pr K).lT s) s1 := by
            rw [← HR.out, rep_bad HZ3.out]
          have e1 : endby (Cmp.pr K).leS tot = skp (Cmp.pr K) d ((Cmp.pr K).lT s) s1 := by rw [e2]; exact endby_bad HZ3.out
          rw [e1]
          exact ⟨_, rfl, Cmp.Post.onto hk1 hp3⟩
      · have hk0 : gk = 0 := by omega
        subst hk0
        have HR := Lib.hid hr
        clear hr hk
        go_wp2_with fail
        refine (Cmp.readListEnd hi1).mono ?_
        rintro e w4 ⟨rfl, hp4⟩
        go_wp2_with fail
        go_ret
        exact ⟨_, rfl, .tot (by rw [← HR.out]; rfl) (Cmp.Post.onto hk1 hp4)⟩
  · have e0 : skp (Cmp.pr K) (d + 1) 15 s = ((Cmp.pr K).lK s, (Cmp.pr K).lS s) := by simp [skp, isSc, hz]
    rw [e0]
    have HZ := Lib.hid hz
    clear hz e0
    go_enter Tryz.func38, Tryz.ntmps38
    go_wp2_with fail
    refine (Cmp.readListBegin h).mono ?_
    rintro e w1 ⟨t, n, ev, rfl, hp1, hv1⟩
    obtain ⟨tt, x, rfl⟩ := hp1.err.held HZ.out
    clear hv1
    go_wp2_with fail
    go_ret
    exact ⟨_, rfl, hp1⟩

set_option maxRecDepth 100000 in
set_option maxHeartbeats 8000000 in
theorem Cmp.skip_set (K : Cmp.Ctx) (d : Nat) (ih : Cmp.Skips K d) (deep : Int) (s : Cmp.St) (w : World) (hdd : deep.toNat = d + 1) (hd : 0 < deep) (hhi : deep ≤ 9223372036854775807) (h : Cmp.Inv K s w) (hroom : (Cmp.pr K).Room s) :
    Calls Tryz.prog 38 #[ctxV, .iface 108 (.pointer (some ⟨K.P, 0, none⟩)), .int .u8 14, .int .i64 deep] w fun e w' => ∃ ev, e = .returned ev ∧ Cmp.Post K w w' (skp (Cmp.pr K) (d + 1) 14 s).1 ev (skp (Cmp.pr K) (d + 1) 14 s).2 := by
  by_cases hz : (Cmp.pr K).lK s = 0
  · obtain ⟨tot, htot⟩ : ∃ tot, rep (skp (Cmp.pr K) d ((Cmp.pr K).lT s)) ((Cmp.pr K).lN s).toNat ((Cmp.pr K).lS s) = tot := ⟨_, rfl⟩
    have e0 : skp (Cmp.pr K) (d + 1) 14 s = endby (Cmp.pr K).leS tot := by rw [← htot]; simp [skp, isSc, hz]
    rw [e0]
    have HT := Lib.hid htot
    clear htot e0
    have hd1 : (deep - 1).toNat = d := by omega
    have HD := Lib.hid hd1
    have HRM := Lib.hid hroom
    clear hroom
    have HDD := Lib.hid hdd
    have HZ := Lib.hid hz
    clear hd1 hdd hz
    go_enter Tryz.func38, Tryz.ntmps38
    go_wp2_with fail
    refine (Cmp.readSetBegin h).mono ?_
    rintro e w1 ⟨t, n, ev, rfl, hp1, hv1⟩
    have hev : ev = .nilIface := by have := hp1.err; rw [HZ.out] at this; exact this.isNil
    subst hev
    obtain ⟨ht, hn⟩ := hv1 HZ.out
    have hnb : n ≤ 2147483647 := by rw [hn]; exact (Cmp.ok K).lb s
    have HTT := Lib.hid ht
    have HN := Lib.hid hn
    clear hv1 ht hn
    go_wp2_with fail
    go_loopg [187] n.toNat (fun k v wr => Cmp.RepRel K w (skp (Cmp.pr K) d ((Cmp.pr K).lT s)) n tot k v wr)
    case atStart => exact ⟨0, _, rfl, by omega, by rw [Int.sub_zero], hp1.inv HZ.out, hp1.keep, by rw [HN.out]; exact HT.out, by have a1 := (Cmp.ok K).l s HZ.out; have a2 := (Cmp.ok K).dl s HZ.out; have a3 : _ + _ < _ := HRM.out; show _ + _ < _; omega⟩
    case round =>
      obtain ⟨i, s1, rfl, hi0, hk, hi1, hk1, hr, hrm⟩ := hrel
      have HRM1 := Lib.hid hrm
      clear hrm
      by_cases hin : i < n
      · cases gk with
        | zero => omega
        | succ k =>
        have HK := Lib.hid hk
        have HR := Lib.hid hr
        clear hr hk
        go_wp2_with fail
        refine (ih (deep - 1) t _ wr HD.out (by omega) (by omega) hi1 HRM1.out).mono ?_
        rintro e w3 ⟨ev, rfl, hp3⟩
        rw [HTT.out] at hp3
        by_cases hz3 : (skp (Cmp.pr K) d ((Cmp.pr K).lT s) s1).1 = 0
        · have hev : ev = .nilIface := by have := hp3.err; rw [hz3] at this; exact this.isNil
          subst hev
          have HZ3 := Lib.hid hz3
          clear hz3
          go_wp2_with fail
          go_roundg k
          case measure => exact Nat.lt_succ_self _
          case rel =>
            refine ⟨i + 1, _, rfl, by omega, by have := HK.out; omega, hp3.inv HZ3.out, hk1.then hp3.keep, ?_, ?_⟩
            · rw [← HR.out, rep_ok HZ3.out]
            · have a1 := skp_len (Cmp.ok K) d _ _ HZ3.out
              have a2 := skp_dep (Cmp.ok K) d _ _ HZ3.out
              have a3 : _ + _ < _ := HRM1.out
              show _ + _ < _
              omega
        · obtain ⟨tt, x, rfl⟩ := hp3.err.held hz3
          have HZ3 := Lib.hid hz3
          clear hz3
          go_wp2_with fail
          go_ret
          have e2 : tot = skp (Cmp.pr K) d ((Cmp.pr K).lT s) s1 := by
            rw [← HR.out, rep_bad HZ3.out]
          have e1 : endby (Cmp.pr K).leS tot = skp (Cmp.pr K) d ((Cmp.pr K).lT s) s1 := by rw [e2]; exact endby_bad HZ3.out
          rw [e1]
          exact ⟨_, rfl, Cmp.Post.onto hk1 hp3⟩
      · have hk0 : gk = 0 := by omega
        subst hk0
        have HR := Lib.hid hr
        clear hr hk
        go_wp2_with fail
        refine (Cmp.readSetEnd hi1).mono ?_
        rintro e w4 ⟨rfl, hp4⟩
        go_wp2_with fail
        go_ret
        exact ⟨_, rfl, .tot (by rw [← HR.out]; rfl) (Cmp.Post.onto hk1 hp4)⟩
  · have e0 : skp (Cmp.pr K) (d + 1) 14 s = ((Cmp.pr K).lK s, (Cmp.pr K).lS s) := by simp [skp, isSc, hz]
    rw [e0]
    have HZ := Lib.hid hz
    clear hz e0
    go_enter Tryz.func38, Tryz.ntmps38
    go_wp2_with fail
    refine (Cmp.readSetBegin h).mono ?_
    rintro e w1 ⟨t, n, ev, rfl, hp1, hv1⟩
    obtain ⟨tt, x, rfl⟩ := hp1.err.held HZ.out
    clear hv1
    go_wp2_with fail
    go_ret
    exact ⟨_, rfl, hp1⟩

set_option maxRecDepth 100000 in
set_option maxHeartbeats 8000000 in
theorem Cmp.skip_map (K : Cmp.Ctx) (d : Nat) (ih : Cmp.Skips K d) (deep : Int) (s : Cmp.St) (w : World) (hdd : deep.toNat = d + 1) (hd : 0 < deep) (hhi : deep ≤ 9223372036854775807) (h : Cmp.Inv K s w) (hroom : (Cmp.pr K).Room s) :
    Calls Tryz.prog 38 #[ctxV, .iface 108 (.pointer (some ⟨K.P, 0, none⟩)), .int .u8 13, .int .i64 deep] w fun e w' => ∃ ev, e = .returned ev ∧ Cmp.Post K w w' (skp (Cmp.pr K) (d + 1) 13 s).1 ev (skp (Cmp.pr K) (d + 1) 13 s).2 := by
  by_cases hz : (Cmp.pr K).mK s = 0
  · obtain ⟨tot, htot⟩ : ∃ tot, rep (twice (skp (Cmp.pr K) d ((Cmp.pr K).mKT s)) (skp (Cmp.pr K) d ((Cmp.pr K).mT s))) ((Cmp.pr K).mN s).toNat ((Cmp.pr K).mS s) = tot := ⟨_, rfl⟩
    have e0 : skp (Cmp.pr K) (d + 1) 13 s = endby (Cmp.pr K).meS tot := by rw [← htot]; simp [skp, isSc, hz]
    rw [e0]
    have HT := Lib.hid htot
    clear htot e0
    have hd1 : (deep - 1).toNat = d := by omega
    have HD := Lib.hid hd1
    have HRM := Lib.hid hroom
    clear hroom
    have HDD := Lib.hid hdd
    have HZ := Lib.hid hz
    clear hd1 hdd hz
    go_enter Tryz.func38, Tryz.ntmps38
    go_wp2_with fail
    refine (Cmp.readMapBegin h).mono ?_
    rintro e w1 ⟨kt, t, n, ev, rfl, hp1, hv1⟩
    have hev : ev = .nilIface := by have := hp1.err; rw [HZ.out] at this; exact this.isNil
    subst hev
    obtain ⟨hkt, ht, hn⟩ := hv1 HZ.out
    have hnb : n ≤ 2147483647 := by rw [hn]; exact (Cmp.ok K).mb s
    have HKT := Lib.hid hkt
    have HTT := Lib.hid ht
    have HN := Lib.hid hn
    clear hv1 ht hn hkt
    go_wp2_with fail
    go_loopg [150] n.toNat (fun k v wr => Cmp.RepRel K w (twice (skp (Cmp.pr K) d ((Cmp.pr K).mKT s)) (skp (Cmp.pr K) d ((Cmp.pr K).mT s))) n tot k v wr)
    case atStart => exact ⟨0, _, rfl, by omega, by rw [Int.sub_zero], hp1.inv HZ.out, hp1.keep, by rw [HN.out]; exact HT.out, by have a1 := (Cmp.ok K).m s HZ.out; have a2 := (Cmp.ok K).dm s HZ.out; have a3 : _ + _ < _ := HRM.out; show _ + _ < _; omega⟩
    case round =>
      obtain ⟨i, s1, rfl, hi0, hk, hi1, hk1, hr, hrm⟩ := hrel
      have HRM1 := Lib.hid hrm
      clear hrm
      by_cases hin : i < n
      · cases gk with
        | zero => omega
        | succ k =>
        have HK := Lib.hid hk
        have HR := Lib.hid hr
        clear hr hk
        go_wp2_with fail
        refine (ih (deep - 1) kt _ wr HD.out (by omega) (by omega) hi1 HRM1.out).mono ?_
        rintro e w3 ⟨ev, rfl, hp3⟩
        rw [HKT.out] at hp3
        by_cases hz3 : (skp (Cmp.pr K) d ((Cmp.pr K).mKT s) s1).1 = 0
        · have hev : ev = .nilIface := by have := hp3.err; rw [hz3] at this; exact this.isNil
          subst hev
          have HZ3 := Lib.hid hz3
          clear hz3
          go_wp2_with fail
          refine (ih (deep - 1) t _ w3 HD.out (by omega) (by omega) (hp3.inv HZ3.out) (by have a1 := skp_len (Cmp.ok K) d _ _ HZ3.out; have a2 := skp_dep (Cmp.ok K) d _ _ HZ3.out; have a3 : _ + _ < _ := HRM1.out; show _ + _ < _; omega)).mono ?_
          rintro e w4 ⟨ev, rfl, hp4⟩
          rw [HTT.out] at hp4
          by_cases hz4 : (skp (Cmp.pr K) d ((Cmp.pr K).mT s) (skp (Cmp.pr K) d ((Cmp.pr K).mKT s) s1).2).1 = 0
          · have hev : ev = .nilIface := by have := hp4.err; rw [hz4] at this; exact this.isNil
            subst hev
            have HZ4 := Lib.hid hz4
            clear hz4
            go_wp2_with fail
            go_roundg k
            case measure => exact Nat.lt_succ_self _
            case rel =>
              refine ⟨i + 1, _, rfl, by omega, by have := HK.out; omega, hp4.inv HZ4.out, (hk1.then hp3.keep).then hp4.keep, ?_, ?_⟩
              · rw [← HR.out, rep_ok (by rw [twice_ok HZ3.out]; exact HZ4.out), twice_ok HZ3.out]
              · have a1 := skp_len (Cmp.ok K) d _ _ HZ3.out
                have a2 := skp_dep (Cmp.ok K) d _ _ HZ3.out
                have a4 := skp_len (Cmp.ok K) d _ _ HZ4.out
                have a5 := skp_dep (Cmp.ok K) d _ _ HZ4.out
                have a3 : _ + _ < _ := HRM1.out
                show _ + _ < _
                omega
          · obtain ⟨tt, x, rfl⟩ := hp4.err.held hz4
            have HZ4 := Lib.hid hz4
            clear hz4
            go_wp2_with fail
            go_ret
            have e2 : tot = skp (Cmp.pr K) d ((Cmp.pr K).mT s) (skp (Cmp.pr K) d ((Cmp.pr K).mKT s) s1).2 := by
              rw [← HR.out, rep_bad (by rw [twice_ok HZ3.out]; exact HZ4.out), twice_ok HZ3.out]
            have e1 : endby (Cmp.pr K).meS tot = skp (Cmp.pr K) d ((Cmp.pr K).mT s) (skp (Cmp.pr K) d ((Cmp.pr K).mKT s) s1).2 := by rw [e2]; exact endby_bad HZ4.out
            rw [e1]
            exact ⟨_, rfl, Cmp.Post.onto (hk1.then hp3.keep) hp4⟩
        · obtain ⟨tt, x, rfl⟩ := hp3.err.held hz3
          have HZ3 := Lib.hid hz3
          clear hz3
          go_wp2_with fail
          go_ret
          have e2 : tot = skp (Cmp.pr K) d ((Cmp.pr K).mKT s) s1 := by
            rw [← HR.out, rep_bad (by rw [twice_bad HZ3.out]; exact HZ3.out), twice_bad HZ3.out]
          have e1 : endby (Cmp.pr K).meS tot = skp (Cmp.pr K) d ((Cmp.pr K).mKT s) s1 := by rw [e2]; exact endby_bad HZ3.out
          rw [e1]
          exact ⟨_, rfl, Cmp.Post.onto hk1 hp3⟩
      · have hk0 : gk = 0 := by omega
        subst hk0
        have HR := Lib.hid hr
        clear hr hk
        go_wp2_with fail
        refine (Cmp.readMapEnd hi1).mono ?_
        rintro e w4 ⟨rfl, hp4⟩
        go_wp2_with fail
        go_ret
        exact ⟨_, rfl, .tot (by rw [← HR.out]; rfl) (Cmp.Post.onto hk1 hp4)⟩
  · have e0 : skp (Cmp.pr K) (d + 1) 13 s = ((Cmp.pr K).mK s, (Cmp.pr K).mS s) := by simp [skp, isSc, hz]
    rw [e0]
    have HZ := Lib.hid hz
    clear hz e0
    go_enter Tryz.func38, Tryz.ntmps38
    go_wp2_with fail
    refine (Cmp.readMapBegin h).mono ?_
    rintro e w1 ⟨kt, t, n, ev, rfl, hp1, hv1⟩
    obtain ⟨tt, x, rfl⟩ := hp1.err.held HZ.out
    clear hv1
    go_wp2_with fail
    go_ret
    exact ⟨_, rfl, hp1⟩

theorem Cmp.skips (K : Cmp.Ctx) (d : Nat) : Cmp.Skips K d := by
  induction d with
  | zero => exact Cmp.skip_zero K
  | succ d ih =>
    intro deep t s w hd hlo hhi h hroom
    have hd0 : 0 < deep := by omega
    by_cases hsc : isSc t = true
    · have e : skp (Cmp.pr K) (d + 1) t s = ((Cmp.pr K).scK t s, (Cmp.pr K).scS t s) := by simp only [skp]; rw [if_pos hsc]
      rw [e]
      exact Cmp.skip_scalar K d deep t s w hd0 hhi h hsc
    · by_cases h12 : t = 12
      · subst h12
        have e : skp (Cmp.pr K) (d + 1) 12 s = flds (Cmp.pr K) (skp (Cmp.pr K) d) ((Cmp.pr K).len ((Cmp.pr K).sbS s) + 1) ((Cmp.pr K).sbS s) := by simp [skp, isSc]
        rw [e]
        exact Cmp.skip_struct K d ih deep s w hd hd0 hhi h hroom
      · by_cases h13 : t = 13
        · subst h13; exact Cmp.skip_map K d ih deep s w hd hd0 hhi h hroom
        · by_cases h14 : t = 14
          · subst h14; exact Cmp.skip_set K d ih deep s w hd hd0 hhi h hroom
          · by_cases h15 : t = 15
            · subst h15; exact Cmp.skip_list K d ih deep s w hd hd0 hhi h hroom
            · have e : skp (Cmp.pr K) (d + 1) t s = (11, s) := by
                simp only [skp]; rw [if_neg hsc, if_neg h12, if_neg h13, if_neg (by omega)]
              rw [e]
              exact Cmp.skip_other K deep t s w hd0 hhi h (by simpa using hsc) h12 h13 h14 h15

end Go.Proofs.YtpfifpgbnhdjnaaGreatDoor
