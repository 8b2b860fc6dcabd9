/- Part 36 of the proof: Sg3, LwRd0, LwRd. -/
import Derived.Test.YtjekbomlpcdojaaGreatDoorK34
import Derived.Test.YtjekbomlpcdojaaGreatDoorK35
import Derived.Test.YtjekbomlpcdojaaGreatDoorK33
import Derived.Deep.Cut
import Derived.Deep.CutBlock
import Derived.Deep.RegionHeld3
import Derived.Deep.RegionWith
set_option linter.unusedVariables false
set_option linter.unusedSimpArgs false
set_option linter.unusedSectionVars false
set_option maxHeartbeats 16000000
namespace Go.Proofs.YtjekbomlpcdojaaGreatDoor
open Go Go.RowKit
set_option maxRecDepth 100000 in
theorem isGot_at {A A' : Nat → Prop} {w : World} {v1 v2 : Value} {gi hs : List Sg} (h1 : GotsAt A w v1 gi) (h2 : GotsAt A' w v2 hs) (hrel : GotRel gi hs) :
  Calls Tryz.prog 31 #[v1, v2] w (BoolP (fun b => b = true) w) := by
 obtain ⟨a1, c1, rfl, hl1, hc1, g1⟩ := h1
 obtain ⟨a2, c2, rfl, hl2, hc2, g2⟩ := h2
 obtain ⟨L1, hL1⟩ : ∃ L, gi.length = L := ⟨_, rfl⟩
 obtain ⟨L2, hL2⟩ : ∃ L, hs.length = L := ⟨_, rfl⟩
 rw [hL1] at hl1 hc1 ⊢
 rw [hL2] at hl2 hc2 ⊢
 have HL1 := hdd hL1
 have HL2 := hdd hL2
 have G1 := hdd g1
 have G2 := hdd g2
 have HC1 := hdd hc1
 have HC2 := hdd hc2
 have HR := hdd hrel
 clear hL1 hL2 g1 g2 hc1 hc2 hrel
 go_enter Tryz.func31, Tryz.ntmps31
 go_wp2_with fail
 go_loopg [5] L2 (fun k v5 wr => ∃ i : Nat, v5 = .int .i64 i ∧ i + k = L2 ∧ Keep (fun _ => False) w wr ∧ ∀ (j : Nat) (y : Sg), j < i → hs[j]? = some y → y.op ≠ -2)
 case atStart => exact ⟨0, rfl, by omega, Keep.refl _ _, fun j y hj => by omega⟩
 case round =>
  obtain ⟨j, rfl, hjk, hkr, hno⟩ := hrel
  have HNO := hdd hno
  clear hno
  by_cases hlt : j < L2
  ·cases gk with
   | zero => omega
   | succ kk =>
   have hlt' : (j : Int) < (L2 : Int) := by omega
   have hj : hs[j]? = some (hs[j]'(by have := HL2.out; omega)) := List.getElem?_eq_getElem _
   obtain ⟨D2, o2, sa2, sm2, sc2, ha2, _, r2, b2⟩ := G2.out j _ hj
   generalize (hs[j]'(by have := HL2.out; omega)) = y at *
   subst ha2
   have HJ := hdd hj
   have hrl := HR.out.1 j y hj
   have hnc2 : L2 ≤ c2 := (HC2.out (by omega)).1
   obtain ⟨d0, d1, d2, d3, d4, d5, d6⟩ := r2.keep hkr (fun x => x)
   obtain ⟨yo, yt, yk, yz, yi, yn, ys⟩ := y
   simp only at hrl b2 d0 d1 d2 d3 d4 d5 d6
   have HB2 := hdd b2
   have HR2a := hdd r2
   clear hj r2 b2
   by_cases hy2 : yo = -2
   ·have hyb : (yo == -2) = true := by simp [hy2]
    have HY := hdd hy2
    clear hy2
    go_wp2_with fail
    go_ret
    exact ⟨true, rfl, rfl, hkr⟩
   ·have hyb : (yo == -2) = false := by simpa using hy2
    obtain ⟨x, hx, hcs⟩ := hrl.resolve_left hy2
    have hjl : j < L1 := by have := (List.getElem?_eq_some_iff.1 hx).1; have := HL1.out; omega
    obtain ⟨D1, o1, sa1, sm1, sc1, ha1, _, r1, b1⟩ := G1.out j x hx
    subst ha1
    have hge1 : ¬ (L1 : Int) ≤ (j : Int) := by omega
    have hge2 : decide (L1 ≤ j) = false := by simpa using hjl
    have hlt1 : (j : Int) < (L1 : Int) := by omega
    have hnc1 : L1 ≤ c1 := (HC1.out (by omega)).1
    obtain ⟨p0, p1, p2, p3, p4, p5, p6⟩ := r1.keep hkr (fun x => x)
    have hw : IntKind.i64.wrap ((j : Int) + 1) = (j : Int) + 1 := IntWalk.i64_in _ (by omega)
    have HY2 := hdd hy2
    have hcall : ∀ W, Keep (fun _ => False) w W → Calls Tryz.prog 64 #[.agg (stepG x.op x.t x.k x.z x.i x.n (.slice sa1 sm1 sc1)), .agg (stepG yo yt yk yz yi yn (.slice sa2 sm2 sc2))] W (BoolP (fun b => b = true) W) := fun W hW => by
     rcases hcs with ⟨h0, hsk⟩ | ⟨h0, rfl⟩
     ·exact sameGot_kind _ _ _ _ _ _ _ _ _ _ _ _ _ _ hsk h0 W
     ·simp only at h0 b1 ⊢
      subst h0
      exact sameGot_eq ((b1 rfl).keep hW (fun _ _ x => x)) ((HB2.out rfl).keep hW (fun _ _ x => x)) _ _ _ _ _
    have HCALL := hdd hcall
    have HR1 : Hid (∀ W, Keep (fun _ => False) w W → Row7 W D1 (o1 + j * 7) (.int .i64 x.op) (.int .i64 x.t) (.int .i64 x.k) (.int .i64 x.z) (.int .i64 x.i) (.int .i64 x.n) (.slice sa1 sm1 sc1)) := hdd (fun W hW => r1.keep hW (fun x => x))
    have HR2 : Hid (∀ W, Keep (fun _ => False) w W → Row7 W D2 (o2 + j * 7) (.int .i64 yo) (.int .i64 yt) (.int .i64 yk) (.int .i64 yz) (.int .i64 yi) (.int .i64 yn) (.slice sa2 sm2 sc2)) := hdd (fun W hW => HR2a.out.keep hW (fun x => x))
    have HKR := hdd hkr
    clear hx hcs r1 b1 hrl hy2 hcall
    go_wp2_with fail
    go_cut [33] from 18 to 33 (fun s33 wx => s33 = .bool false ∧ Keep (fun _ => False) w wx)
    case first =>
     go_region_held3 (fun w' => w'.cell? ⟨D1, o1 + j * 7, none⟩ = some (.int .i64 x.op) ∧ w'.cell? ⟨D1, o1 + j * 7 + 1, none⟩ = some (.int .i64 x.t) ∧ w'.cell? ⟨D1, o1 + j * 7 + 2, none⟩ = some (.int .i64 x.k) ∧ w'.cell? ⟨D1, o1 + j * 7 + 3, none⟩ = some (.int .i64 x.z) ∧ w'.cell? ⟨D1, o1 + j * 7 + 4, none⟩ = some (.int .i64 x.i) ∧ w'.cell? ⟨D1, o1 + j * 7 + 5, none⟩ = some (.int .i64 x.n) ∧ w'.cell? ⟨D1, o1 + j * 7 + 6, none⟩ = some (.slice sa1 sm1 sc1) ∧ w'.cell? ⟨D2, o2 + j * 7, none⟩ = some (.int .i64 yo) ∧ w'.cell? ⟨D2, o2 + j * 7 + 1, none⟩ = some (.int .i64 yt) ∧ w'.cell? ⟨D2, o2 + j * 7 + 2, none⟩ = some (.int .i64 yk) ∧ w'.cell? ⟨D2, o2 + j * 7 + 3, none⟩ = some (.int .i64 yz) ∧ w'.cell? ⟨D2, o2 + j * 7 + 4, none⟩ = some (.int .i64 yi) ∧ w'.cell? ⟨D2, o2 + j * 7 + 5, none⟩ = some (.int .i64 yn) ∧ w'.cell? ⟨D2, o2 + j * 7 + 6, none⟩ = some (.slice sa2 sm2 sc2)) (go_keep) (first | (go_at_call 64; refine (HCALL.out _ (by first | exact HKR.out.drew | exact HKR.out)).mono ?_; rintro e w6 ⟨b, rfl, rfl, hk6⟩; obtain ⟨p0, p1, p2, p3, p4, p5, p6⟩ := HR1.out _ (HKR.out.drew.then hk6); obtain ⟨d0, d1, d2, d3, d4, d5, d6⟩ := HR2.out _ (HKR.out.drew.then hk6)))
     all_goals
      go_wp2_with fail
      go_simp
      go_meet
      exact ⟨rfl, HKR.out.drew.then hk6⟩
    case rest =>
    obtain ⟨rfl, hkx⟩ := hcut
    generalize wc = wx at *
    go_wp2_with fail
    go_roundg kk
    case measure => exact Nat.lt_succ_self _
    case rel => exact ⟨j + 1, by go_num, by omega, hkx, fun j' y' hj' hy' => by
     by_cases hjj : j' < j
     ·exact HNO.out j' y' hjj hy'
     ·have e : j' = j := by omega
      subst e
      rw [HJ.out] at hy'
      obtain rfl := Option.some.inj hy'
      exact HY2.out⟩
  ·have hge : ¬ (j : Int) < (L2 : Int) := by omega
   have hjl : j = L2 := by omega
   have hlen : L1 = L2 := by
    rcases HR.out.2 with h | ⟨j', y', e1, e2⟩
    ·rw [← HL1.out, ← HL2.out]; exact h
    ·have := (List.getElem?_eq_some_iff.1 e1).1
     exact absurd e2 (HNO.out j' y' (by have := HL2.out; omega) e1)
   subst hlen
   go_wp2_with fail
   go_ret
   exact ⟨true, by simp, rfl, hkr⟩
theorem GotRel.of {gi rs hs : List Sg} (h1 : RunRel gi rs) (h2 : RefRel rs hs) : GotRel gi hs := by
 refine ⟨fun j y hj => ?_, ?_⟩
 ·obtain ⟨x, e1, e2, e3⟩ := h2.1 j y hj
  have hl : j < gi.length := by rw [h1.1]; exact (List.getElem?_eq_some_iff.1 e1).1
  have hg := List.getElem?_eq_getElem hl
  obtain ⟨f1, f2⟩ := h1.2 j _ x hg e1
  refine .inr ⟨_, hg, ?_⟩
  by_cases hz : y.op = 0
  ·refine .inr ⟨hz, ?_⟩
   have hx : x = y := e3 hz
   rw [f2 (hx ▸ hz)]
   exact hx
  ·exact .inl ⟨hz, by rw [f1]; exact e2⟩
 ·rcases h2.2 with h | h
  ·exact .inl (by rw [h1.1, h])
  ·exact .inr h
set_option maxRecDepth 100000 in
theorem Pm.reads_at {St : Type} (P : Pm St) (X : P.X) {E : Env} {A A2 : Nat → Prop} (v sv : Value) (l : List UInt8) (ls : List Sg) (w : World) (hg : Glob E w) (h : BytesAt A w v l) (hS : StepsAt A2 w sv ls) :
  Calls Tryz.prog 9 #[confV P.no P.c, v, sv] w (BoolP (fun b => b = true) w) := by
 obtain ⟨a, cc, rfl, hlb, _, _⟩ := h.cellAt'
 obtain ⟨L, hL⟩ : ∃ L, l.length = L := ⟨_, rfl⟩
 obtain ⟨tot, htot⟩ : ∃ tot, runA P ls (P.st0 l) = tot := ⟨_, rfl⟩
 have HT := hdd htot
 have H := hdd h
 have HS := hdd hS
 clear htot h hS
 rw [hL] at hlb H ⊢
 have HL := hdd hL
 clear hL
 have hk0 : Keep (fun _ => False) w (w.alloc (.cells (confC P.no P.c) 23 (0, 0))) := (Keep.refl _ w).alloc _
 by_cases hm : 65536 < L
 ·have hm' : (65536 : Int) < (L : Int) := by omega
  go_enter Tryz.func9, Tryz.ntmps9
  go_wp2_with fail
  refine (known_at _ (hg.keep hk0 (fun _ x => x.elim))).mono ?_
  rintro e w1 ⟨rfl, hk1⟩
  go_wp2_with fail
  go_ret
  exact ⟨true, rfl, rfl, hk0.then hk1⟩
 have hm' : ¬ (65536 : Int) < (L : Int) := by omega
 have hp0 := heap_alloc_new w (.cells (confC P.no P.c) 23 (0, 0))
 obtain ⟨sa, sc, hsv, _⟩ := HS.out
 subst hsv
 go_enter Tryz.func9, Tryz.ntmps9
 go_wp2_with fail
 obtain ⟨n0, hn⟩ : ∃ n0, w.heap.size = n0 := ⟨_, rfl⟩
 rw [hn] at hp0 ⊢
 generalize w.alloc (.cells (confC P.no P.c) 23 (0, 0)) = w1 at *
 have HP := hdd hp0
 have HK0 := hdd hk0
 clear hn hp0 hk0
 refine (isHeavySteps_at (HS.out.keep HK0.out (fun _ _ x => x))).mono ?_
 rintro e w2 ⟨b, rfl, hb, hk2⟩
 cases b with
 | true =>
  go_wp2_with fail
  refine (known_at _ (hg.keep (HK0.out.then hk2) (fun _ x => x.elim))).mono ?_
  rintro e w3 ⟨rfl, hk3⟩
  go_wp2_with fail
  go_ret
  exact ⟨true, rfl, rfl, HK0.out.then (hk2.then hk3)⟩
 | false =>
  have hls : ls.length ≤ 65536 := hb rfl
  have HLS := hdd hls
  have hk02 := HK0.out.then hk2
  have hc2 := (hk2.block n0 (lt_of_heap HP.out) id).trans HP.out
  have HC2 := hdd hc2
  obtain ⟨c0, c1, c2, c3, c4, c5, c6⟩ := conf_cells7 hc2
  clear hc2 hls hb
  go_wp2_with fail
  refine (P.impl_read X (E := E) _ _ l ls w2 (hg.keep hk02 (fun _ x => x.elim)) (H.out.keep hk02 (fun _ _ x => x)) (by rw [HL.out]; omega) (HS.out.keep hk02 (fun _ _ x => x)) HLS.out tot HT.out).mono ?_
  rintro e w3 ⟨gv, gi, left, rfl, hrel, hgots, hk3, hleft⟩
  have hc3 := (hk3.block n0 (lt_of_heap HC2.out) id).trans HC2.out
  have HC3 := hdd hc3
  have HREL := hdd hrel
  have HG := hdd hgots
  have HLF := hdd hleft
  have HK3 := hdd (hk02.then hk3)
  clear c0 c1 c2 c3 c4 c5 c6 hrel hgots hleft hk3 hk02 hk2
  obtain ⟨c0, c1, c2, c3, c4, c5, c6⟩ := conf_cells7 hc3
  clear hc3
  go_wp2_with fail
  have hst := steps_at (w := w3.drew) (HS.out.keep (HK3.out.drew) (fun _ _ x => x)) HLS.out
  have HST := hdd hst
  have hcd : ∀ W, Keep (fun _ => False) w3.drew W → W.heap[n0]? = some (.cells (confC P.no P.c) 23 (0, 0)) := fun W hW => (((Keep.refl _ w3).drew.then hW).block n0 (lt_of_heap HC3.out) id).trans HC3.out
  have HCD := hdd hcd
  have hsp : ∀ W sv4, Keep (fun _ => False) w3.drew W → StepsAt (fun i => A2 i ∨ w3.drew.heap.size ≤ i) W sv4 ls → Calls Tryz.prog 29 #[confV P.no P.c, .slice a L cc, sv4] W (P.SRdP tot W) := fun W sv4 hW hs4 =>
   P.spec_read X _ _ l ls W (H.out.keep (HK3.out.drew.then hW) (fun _ _ x => x)) (by have := HL.out; omega) hs4 HLS.out tot HT.out
  have HSP := hdd hsp
  clear hst hcd hsp
  go_cut [9, 10] from 28 to 35 (fun s9 s10 wx => ∃ hv hs rest, s9 = hv ∧ s10 = .int .i64 rest ∧ RefRel tot.1 hs ∧ GotsAt (fun _ => True) wx hv hs ∧ Keep (fun _ => False) w3 wx ∧ ((∀ y : Sg, hs[hs.length - 1]? = some y → y.op = 0) → tot.2.2 = 0 ∧ rest = P.pr.len tot.2.1))
  case first =>
   go_region_with (first | (go_at_call 30; refine HST.out.mono ?_; rintro e w4 ⟨sv4, rfl, hs4, hk4⟩; have HS4 := hdd hs4; have HK4 := hdd hk4; clear hs4 hk4; obtain ⟨e0, e1, e2, e3, e4, e5, e6⟩ := conf_cells7 (HCD.out _ HK4.out)) | (go_at_call 29; refine (HSP.out _ _ HK4.out HS4.out).mono ?_; rintro e w5 ⟨hv, hs, rest, rfl, hr5, hg5, hk5, hf5⟩; have HR5 := hdd hr5; have HG5 := hdd hg5; have HK5 := hdd hk5; have HF5 := hdd hf5; clear hr5 hg5 hk5 hf5))
   all_goals
    go_wp2_with fail
    go_simp
    go_meet
    exact ⟨_, _, _, rfl, rfl, HR5.out, HG5.out.weak (fun _ _ _ => trivial), ((Keep.refl _ w3).drew).then (HK4.out.then HK5.out), HF5.out⟩
  case rest =>
  obtain ⟨hv, hs, rest, rfl, rfl, hr5, hg5, hk5, hf5⟩ := hcut
  generalize wc = w5 at *
  have hrel := GotRel.of HREL.out hr5
  have hg3 := HG.out.keep hk5 (fun _ _ x => x)
  have hig := isGot_at hg3 hg5 hrel
  obtain ⟨ha, hc, rfl, hhl, hcap, hrows⟩ := hg5
  obtain ⟨N, hN⟩ : ∃ N, hs.length = N := ⟨_, rfl⟩
  rw [hN] at hhl hcap hf5 hig ⊢
  have HIG := hdd hig
  have HK5 := hdd hk5
  have HROW := hdd hrows
  have HN := hdd hN
  have HF := hdd hf5
  have HGL : Hid (∀ W, Keep (fun _ => False) w5 W → Glob E W) := hdd (fun W hW => hg.keep ((HK3.out.then hk5).then hW) (fun _ x => x.elim))
  clear hr5 hk5 hrel hg3 hrows hf5 hN hig c0 c1 c2 c3 c4 c5 c6
  cases N with
  | zero =>
   obtain ⟨htz, hrest⟩ := HF.out (fun y hy => by have := (List.getElem?_eq_some_iff.1 hy).1; have := HN.out; omega)
   have hlr : left = rest := (HLF.out htz).trans hrest.symm
   subst hlr
   go_wp2_with fail
   refine HIG.out.mono ?_
   rintro e w6 ⟨b, rfl, rfl, hk6⟩
   go_wp2_with fail
   refine (known_at _ (HGL.out _ hk6)).mono ?_
   rintro e w7 ⟨rfl, hk7⟩
   go_wp2_with fail
   go_ret
   exact ⟨true, rfl, rfl, HK3.out.then (HK5.out.then (hk6.then hk7))⟩
  | succ M =>
   have hjM : hs[M]? = some (hs[M]'(by have := HN.out; omega)) := List.getElem?_eq_getElem _
   obtain ⟨D, o, ya, ym, yc, hAe, _, hrow, _⟩ := HROW.out M _ hjM
   generalize (hs[M]'(by have := HN.out; omega)) = y at *
   subst hAe
   have HROW7 := hdd hrow
   have hnc : M + 1 ≤ hc := (hcap (by omega)).1
   have hw : IntKind.i64.wrap (((M + 1 : Nat) : Int) - 1) = (M : Nat) := by rw [show (((M + 1 : Nat) : Int) - 1) = (M : Nat) by omega]; exact IntWalk.i64_in _ (by omega)
   have hpos : (0 : Int) < ((M + 1 : Nat) : Int) := by omega
   have HJM := hdd hjM
   obtain ⟨yo, yt, yk, yz, yi, yn, ys⟩ := y
   clear hjM hrow
   by_cases hy : yo = 0
   ·obtain ⟨htz, hrest⟩ := HF.out (fun y' hy' => by rw [show M + 1 - 1 = M from rfl, HJM.out] at hy'; obtain rfl := Option.some.inj hy'; exact hy)
    have hlr : left = rest := (HLF.out htz).trans hrest.symm
    have hyb : (yo != 0) = false := by simp [hy]
    subst hlr
    have HY := hdd hy
    clear hy htz hrest
    go_wp2_with fail
    refine HIG.out.mono ?_
    rintro e w6 ⟨b, rfl, rfl, hk6⟩
    obtain ⟨d0, _, _, _, _, _, _⟩ := HROW7.out.keep hk6 (fun x => x)
    go_wp2_with fail
    refine (known_at _ (HGL.out _ hk6)).mono ?_
    rintro e w7 ⟨rfl, hk7⟩
    go_wp2_with fail
    go_ret
    exact ⟨true, rfl, rfl, HK3.out.then (HK5.out.then (hk6.then hk7))⟩
   ·have hyb : (yo != 0) = true := by simp [hy]
    clear hy
    go_wp2_with fail
    refine HIG.out.mono ?_
    rintro e w6 ⟨b, rfl, rfl, hk6⟩
    obtain ⟨d0, _, _, _, _, _, _⟩ := HROW7.out.keep hk6 (fun x => x)
    go_wp2_with fail
    refine (known_at _ (HGL.out _ hk6)).mono ?_
    rintro e w7 ⟨rfl, hk7⟩
    go_wp2_with fail
    go_ret
    exact ⟨true, rfl, rfl, HK3.out.then (HK5.out.then (hk6.then hk7))⟩
end Go.Proofs.YtjekbomlpcdojaaGreatDoor
