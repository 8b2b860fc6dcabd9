/- Part 27 of the proof: Ds6, Ds7. -/
import Derived.Test.YtjekbomlpcdojaaGreatDoorH21
import Derived.Test.YtjekbomlpcdojaaGreatDoorH26
import Derived.Test.YtjekbomlpcdojaaGreatDoorH20
import Derived.Deep.Cut
import Derived.Deep.CutBlock
import Derived.Deep.RegionHeld3
set_option linter.unusedVariables false
set_option linter.unusedSimpArgs false
set_option linter.unusedSectionVars false
set_option maxHeartbeats 16000000
namespace Go.Proofs.YtjekbomlpcdojaaGreatDoor
open Go Go.RowKit
theorem strD_run {A : Nat → Prop} {w : World} {v : Value} {l : List UInt8} (h : BytesAt A w v l) : (convert 24 9 v).run Tryz.prog w = .ok (.string ⟨l.toArray⟩) w := by
 rcases h with ⟨rfl, a, c, rfl⟩ | ⟨hne, D, o, c, rfl, h1, h2, h3, h4⟩
 ·cases a <;> kernel_rfl
 ·exact run_convert_bytes_back (P := Tryz.prog) w 24 9 5 ⟨D, o, none⟩ c l Tryz.underlying24 Tryz.underlying5 Tryz.underlying9 (fun j hj => by
   rw [Addr.add_lit]
   exact h4 j _ (List.getElem?_eq_getElem hj))
theorem protocol_any (pr : Int) (c : Cfg) (MB : Nat) (w : World) :
  Calls Tryz.prog 35 #[confV pr c, memV MB] w fun e w' => ∃ t v, e = .returned (.iface t v) ∧ Keep (fun _ => False) w w' := by
 by_cases h : pr = 1
 ·subst h
  refine (protocol_ctp c MB w).mono ?_
  rintro e w' h
  obtain ⟨P, a, rfl, h1⟩ := h
  exact ⟨_, _, rfl, h1.2.2.2⟩
 ·refine (protocol_bin pr h c MB w).mono ?_
  rintro e w' ⟨P, a, rfl, _, _, _, hk⟩
  exact ⟨_, _, rfl, hk⟩
theorem MuxAt.add {ls : List (List UInt8)} {i : Nat} {n0 T M r P q : Nat} {w w3 w4 : World} {es es' : Array MapEntry} {n n' : Nat} {ps : Nat → Nat} {x : List UInt8} (h : MuxAt ls i false n0 w.heap.size T M r w es n .nilIface ps) (hx : ls[i]? = some x) (hk3 : Keep (fun _ => False) w w3) (hP1 : w.heap.size ≤ P) (hP : w3.heap[P]? = some (.cells (procC i T q) 192 (0, 0)))
  (hr : w4.heap[r]? = some (.map es' n')) (hS : SMap es' n' (fun y => if y = x then some (procV P) else (lastA ls y i).map fun j => procV (ps j))) (hk4 : Keep (r = ·) w3 w4) : MuxAt ls (i + 1) false n0 w4.heap.size T M r w4 es' n' .nilIface (fun j => if j = i then P else ps j) := by
 have h3 := h.keep hk3 (fun _ _ _ => id)
 have hs3 := hk3.size
 have hs4 := hk4.size
 have hP3 := lt_of_heap hP
 obtain ⟨⟨⟨t1, t2⟩, ⟨m1, m2⟩, ⟨r1, r2⟩⟩, hm, ht, hr3, hs, hp, hd⟩ := h3
 have neM : ∀ {b : Nat} {cs : Array Value} {ty : TypeId}, w3.heap[b]? = some (.cells cs ty (0, 0)) → ¬ r = b := fun hb e => by subst e; rw [hr3] at hb; cases hb
 refine ⟨⟨⟨t1, by omega⟩, ⟨m1, by omega⟩, ⟨r1, by omega⟩⟩, (hk4.block M (lt_of_heap hm) (neM hm)).trans hm, (hk4.block T (lt_of_heap ht) (neM ht)).trans ht, hr, ?_, fun j hj => ?_, ?_⟩
 ·refine ⟨hS.st, hS.ky, fun k v => ?_⟩
  rw [← hS.mem k v]
  show _ ↔ (if k = x then some (procV P) else _) = some v
  rw [lastA, hx]
  by_cases hkx : k = x
  ·subst hkx
   rw [if_pos rfl, if_pos rfl]
   simp
  ·rw [if_neg (fun e => hkx (Option.some.inj e).symm), if_neg hkx]
   cases hl : lastA ls k i with
   | none => simp
   | some j =>
    have := lastA_lt ls k i j hl
    simp only [Option.map_some]
    rw [if_neg (by omega)]
 ·by_cases hji : j = i
  ·subst hji
   rw [if_pos rfl]
   refine ⟨⟨by omega, by omega⟩, q, (hk4.block P hP3 (neM hP)).trans hP⟩
  ·rw [if_neg hji]
   obtain ⟨⟨p1, p2⟩, q, hq⟩ := hp j (by omega)
   exact ⟨⟨p1, by omega⟩, q, (hk4.block _ (lt_of_heap hq) (neM hq)).trans hq⟩
 ·rcases hd with hd | ⟨hf, _⟩
  ·exact .inl hd
  ·cases hf
theorem MuxAt.dflt {ls : List (List UInt8)} {i : Nat} {n0 T M r P q : Nat} {w w3 w4 : World} {es : Array MapEntry} {n : Nat} {ps : Nat → Nat} (h : MuxAt ls i false n0 w.heap.size T M r w es n .nilIface ps) (hk3 : Keep (fun _ => False) w w3) (hP1 : w.heap.size ≤ P) (hP : w3.heap[P]? = some (.cells (procC (-1) T q) 192 (0, 0)))
  (hM : w4.heap[M]? = some (.cells (muxC r (procV P)) 189 (0, 0))) (hk4 : Keep (M = ·) w3 w4) : MuxAt ls i true n0 w4.heap.size T M r w4 es n (procV P) ps := by
 have h3 := h.keep hk3 (fun _ _ _ => id)
 have hs3 := hk3.size
 have hs4 := hk4.size
 have hP3 := lt_of_heap hP
 obtain ⟨⟨⟨t1, t2⟩, ⟨m1, m2⟩, ⟨r1, r2⟩⟩, hm, ht, hr3, hs, hp, hd⟩ := h3
 have ty1 : ¬ 103 = 189 := by decide
 have ty2 : ¬ 192 = 189 := by decide
 have neT : ¬ M = T := fun e => by subst e; rw [hm] at ht; simp at ht
 have neR : ¬ M = r := fun e => by subst e; rw [hm] at hr3; cases hr3
 have neP : ∀ {b : Nat} {cs : Array Value}, w3.heap[b]? = some (.cells cs 192 (0, 0)) → ¬ M = b := fun hb e => by subst e; rw [hm] at hb; simp at hb
 refine ⟨⟨⟨t1, by omega⟩, ⟨m1, by omega⟩, ⟨r1, by omega⟩⟩, hM, (hk4.block T (lt_of_heap ht) neT).trans ht, (hk4.block r (lt_of_heap hr3) neR).trans hr3, hs, fun j hj => ?_, ?_⟩
 ·obtain ⟨⟨p1, p2⟩, q, hq⟩ := hp j hj
  exact ⟨⟨p1, by omega⟩, q, (hk4.block _ (lt_of_heap hq) (neP hq)).trans hq⟩
 ·exact .inr ⟨rfl, P, q, rfl, ⟨by omega, by omega⟩, (hk4.block P hP3 (neP hP)).trans hP⟩
def DspP (gT gN : Int) (q : Int × Int × List UInt8) (w : World) (e : Ending) (w' : World) : Prop :=
 ∃ na nm nc kd sq, e = .returned (.tuple #[.int .i64 q.2.1, .slice na nm nc, .int .i64 kd, .int .i32 sq, .int .i64 q.1]) ∧ (q.1 = 0 → kd = gT ∧ sq = gN ∧ ∃ A', BytesAt A' w' (.slice na nm nc) q.2.2) ∧ Keep (fun _ => False) w w'
def cvOpD : Op := Op.convert 9 24 (Operand.tmp 85)
set_option maxRecDepth 100000 in
theorem Pm.impl_dispatch {St : Type} (p : Pm St) {E : Env} {A A2 : Nat → Prop} (v sv : Value) (l : List UInt8) (ls : List (List UInt8)) (fb : Bool) (w : World) (hg : Glob E w) (h : BytesAt A w v l) (hs : TextsAt A2 w sv ls) (hl : l.length ≤ 1099511627775) (q : Int × Int × List UInt8) (hq : dspR (p.gK (p.st0 l)) (p.gT (p.st0 l)) (p.gB (p.st0 l)) ls fb = q) :
  Calls Tryz.prog 18 #[.agg (confC p.no p.c), sv, .bool fb, v] w (DspP (p.gT (p.st0 l)) (p.gN (p.st0 l)) q w) := by
 obtain ⟨sa, sc, rfl, hll, hcap, hel⟩ := id hs
 have HSV := hdd hs
 have HEL := hdd hel
 have HQ := hdd hq
 have HV := hdd h
 obtain ⟨va, vc, rfl, _, _, _⟩ := h.cellAt'
 obtain ⟨L, hL⟩ : ∃ L, ls.length = L := ⟨_, rfl⟩
 rw [hL] at hll hcap HSV ⊢
 have HL := hdd hL
 have HCAP := hdd hcap
 clear hq hs hel h hL hcap
 have hk0 : Keep (fun _ => False) w ((w.alloc (.cells (confC p.no p.c) 23 (0, 0))).alloc (.cells (askC (-2) 0 ⟨#[]⟩ 0) 103 (0, 0))) := ((Keep.refl _ w).alloc _).alloc _
 have hc0 : ((w.alloc (.cells (confC p.no p.c) 23 (0, 0))).alloc (.cells (askC (-2) 0 ⟨#[]⟩ 0) 103 (0, 0))).heap[w.heap.size]? = some (.cells (confC p.no p.c) 23 (0, 0)) := (Below.heap_alloc _ _ _ (by simp)).trans (heap_alloc_new w _)
 have ht0 : ((w.alloc (.cells (confC p.no p.c) 23 (0, 0))).alloc (.cells (askC (-2) 0 ⟨#[]⟩ 0) 103 (0, 0))).heap[w.heap.size + 1]? = some (.cells (askC (-2) 0 ⟨#[]⟩ 0) 103 (0, 0)) := heap_alloc_at (by simp) _
 have hs0 : ((w.alloc (.cells (confC p.no p.c) 23 (0, 0))).alloc (.cells (askC (-2) 0 ⟨#[]⟩ 0) 103 (0, 0))).heap.size = w.heap.size + 2 := by simp
 go_enter Tryz.func18, Tryz.ntmps18
 go_wp2_with fail
 obtain ⟨n0, hn⟩ : ∃ n0, w.heap.size = n0 := ⟨_, rfl⟩
 rw [hn] at hc0 ht0 hs0 ⊢
 generalize (w.alloc (.cells (confC p.no p.c) 23 (0, 0))).alloc (.cells (askC (-2) 0 ⟨#[]⟩ 0) 103 (0, 0)) = w1 at *
 have HN := hdd hn
 have HS0 := hdd hs0
 refine (newMux_at w1).mono ?_
 rintro e w2 ⟨M, r, rfl, hM1, hr1, hM, hr, hk2⟩
 have hs2 := hk2.size
 have hX2 : MuxAt ls 0 false (n0 + 1) w2.heap.size (n0 + 1) M r w2 #[] 0 .nilIface (fun _ => 0) := by
  refine ⟨⟨⟨Nat.le_refl _, by omega⟩, ⟨by omega, lt_of_heap hM⟩, ⟨by omega, lt_of_heap hr⟩⟩, hM, (hk2.block (n0 + 1) (lt_of_heap ht0) id).trans ht0, hr, SMap.nil 0, fun j hj => absurd hj (by omega), .inl ⟨rfl, rfl⟩⟩
 have HX2 := hdd hX2
 have HC2 := hdd ((hk2.block n0 (lt_of_heap hc0) id).trans hc0)
 have HK2 := hdd (hk0.then hk2)
 clear hn hs0 hM1 hr1 hM hr hk2 hs2 hX2 hc0 ht0 hk0
 go_wp2_with fail
 go_loopg [24] L (fun k v24 wr => ∃ (i : Nat) (es : Array MapEntry) (n : Nat) (ps : Nat → Nat), v24 = .int .i64 i ∧ i + k = L ∧ MuxAt ls i false (n0 + 1) wr.heap.size (n0 + 1) M r wr es n .nilIface ps ∧ Keep (fun _ => False) w wr ∧ wr.heap[n0]? = some (.cells (confC p.no p.c) 23 (0, 0)))
 case atStart => exact ⟨0, _, _, _, rfl, by omega, HX2.out, HK2.out, HC2.out⟩
 case round =>
  obtain ⟨i, es, n, ps, rfl, hik, hX, hkr, hc⟩ := hrel
  have HX := hdd hX
  have HKR := hdd hkr
  have HC := hdd hc
  clear hX hkr hc
  by_cases hlt : i < L
  ·cases gk with
   | zero => omega
   | succ k =>
   have hlt' : (i : Int) < (L : Int) := by omega
   have hj : ls[i]? = some (ls[i]'(by have := HL.out; omega)) := List.getElem?_eq_getElem _
   obtain ⟨D, o, xv, ha, _, hx, h7⟩ := HEL.out i _ hj
   generalize (ls[i]'(by have := HL.out; omega)) = x at *
   subst ha
   have d0 := (HKR.out.cell (p := ⟨D, o + i, none⟩) (lt_of_cell h7) id).trans h7
   have hnc : L ≤ sc := (HCAP.out (by omega)).1
   have hw : IntKind.i64.wrap ((i : Int) + 1) = (i : Int) + 1 := IntWalk.i64_in _ (by omega)
   have hcv : ∀ W, Keep (fun _ => False) wr W → (convert 24 9 xv).run Tryz.prog W = .ok (.string ⟨x.toArray⟩) W := fun W hW => strD_run (hx.keep (HKR.out.then hW) (fun _ _ => id))
   obtain ⟨xa, xm, xc, rfl⟩ := hx.shape
   have HCV := hdd hcv
   have HJ := hdd hj
   have hcv0 := hcv _ ((Keep.refl _ wr).drew)
   clear hj hx h7 hcv
   go_wp2_with fail
   go_region_with (first | (go_at_call 43; refine (newProc_at _ _ _).mono ?_; rintro e w3 ⟨P, q3, rfl, hP1, hP, hk3⟩; have hk3 := ((Keep.refl _ wr).drew).then hk3; have hcv3 := HCV.out _ hk3; have HX3 := hdd (HX.out.keep hk3 (fun _ _ _ => id)); have HP := hdd (And.intro hP1 hP); have HK3 := hdd hk3; clear hP1 hP hk3) | (go_at_call 42; refine (register_at HX3.out.m HX3.out.r HX3.out.s x).mono ?_; rintro e w4 ⟨rfl, es', n', hr', hS', hk4⟩; have HR4 := hdd (And.intro hr' (And.intro hS' hk4)); clear hr' hS' hk4))
   all_goals
    go_wp2_with fail
    go_roundg k
    case measure => exact Nat.lt_succ_self _
    case rel =>
     obtain ⟨hr', hS', hk4⟩ := HR4.out
     have hrl := HX.out.lt.2.2
     have hne : ¬ r = n0 := by omega
     have hc3 := (HK3.out.block n0 (lt_of_heap HC.out) id).trans HC.out
     exact ⟨i + 1, es', n', _, by go_num, by omega, HX.out.add HJ.out HK3.out HP.out.1 HP.out.2 hr' hS' hk4, (HKR.out.then HK3.out).trans hk4 (fun i' hi' e => by have := HN.out; omega), (hk4.block n0 (lt_of_heap hc3) hne).trans hc3⟩
  ·have hge : ¬ (i : Int) < (L : Int) := by omega
   have hiL : i = L := by omega
   subst hiL
   go_upto_if 38 with (fail)
   go_cut [] from 38 (fun wx => ∃ (es : Array MapEntry) (n : Nat) (D : Value) (ps : Nat → Nat), MuxAt ls i fb (n0 + 1) wx.heap.size (n0 + 1) M r wx es n D ps ∧ Keep (fun _ => False) w wx ∧ wx.heap[n0]? = some (.cells (confC p.no p.c) 23 (0, 0)))
   case first =>
    cases fb
    ·go_wp2_with fail
     go_meet
     exact ⟨es, n, _, ps, HX.out, HKR.out, HC.out⟩
    ·go_wp2_with fail
     refine (newProc_at _ _ _).mono ?_
     rintro e w3 ⟨P, q3, rfl, hP1, hP, hk3⟩
     have hM3 := (hk3.block M (lt_of_heap HX.out.m) id).trans HX.out.m
     have HR3 := hdd (And.intro hP1 (And.intro hP hk3))
     clear hP1 hP hk3
     go_wp2_with fail
     refine (registerDefault_at hM3).mono ?_
     rintro e w4 ⟨rfl, hM4, hk4⟩
     have HR4 := hdd (And.intro hM4 hk4)
     clear hM4 hk4 hM3
     go_wp2_with fail
     go_meet
     obtain ⟨hP1, hP, hk3⟩ := HR3.out
     obtain ⟨hM4, hk4⟩ := HR4.out
     have hrl := HX.out.lt.2.1
     have hne : ¬ M = n0 := by omega
     have hc3 := (hk3.block n0 (lt_of_heap HC.out) id).trans HC.out
     exact ⟨es, n, _, ps, HX.out.dflt hk3 hP1 hP hM4 hk4, (HKR.out.then hk3).trans hk4 (fun i' hi' e => by have := HN.out; omega), (hk4.block n0 (lt_of_heap hc3) hne).trans hc3⟩
   case rest =>
   clear HX HKR HC
   obtain ⟨es, n, D, ps, hX, hkr, hc⟩ := hcut
   generalize wc = wd at *
   have hLL := HL.out
   subst hLL
   have HX := hdd hX
   have HKR := hdd hkr
   have HC := hdd hc
   have HG := hdd (hg.keep hkr (fun _ x => x.elim))
   have hconf : ∀ W, Keep (fun _ => False) wd W → W.heap[n0]? = some (.cells (confC p.no p.c) 23 (0, 0)) := fun W hW => (hW.block n0 (lt_of_heap HC.out) id).trans HC.out
   have HCF := hdd hconf
   clear hX hkr hc hconf
   go_wp2_with fail
   go_cut [17, 18] from 44 to 59 (fun s17 s18 wx => ∃ b ev, s17 = .bool b ∧ s18 = ev ∧ ErrAt E 0 wx ev q.1 ∧ wx.heap[n0 + 1]? = some (.cells (if q.1 = 0 then askC q.2.1 (p.gT (p.st0 l)) ⟨q.2.2.toArray⟩ (p.gN (p.st0 l)) else askC (-2) 0 ⟨#[]⟩ 0) 103 (0, 0)) ∧ (q.1 ≠ 0 → q.2.1 = -2) ∧ Keep (fun _ => False) w wx)
   case first =>
    have tok1 : True := trivial
    obtain ⟨c0, c1, c2, c3, c4, c5, c6⟩ := conf_cells7 HC.out
    obtain ⟨e0, e1, e2, e3, e4, e5, e6⟩ := conf_cells7 (HCF.out wd.drew ((Keep.refl _ wd).drew))
    have HKD := hdd ((Keep.refl (fun _ => False) wd).drew)
    go_region_with (first
     | (go_at_call 37; refine (ctx_at _).mono ?_; rintro e w' ⟨rfl, rfl⟩)
     | (go_at_call 46; refine (holding_at (E := E) (HV.out.keep (HKR.out.then HKD.out) (fun _ _ => id)) (Nat.le_trans HG.out.size HKD.out.size)).mono ?_; rintro e w3 ⟨MB, B, Db, rfl, hm3, hk3, b1, b2, b3, b4, b5⟩; have HK3 := hdd (HKD.out.then hk3); have HM3 := hdd hm3; have HB3 := hdd b2; obtain ⟨f0, f1, f2, f3, f4, f5, f6⟩ := conf_cells7 (HCF.out w3 HK3.out); clear hm3 hk3 b1 b2 b3 b4 b5)
     | (go_at_call 35; have _t := tok1; refine (p.made (E := E) (HG.out.keep HK3.out (fun _ x => x.elim)) HM3.out (by omega)).mono ?_; rintro e w4 ⟨K, fbg, fe, rfl, hKE, hpr, hinv, hk4, hKn, hbI, hbS, hmg⟩; clear tok1; have HK4 := hdd (HK3.out.then hk4); have HI4 := hdd hinv; have HMG := hdd hmg; have HKE := hdd hKE; have HKN := hdd hKn; have HM4 := hdd (show ∀ W, Keep (fun _ => False) w4 W → ∀ i, K.M W i → wd.heap.size ≤ i from fun W hW i x => (by have h1 := (Rp.kept hinv hW).grow i (Rp.M_new hinv hW i x) x; rcases hKn i h1 with e | e; exact e ▸ HB3.out; have := HK3.out.size; omega)); obtain ⟨g0, g1, g2, g3, g4, g5, g6⟩ := conf_cells7 (HCF.out w4 HK4.out); clear hKE hpr hinv hk4 hKn hbI hbS hmg)
     | (go_at_call 47; refine (new_mem _).mono ?_; rintro e w5 ⟨rfl, hw5⟩; have HK5 := hdd (show Keep (fun _ => False) _ w5 from hw5 ▸ ((Keep.refl _ _).alloc _).alloc _); obtain ⟨h0, h1, h2, h3, h4, h5, h6⟩ := conf_cells7 (HCF.out w5 (HK4.out.then HK5.out)); clear hw5)
     | (go_at_call 35; refine (protocol_any p.no p.c _ _).mono ?_; rintro e w6 ⟨ty6, v6, rfl, hk6⟩; have HK6 := hdd hk6; obtain ⟨j0, j1, j2, j3, j4, j5, j6⟩ := conf_cells7 (HCF.out w6 ((HK4.out.then HK5.out).then HK6.out)); clear hk6)
     | (go_at_call 45; refine (mux_process (w0 := w) HMG.out (HI4.out.fresh (HK5.out.then HK6.out)) ((HKR.out.then HK4.out).then (HK5.out.then HK6.out)) (by rw [HKE.out]; exact hg) (HX.out.keep (HK4.out.then (HK5.out.then HK6.out)) (fun _ _ _ => id)) (by have := HN.out; omega) (HM4.out _ (HK5.out.then HK6.out)) (p.gK_bd _) (p.gT_w _) (by have h2 := p.gB_le l (by omega); simp only [ByteArray.size, List.size_toArray] at h2; exact h2) _ q HQ.out).mono ?_; rintro e w7 ⟨b7, ev7, rfl, he7, ht7, hw7, hk7⟩; have HE7 := hdd (And.intro he7 (And.intro ht7 (And.intro hw7 hk7))); clear he7 ht7 hw7 hk7))
    all_goals
     go_wp2_with fail
     go_simp
     go_meet
     obtain ⟨he7, ht7, hw7, hk7⟩ := HE7.out
     rw [HKE.out] at he7
     exact ⟨_, _, rfl, rfl, he7, ht7, hw7, hk7⟩
   case rest =>
   obtain ⟨b, ev, rfl, he, herr, hask, hwho, hkz⟩ := hcut
   have he := he.symm
   subst he
   generalize wc = wz at *
   have HKZ := hdd hkz
   have HGZ := hdd (hg.keep hkz (fun _ x => x.elim))
   have HERR := hdd herr
   have HWHO := hdd hwho
   clear herr hwho hkz
   by_cases hz : q.1 = 0
   ·rw [if_pos hz] at hask
    have hev : ev = .nilIface := by have := HERR.out; rw [hz] at this; exact this.isNil
    subst hev
    have HZ := hdd hz
    have HGB := hdd (p.gB_le l (by omega))
    have hqe : q = (0, q.2.1, q.2.2) := by rw [← hz]
    obtain ⟨l', hl'⟩ : ∃ l' : ByteArray, (⟨q.2.2.toArray⟩ : ByteArray) = l' := ⟨_, rfl⟩
    have HL' := hdd hl'
    rw [hl'] at hask
    have hcv := cv_run l'
    have hkc : Keep (fun _ => False) wz (cvW wz.drew l') := ((Keep.refl _ wz).drew).then (cvW_keep l' wz.drew)
    have hask2 := (hkc.block (n0 + 1) (lt_of_heap hask) id).trans hask
    have a0 := cellAt hask 0
    have a1 := cellAt hask 1
    have a2 := cellAt hask 2
    have a3 := cellAt hask 3
    have b0 := cellAt hask2 0
    have b1 := cellAt hask2 1
    have b2 := cellAt hask2 2
    have b3 := cellAt hask2 3
    simp at a0 a1 a2 a3 b0 b1 b2 b3
    obtain ⟨w12, hw12⟩ : ∃ w12, q.2.1 = w12 := ⟨_, rfl⟩
    rw [hw12] at a0 b0
    have HW12 := hdd hw12
    clear hask hask2 hz hqe hw12 hl'
    go_wp2_with fail
    go_region
    go_wp2_with fail
    go_returns
    have hlen : l'.size ≤ 140737488355328 := by
     rw [← HL'.out]
     have h1 := dspR_len (p.gK (p.st0 l)) (p.gT (p.st0 l)) (p.gB (p.st0 l)) ls fb
     rw [HQ.out] at h1
     have h2 := HGB.out
     simp only [ByteArray.size, List.size_toArray] at h2 ⊢
     omega
    have hb := cv_at l' wz.drew hlen
    rw [show l'.data.toList = q.2.2 by rw [← HL'.out]] at hb
    unfold DspP
    rw [HZ.out, HW12.out]
    exact ⟨some ⟨wz.drew.heap.size, 0, none⟩, _, _, _, _, rfl, fun _ => ⟨rfl, rfl, _, hb⟩, HKZ.out.then hkc⟩
   ·rw [if_neg hz] at hask
    obtain ⟨ty, vx, rfl⟩ := HERR.out.held hz
    have hwho := HWHO.out hz
    have HW := hdd hwho
    have HZ := hdd hz
    have hcv := cv_run ⟨#[]⟩
    have hkd : Keep (fun _ => False) wz wz.drew := (Keep.refl _ wz).drew
    have hkc : Keep (fun _ => False) wz (cvW wz.drew ⟨#[]⟩) := hkd.then (cvW_keep ⟨#[]⟩ wz.drew)
    have hall : ∀ W, Keep (fun _ => False) wz W → W.cell? ⟨n0 + 1, 0, none⟩ = some (.int .i64 (-2)) ∧ W.cell? ⟨n0 + 1, 1, none⟩ = some (.int .i64 0) ∧ W.cell? ⟨n0 + 1, 2, none⟩ = some (.string ⟨#[]⟩) ∧ W.cell? ⟨n0 + 1, 3, none⟩ = some (.int .i32 0) := fun W hW => by
     have hask2 := (hW.block (n0 + 1) (lt_of_heap hask) id).trans hask
     have b0 := cellAt hask2 0
     have b1 := cellAt hask2 1
     have b2 := cellAt hask2 2
     have b3 := cellAt hask2 3
     simp at b0 b1 b2 b3
     exact ⟨b0, b1, b2, b3⟩
    have hkind : ∀ W, Keep (fun _ => False) wz W → Calls Tryz.prog 38 #[.iface ty vx] W fun e w' => e = .returned (.int .i64 q.1) ∧ Keep (fun _ => False) wz w' := fun W hW =>
     (kind_any (HGZ.out.keep hW (fun _ x => x.elim)) (HERR.out.keep hW (fun _ _ => id))).mono fun e w' ⟨h1, h2⟩ => ⟨h1, hW.then h2⟩
    have HALL := hdd hall
    have HKI := hdd hkind
    obtain ⟨a0, a1, a2, a3⟩ := hall _ hkd
    obtain ⟨b0, b1, b2, b3⟩ := hall _ hkc
    clear hask hall hkind hz hwho
    go_wp2_with fail
    rw [show Op.convert 9 24 (Operand.tmp 85) = cvOpD from rfl]
    have hcvo : cvOpD = Op.convert 9 24 (Operand.tmp 85) := rfl
    go_region_held3 (fun w' => w'.cell? ⟨n0 + 1, 0, none⟩ = some (.int .i64 (-2)) ∧ w'.cell? ⟨n0 + 1, 1, none⟩ = some (.int .i64 0) ∧ w'.cell? ⟨n0 + 1, 2, none⟩ = some (.string ⟨#[]⟩) ∧ w'.cell? ⟨n0 + 1, 3, none⟩ = some (.int .i32 0)) (go_keep) (first | (go_at_call 38; refine (HKI.out _ (by assumption)).mono ?_; rintro e w6 ⟨rfl, hk6⟩; have hkc6 : Keep (fun _ => False) wz (cvW w6 ⟨#[]⟩) := hk6.then (cvW_keep ⟨#[]⟩ w6); obtain ⟨c0, c1, c2, c3⟩ := HALL.out _ hk6; obtain ⟨d0, d1, d2, d3⟩ := HALL.out _ hkc6))
    all_goals
     go_wp2_with fail
     go_returns
     unfold DspP
     rw [HW.out]
     refine ⟨_, _, _, _, _, rfl, fun h => absurd h HZ.out, ?_⟩
     first
      | exact HKZ.out.then hkc6
      | exact HKZ.out.then hk6
end Go.Proofs.YtjekbomlpcdojaaGreatDoor
