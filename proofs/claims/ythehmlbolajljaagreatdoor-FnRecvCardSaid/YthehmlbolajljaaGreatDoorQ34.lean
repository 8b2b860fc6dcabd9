/- Part 34 of the proof: GetUR, Set3. -/
import Derived.Test.YthehmlbolajljaaGreatDoorQ21
import Derived.Test.YthehmlbolajljaaGreatDoorQ15
import Derived.Test.YthehmlbolajljaaGreatDoorQ33
set_option linter.unusedVariables false
set_option linter.unusedSimpArgs false
set_option linter.unusedSectionVars false
set_option maxHeartbeats 16000000
namespace Go.Proofs.YthehmlbolajljaaGreatDoor
open Go Go.RowKit
set_option maxRecDepth 100000 in
theorem Rp.gets16 {St : Type} (K : Rp.Ctx St) (deep : Int) (hd : 0 < deep) (s : St) (w : World) (h : K.Inv s w) :
  Calls Tryz.prog 29 #[K.V, .int .u8 16, .int .i64 deep] w (Rp.GetP K 1 w (K.pr.scK 16 s, K.pr.scS 16 s, .mk 16 (K.pr.scN 16 s) (K.pr.scB 16 s) 0 0 [] [])) := by
 go_enter Tryz.func29, Tryz.ntmps29
 go_wp2_with fail
 obtain ⟨hk0, hR, hV, hG, hs⟩ := getW_facts w 16
 obtain ⟨n0, hn⟩ : ∃ n0, w.heap.size = n0 := ⟨_, rfl⟩
 rw [hn] at hR hV hG hs ⊢
 unfold getW at hk0 hR hV hG hs
 generalize ((w.alloc (.cells zVal 29 (0, 0))).alloc (.cells (valC 16 0 nilB 0 0 (.slice none 0 0) (.slice none 0 0)) 29 (0, 0))).alloc (.cells zGot 139 (0, 0)) = w1 at *
 have HN := hdd hn
 have HR := hdd hR
 have HV := hdd hV
 have HG := hdd hG
 have HS := hdd hs
 have HM := hdd (Rp.M_new h hk0)
 clear hn hR hV hG hs
 refine (Rp.read21 K s w1 (h.fresh hk0)).mono ?_
 rintro e w2 ⟨n, v, ev, rfl, hp, ⟨va, vm, vc, rfl⟩, hres⟩
 have hnew : ∀ i, n0 ≤ i → ¬ K.M w1 i := fun i hi x => by have := HM.out i x; have := HN.out; omega
 have hR2 := (hp.keep.block n0 (lt_of_heap HR.out) (hnew _ (by omega))).trans HR.out
 have hV2 := (hp.keep.block (n0 + 1) (lt_of_heap HV.out) (hnew _ (by omega))).trans HV.out
 have hG2 := (hp.keep.block (n0 + 1 + 1) (lt_of_heap HG.out) (hnew _ (by omega))).trans HG.out
 have HP := hdd hp
 have HRES := hdd hres
 have HR2 := hdd hR2
 have HV2 := hdd hV2
 have HG2 := hdd hG2
 obtain ⟨u0, u1, u2, u3, u4, u5, u6⟩ := got_cells hG2
 obtain ⟨f0, f1, f2, f3, f4, f5, f6⟩ := got_free hG2
 clear hp hres hR2 hV2 hG2 hnew
 go_wp2_with fail
 have hG3 := got_set HG2.out 0 0 0 0 0 n (.slice va vm vc)
 have hk3 : Keep (fun i => n0 + 1 + 1 = i) w2 (gotW w2 (n0 + 1 + 1) 0 0 0 0 0 n (.slice va vm vc)) := got_keep (Keep.refl _ w2) (fun _ => rfl) _ _ _ _ _ _ _
 clear u0 u1 u2 u3 u4 u5 u6 f0 f1 f2 f3 f4 f5 f6
 obtain ⟨w3, hw3⟩ : ∃ w3, gotW w2 (n0 + 1 + 1) 0 0 0 0 0 n (.slice va vm vc) = w3 := ⟨_, rfl⟩
 rw [hw3] at hG3 hk3
 unfold gotW at hw3
 rw [hw3]
 clear hw3
 have hV3 := (hk3.block (n0 + 1) (lt_of_heap HV2.out) (by omega)).trans HV2.out
 have hR3 := (hk3.block n0 (lt_of_heap HR2.out) (by omega)).trans HR2.out
 obtain ⟨u0, u1, u2, u3, u4, u5, u6⟩ := got_cells hG3
 obtain ⟨x0, x1, x2, x3, x4, x5, x6⟩ := got_cells hV3
 obtain ⟨y0, y1, y2, y3, y4, y5, y6⟩ := got_free hV3
 obtain ⟨r0, r1, r2, r3, r4, r5, r6⟩ := got_cells hR3
 obtain ⟨z0, z1, z2, z3, z4, z5, z6⟩ := got_free hR3
 have HV3 := hdd hV3
 have HR3 := hdd hR3
 clear hV3 hR3 hG3
 go_region
 all_goals
  go_wp2_with fail
  have hn0 := HN.out
  have hs1 := HS.out
  have hR4 : ((w3.setCell ⟨n0 + 1, 1, none⟩ (.int .i64 n)).setCell ⟨n0 + 1, 2, none⟩ (.slice va vm vc)).heap[n0]? = some (.cells zVal 29 (0, 0)) := (heap_set_other (p := ⟨n0 + 1, 2, none⟩) _ (by simp)).trans ((heap_set_other (p := ⟨n0 + 1, 1, none⟩) _ (by simp)).trans HR3.out)
  have hkN : Keep (fun i => n0 ≤ i ∧ i < n0 + 3) w2 w3 := hk3.weak (fun i _ e => by omega)
  have hkW := (((((((((hkN.set (n0 + 1) 1 (fun _ => by omega) (.int .i64 n)).set (n0 + 1) 2 (fun _ => by omega) (.slice va vm vc)).set n0 0 (fun _ => by omega) (.int .i64 16)).set n0 1 (fun _ => by omega) (.int .i64 n)).set n0 2 (fun _ => by omega) (.slice va vm vc)).set n0 3 (fun _ => by omega) (.int .i64 0)).set n0 4 (fun _ => by omega) (.int .i64 0)).set n0 5 (fun _ => by omega) (.slice none 0 0)).set n0 6 (fun _ => by omega) (.slice none 0 0)).drew
  have hR5 := val_set hR4 (.int .i64 16) (.int .i64 n) (.slice va vm vc) (.int .i64 0) (.int .i64 0) (.slice none 0 0) (.slice none 0 0)
  generalize ((((((((w3.setCell ⟨n0 + 1, 1, none⟩ (.int .i64 n)).setCell ⟨n0 + 1, 2, none⟩ (.slice va vm vc)).setCell ⟨n0, 0, none⟩ (.int .i64 16)).setCell ⟨n0, 1, none⟩ (.int .i64 n)).setCell ⟨n0, 2, none⟩ (.slice va vm vc)).setCell ⟨n0, 3, none⟩ (.int .i64 0)).setCell ⟨n0, 4, none⟩ (.int .i64 0)).setCell ⟨n0, 5, none⟩ (.slice none 0 0)).setCell ⟨n0, 6, none⟩ (.slice none 0 0) = w4 at *
  have hR6 : w4.drew.heap[n0]? = some (.cells #[.int .i64 16, .int .i64 n, .slice va vm vc, .int .i64 0, .int .i64 0, .slice none 0 0, .slice none 0 0] 29 (0, 0)) := hR5
  refine ret_cell2 (U := n0) (T := 29) Tryz.results29 rfl rfl rfl hR6 Tryz.underlying29 ival_size ?_
  refine ⟨_, n, va, vm, vc, 0, 0, none, 0, 0, none, 0, 0, ev, rfl, Rp.through h hk0 HP.out hkW (fun i hi => by omega), fun hz => ?_⟩
  obtain ⟨e1, e2⟩ := HRES.out hz
  subst e1
  exact ⟨_, _, _, rfl, (e2.keep hkW (fun i hi e => by have := hi.1; omega)).weak (fun i _ hi => ⟨by have := hi.1; omega, fun x => hi.2 (Rp.through_M h hk0 HP.out hkW (fun i hi => by omega) i x)⟩), .inl ⟨rfl, _, _, rfl⟩, .inl ⟨rfl, _, _, rfl⟩⟩
abbrev ctpO (MB : Nat) (a : Option Addr) : Obj := .cells (cmpC MB a (.slice none 0 0) 0 false false (List.replicate 64 0)).toArray 223 (0, 0)
set_option maxRecDepth 100000 in
theorem ctpConf_at {M : Nat → Prop} {w : World} {a : Option Addr} {c : Cfg} (h : CfgAt M w a c) (MB : Nat) :
  Calls Tryz.prog 54 #[memV MB, .pointer a] w fun e w' => e = .returned (.pointer (some ⟨w.heap.size, 0, none⟩)) ∧ w'.heap[w.heap.size]? = some (ctpO MB a) ∧ Keep (fun _ => False) w w' := by
 have hta := ta_mem_rich
 go_enter Tryz.func54, Tryz.ntmps54
 go_wp2_with fail
 refine (propagate_at h _).mono ?_
 rintro e w1 ⟨rfl, rfl⟩
 go_wp2_with fail
 go_ret
 refine ⟨rfl, ?_, ?_⟩
 ·exact (heap_alloc_new w _).trans rfl
 ·exact (Keep.refl _ w).alloc _
set_option maxRecDepth 100000 in
theorem protocol_ctp (c : Cfg) (MB : Nat) (w : World) :
  Calls Tryz.prog 27 #[confV 1 c, memV MB] w fun e w' => ∃ P a, e = .returned (.iface 132 (.pointer (some ⟨P, 0, none⟩))) ∧ w.heap.size ≤ P ∧ w'.heap[P]? = some (ctpO MB a) ∧ CfgAt (fun i => i < w.heap.size ∨ P ≤ i) w' a c ∧ Keep (fun _ => False) w w' := by
 go_enter Tryz.func27, Tryz.ntmps27
 go_wp2_with fail
 generalize hw1 : w.alloc (.cells _ 23) = w1
 have hk1 : Keep (fun _ => False) w w1 := hw1 ▸ (Keep.refl _ w).alloc _
 have hs1 : w.heap.size ≤ w1.heap.size := hk1.size
 clear hw1
 refine (config_at 1 c w1).mono ?_
 rintro e w2 ⟨a, rfl, hc2, hk2⟩
 go_wp2_with fail
 refine (ctpConf_at hc2 MB).mono ?_
 rintro e w3 ⟨rfl, hP, hk3⟩
 have HP := hdd hP
 clear hP
 go_wp2_with fail
 go_ret
 refine ⟨_, a, rfl, Nat.le_trans hs1 hk2.size, HP.out, ?_, hk1.then (hk2.then hk3)⟩
 refine (CfgAt.weak (N := fun i => i < w.heap.size ∨ w2.heap.size ≤ i) hc2 (fun i hi h => ?_)).keep hk3 (fun _ x => x.elim)
 rcases h with h | h
 ·exact .inl (by omega)
 ·exact .inr h
end Go.Proofs.YthehmlbolajljaaGreatDoor
