/- Part 31 of the proof: ReadUuidR, GetUR, Set3. -/
import Derived.Test.YthehmlbolajljaaGreatDoorA18
import Derived.Test.YthehmlbolajljaaGreatDoorA15
import Derived.Test.YthehmlbolajljaaGreatDoorA30
import Derived.Deep.RegionWith
set_option linter.unusedVariables false
set_option linter.unusedSimpArgs false
set_option linter.unusedSectionVars false
namespace Go.Proofs.YthehmlbolajljaaGreatDoor
open Go Go.RowKit
theorem Rp.readUUID16 {St : Type} {K : Rp.Ctx St} {s : St} {w : World} (h : K.Inv s w) :
    Calls Tryz.prog K.fUuid #[.pointer (some ⟨K.P, 0, none⟩), ctxV] w fun e w' => ∃ U l ev, e = .returned (.tuple #[.agg U, ev]) ∧ U.size = 16 ∧ (bcells l).toArray = U ∧ Rp.Post K w w' (K.pr.scK 16 s) ev (K.pr.scS 16 s) ∧ l.length = 16 ∧ U.all (·.oneCell') = true ∧ (K.pr.scK 16 s = 0 → l = K.pr.scB 16 s) := by
  refine (K.readUUID h).mono ?_
  rintro e w' ⟨l, ev, rfl, hp, hl, hv⟩
  refine ⟨_, l, ev, rfl, by simpa using hl, rfl, hp, hl, ?_, hv⟩
  rw [Array.all_eq_true_iff_forall_mem]
  intro v hv
  simp at hv
  obtain ⟨b, _, rfl⟩ := hv
  rfl
set_option maxRecDepth 100000 in
set_option maxHeartbeats 1200000 in
theorem Rp.read21 {St : Type} (K : Rp.Ctx St) (s : St) (w : World) (h : K.Inv s w) :
    Calls Tryz.prog 58 #[K.V, .agg (stepI 21)] w (Rp.ReadP K w (K.pr.scK 16 s) (K.pr.scS 16 s) (K.pr.scN 16 s) (K.pr.scB 16 s)) := by
  obtain ⟨hnam, hna, hnac⟩ := K.mUuid
  go_enter Tryz.func58, Tryz.ntmps58
  go_wp2_with fail
  have hk0 : Keep (fun _ => False) w ((w.alloc (.cells (stepI 21) 95 (0, 0))).alloc (.cells zGot 139 (0, 0))) := ((Keep.refl _ w).alloc _).alloc _
  have hU0 : ((w.alloc (.cells (stepI 21) 95 (0, 0))).alloc (.cells zGot 139 (0, 0))).heap[w.heap.size + 1]? = some (.cells zGot 139 (0, 0)) := heap_alloc_at (by simp) _
  obtain ⟨U, hU⟩ : ∃ U, w.heap.size + 1 = U := ⟨_, rfl⟩
  rw [hU] at hU0 ⊢
  generalize (w.alloc (.cells (stepI 21) 95 (0, 0))).alloc (.cells zGot 139 (0, 0)) = w1 at *
  have HU := Lib.hid hU
  have HU0 := Lib.hid hU0
  have hM := Rp.M_new h hk0
  have HM := Lib.hid hM
  clear hU hU0 hM
  have hz1 : (w1.alloc (.cells #[.int .u8 0, .int .u8 0, .int .u8 0, .int .u8 0, .int .u8 0, .int .u8 0, .int .u8 0, .int .u8 0, .int .u8 0, .int .u8 0, .int .u8 0, .int .u8 0, .int .u8 0, .int .u8 0, .int .u8 0, .int .u8 0] 210 (0, 0))).heap[w1.heap.size]? = some (.cells #[.int .u8 0, .int .u8 0, .int .u8 0, .int .u8 0, .int .u8 0, .int .u8 0, .int .u8 0, .int .u8 0, .int .u8 0, .int .u8 0, .int .u8 0, .int .u8 0, .int .u8 0, .int .u8 0, .int .u8 0, .int .u8 0] 210 (0, 0)) := heap_alloc_new w1 _
  have hsz : (Tryz.prog.info? 210).map (·.size) = some 16 := by kernel_rfl
  have HSZ := Lib.hid hsz
  clear hsz
  go_region_with (first | (go_at_call 28; refine (ctx_at _).mono ?_; rintro e w' ⟨rfl, rfl⟩) | (first | (go_loud ((with_reducible refine (Rp.readUUID16 (w := w1.drew) (h.fresh hk0.drew)).mono ?_); rintro e w2 ⟨R, l, ev, rfl, hRs, hR, hp, hl, hall, hv⟩; have hkA : Keep (fun _ => False) w w1.drew := hk0.drew; have HP := Lib.hid hp; have HV := Lib.hid hv; have HR := Lib.hid hR; have HL := Lib.hid hl; have HALL := Lib.hid hall; have hz := heap_alloc_new w2 (.cells #[.int .u8 0, .int .u8 0, .int .u8 0, .int .u8 0, .int .u8 0, .int .u8 0, .int .u8 0, .int .u8 0, .int .u8 0, .int .u8 0, .int .u8 0, .int .u8 0, .int .u8 0, .int .u8 0, .int .u8 0, .int .u8 0] 210 (0, 0)); have HZ := Lib.hid hz; have hst := storeRow (P := Tryz.prog) (w2.alloc (.cells #[.int .u8 0, .int .u8 0, .int .u8 0, .int .u8 0, .int .u8 0, .int .u8 0, .int .u8 0, .int .u8 0, .int .u8 0, .int .u8 0, .int .u8 0, .int .u8 0, .int .u8 0, .int .u8 0, .int .u8 0, .int .u8 0] 210 (0, 0))) w2.heap.size _ 210 _ R hz (HSZ.out.trans (by rw [hRs])) (by simp [hRs]) hall; clear hz; clear hp hv hR hl hall)) | (((with_reducible refine (Rp.readUUID16 (w := (w1.alloc (.cells #[.int .u8 0, .int .u8 0, .int .u8 0, .int .u8 0, .int .u8 0, .int .u8 0, .int .u8 0, .int .u8 0, .int .u8 0, .int .u8 0, .int .u8 0, .int .u8 0, .int .u8 0, .int .u8 0, .int .u8 0, .int .u8 0] 210 (0, 0))).drew) (h.fresh (hk0.alloc _).drew)).mono ?_); rintro e w2 ⟨R, l, ev, rfl, hRs, hR, hp, hl, hall, hv⟩; have HP := Lib.hid hp; have HV := Lib.hid hv; have HR := Lib.hid hR; have HL := Lib.hid hl; have HALL := Lib.hid hall; have hz := (hp.keep.block w1.heap.size (by simp) (fun x => by have := Rp.M_new (w1 := w1.alloc (.cells #[.int .u8 0, .int .u8 0, .int .u8 0, .int .u8 0, .int .u8 0, .int .u8 0, .int .u8 0, .int .u8 0, .int .u8 0, .int .u8 0, .int .u8 0, .int .u8 0, .int .u8 0, .int .u8 0, .int .u8 0, .int .u8 0] 210 (0, 0))) h (hk0.alloc _) _ x; have := hk0.size; omega)).trans hz1; have HZ := Lib.hid hz; have hst := storeRow (P := Tryz.prog) w2 w1.heap.size _ 210 _ R hz (HSZ.out.trans (by rw [hRs])) (by simp [hRs]) hall; clear hp hv hR hl hall hz))))
  all_goals
    first
    | (obtain ⟨W1, W, G, hkW, hkI, hP, hW, hG, hr, hk2⟩ : ∃ W1 W G, Keep (fun _ => False) w W1 ∧ Keep (fun _ => False) w1 W1 ∧ Rp.Post K W1 w2 (K.pr.scK 16 s) ev (K.pr.scS 16 s) ∧ (w2.alloc (.cells #[.int .u8 0, .int .u8 0, .int .u8 0, .int .u8 0, .int .u8 0, .int .u8 0, .int .u8 0, .int .u8 0, .int .u8 0, .int .u8 0, .int .u8 0, .int .u8 0, .int .u8 0, .int .u8 0, .int .u8 0, .int .u8 0] 210 (0, 0))).setRow w2.heap.size R = W ∧ w2.heap.size = G ∧ W.heap[G]? = some (.cells R 210 (0, 0)) ∧ Keep (fun i => w1.heap.size ≤ i ∧ i < W1.heap.size) w2 W := ⟨w1.drew, _, _, hk0.drew, (Keep.refl _ w1).drew, HP.out, rfl, rfl, setRow_heap _ _ _ _ _ _ HZ.out, ((Keep.refl _ w2).alloc _).setRow _ (fun x => absurd x (Nat.lt_irrefl _)) R⟩
       rw [hW, hG]
       clear hW hG hst HZ)
    | (obtain ⟨W1, W, G, hkW, hkI, hP, hW, hG, hr, hk2⟩ : ∃ W1 W G, Keep (fun _ => False) w W1 ∧ Keep (fun _ => False) w1 W1 ∧ Rp.Post K W1 w2 (K.pr.scK 16 s) ev (K.pr.scS 16 s) ∧ w2.setRow w1.heap.size R = W ∧ w1.heap.size = G ∧ W.heap[G]? = some (.cells R 210 (0, 0)) ∧ Keep (fun i => w1.heap.size ≤ i ∧ i < W1.heap.size) w2 W := ⟨(w1.alloc (.cells #[.int .u8 0, .int .u8 0, .int .u8 0, .int .u8 0, .int .u8 0, .int .u8 0, .int .u8 0, .int .u8 0, .int .u8 0, .int .u8 0, .int .u8 0, .int .u8 0, .int .u8 0, .int .u8 0, .int .u8 0, .int .u8 0] 210 (0, 0))).drew, _, _, (hk0.alloc _).drew, ((Keep.refl _ w1).alloc _).drew, HP.out, rfl, rfl, setRow_heap _ _ _ _ _ _ HZ.out, (Keep.refl _ w2).setRow _ (fun _ => ⟨Nat.le_refl _, by simp⟩) R⟩
       rw [hW, hG]
       clear hW hG hst HZ)
    have hUs := HU.out
    have hUl := lt_of_heap HU0.out
    have hIs := hkI.size
    have hPs := hP.keep.size
    have hMW : ∀ i, K.M W1 i → i < w.heap.size := Rp.M_new h hkW
    have hb : w2.heap[U]? = some (.cells zGot 139 (0, 0)) := (hP.keep.block U (by omega) (fun x => by have := hMW U x; omega)).trans ((hkI.block U hUl id).trans HU0.out)
    have hc : ∀ j b, l[j]? = some b → W.cell? ⟨G, 0 + j, none⟩ = some (.int .u8 (b.toNat : Int)) := by
      intro j b hj
      rw [Nat.zero_add, cellAt hr j, ← HR.out]
      simp [hj]
    have hbW := (hk2.block U (by omega) (fun x => by omega)).trans hb
    have HBW := Lib.hid hbW
    have HC := Lib.hid hc
    have HI := Lib.hid (And.intro hIs hPs)
    clear hr hc hb hbW
    go_wp2_with fail
    refine (owned_some (A := fun _ => True) HC.out HL.out (by omega) (by omega)).mono ?_
    rintro e w3 ⟨va, vm, vc, rfl, hbs, hk3⟩
    have hb3 := (hk3.block U (lt_of_heap HBW.out) id).trans HBW.out
    have HBS := Lib.hid hbs
    have HB3 := Lib.hid hb3
    obtain ⟨u0, u1, u2, u3, u4, u5, u6⟩ := got_cells hb3
    obtain ⟨f0, f1, f2, f3, f4, f5, f6⟩ := got_free hb3
    clear hb3 hbs
    go_wp2_with fail
    have hUs := HU.out
    have hIP := HI.out
    have hUl := lt_of_heap HU0.out
    have hk9 : Keep (fun i => w.heap.size ≤ i ∧ i < W1.heap.size) w2 (gotW w3 U 0 0 0 0 0 0 (.slice va vm vc)) := got_keep ((hk2.weak (fun i _ x => by have := hk0.size; omega)).then (hk3.weak (fun _ _ x => x.elim))) (fun _ => by omega) _ _ _ _ _ _ _
    refine ret_cell2 (U := U) (T := 139) Tryz.results58 rfl rfl rfl (got_set HB3.out _ _ _ _ _ _ _) Tryz.underlying139 igot_size ?_
    refine ⟨0, .slice va vm vc, ev, rfl, Rp.through h hkW hP hk9 (fun i hi => hi), ⟨_, _, _, rfl⟩, fun hz => ⟨((K.n0 16 s (.inr rfl))).symm, ?_⟩⟩
    have hk4 : Keep (fun i => U = i) w3 (gotW w3 U 0 0 0 0 0 0 (.slice va vm vc)) := got_keep (Keep.refl _ w3) (fun _ => rfl) _ _ _ _ _ _ _
    have hWs := hk2.size
    rw [← HV.out hz]
    exact (HBS.out.keep hk4 (fun i hi e => by omega)).weak (fun i _ hi => ⟨by omega, fun x => by have := K.lt hP.some i (Rp.through_M h hkW hP hk9 (fun i hi => hi) i x); omega⟩)
end Go.Proofs.YthehmlbolajljaaGreatDoor

namespace Go.Proofs.YthehmlbolajljaaGreatDoor
open Go Go.RowKit
set_option maxRecDepth 100000 in
set_option maxHeartbeats 4000000 in
theorem Rp.gets16 {St : Type} (K : Rp.Ctx St) (deep : Int) (hd : 0 < deep) (s : St) (w : World) (h : K.Inv s w) :
    Calls Tryz.prog 29 #[K.V, .int .u8 16, .int .i64 deep] w (Rp.GetP K 1 w (K.pr.scK 16 s, K.pr.scS 16 s, .mk 16 (K.pr.scN 16 s) (K.pr.scB 16 s) 0 0 [] [])) := by
  go_enter Tryz.func29, Tryz.ntmps29
  go_wp2_with fail
  obtain ⟨hk0, hR, hV, hG, hs⟩ := getW_facts w 16
  obtain ⟨n0, hn⟩ : ∃ n0, w.heap.size = n0 := ⟨_, rfl⟩
  rw [hn] at hR hV hG hs ⊢
  unfold getW at hk0 hR hV hG hs
  generalize ((w.alloc (.cells zVal 29 (0, 0))).alloc (.cells (valC 16 0 nilB 0 0 (.slice none 0 0) (.slice none 0 0)) 29 (0, 0))).alloc (.cells zGot 139 (0, 0)) = w1 at *
  have HN := Lib.hid hn
  have HR := Lib.hid hR
  have HV := Lib.hid hV
  have HG := Lib.hid hG
  have HS := Lib.hid hs
  have HM := Lib.hid (Rp.M_new h hk0)
  clear hn hR hV hG hs
  refine (Rp.read21 K s w1 (h.fresh hk0)).mono ?_
  rintro e w2 ⟨n, v, ev, rfl, hp, ⟨va, vm, vc, rfl⟩, hres⟩
  have hnew : ∀ i, n0 ≤ i → ¬ K.M w1 i := fun i hi x => by have := HM.out i x; have := HN.out; omega
  have hR2 := (hp.keep.block n0 (lt_of_heap HR.out) (hnew _ (by omega))).trans HR.out
  have hV2 := (hp.keep.block (n0 + 1) (lt_of_heap HV.out) (hnew _ (by omega))).trans HV.out
  have hG2 := (hp.keep.block (n0 + 1 + 1) (lt_of_heap HG.out) (hnew _ (by omega))).trans HG.out
  have HP := Lib.hid hp
  have HRES := Lib.hid hres
  have HR2 := Lib.hid hR2
  have HV2 := Lib.hid hV2
  have HG2 := Lib.hid hG2
  obtain ⟨u0, u1, u2, u3, u4, u5, u6⟩ := got_cells hG2
  obtain ⟨f0, f1, f2, f3, f4, f5, f6⟩ := got_free hG2
  clear hp hres hR2 hV2 hG2 hnew
  go_wp2_with fail
  have hG3 := got_set HG2.out 0 0 0 0 0 n (.slice va vm vc)
  have hk3 : Keep (fun i => n0 + 1 + 1 = i) w2 (gotW w2 (n0 + 1 + 1) 0 0 0 0 0 n (.slice va vm vc)) := got_keep (Keep.refl _ w2) (fun _ => rfl) _ _ _ _ _ _ _
  clear u0 u1 u2 u3 u4 u5 u6 f0 f1 f2 f3 f4 f5 f6
  obtain ⟨w3, hw3⟩ : ∃ w3, gotW w2 (n0 + 1 + 1) 0 0 0 0 0 n (.slice va vm vc) = w3 := ⟨_, rfl⟩
  rw [hw3] at hG3 hk3
  unfold gotW at hw3
  rw [hw3]
  clear hw3
  have hV3 := (hk3.block (n0 + 1) (lt_of_heap HV2.out) (by omega)).trans HV2.out
  have hR3 := (hk3.block n0 (lt_of_heap HR2.out) (by omega)).trans HR2.out
  obtain ⟨u0, u1, u2, u3, u4, u5, u6⟩ := got_cells hG3
  obtain ⟨x0, x1, x2, x3, x4, x5, x6⟩ := got_cells hV3
  obtain ⟨y0, y1, y2, y3, y4, y5, y6⟩ := got_free hV3
  obtain ⟨r0, r1, r2, r3, r4, r5, r6⟩ := got_cells hR3
  obtain ⟨z0, z1, z2, z3, z4, z5, z6⟩ := got_free hR3
  have HV3 := Lib.hid hV3
  have HR3 := Lib.hid hR3
  clear hV3 hR3 hG3
  go_region
  all_goals
    go_wp2_with fail
    have hn0 := HN.out
    have hs1 := HS.out
    have hR4 : ((w3.setCell ⟨n0 + 1, 1, none⟩ (.int .i64 n)).setCell ⟨n0 + 1, 2, none⟩ (.slice va vm vc)).heap[n0]? = some (.cells zVal 29 (0, 0)) := (heap_set_other (p := ⟨n0 + 1, 2, none⟩) _ (by simp)).trans ((heap_set_other (p := ⟨n0 + 1, 1, none⟩) _ (by simp)).trans HR3.out)
    have hkN : Keep (fun i => n0 ≤ i ∧ i < n0 + 3) w2 w3 := hk3.weak (fun i _ e => by omega)
    have hkW := (((((((((hkN.set (n0 + 1) 1 (fun _ => by omega) (.int .i64 n)).set (n0 + 1) 2 (fun _ => by omega) (.slice va vm vc)).set n0 0 (fun _ => by omega) (.int .i64 16)).set n0 1 (fun _ => by omega) (.int .i64 n)).set n0 2 (fun _ => by omega) (.slice va vm vc)).set n0 3 (fun _ => by omega) (.int .i64 0)).set n0 4 (fun _ => by omega) (.int .i64 0)).set n0 5 (fun _ => by omega) (.slice none 0 0)).set n0 6 (fun _ => by omega) (.slice none 0 0)).drew
    have hR5 := val_set hR4 (.int .i64 16) (.int .i64 n) (.slice va vm vc) (.int .i64 0) (.int .i64 0) (.slice none 0 0) (.slice none 0 0)
    generalize ((((((((w3.setCell ⟨n0 + 1, 1, none⟩ (.int .i64 n)).setCell ⟨n0 + 1, 2, none⟩ (.slice va vm vc)).setCell ⟨n0, 0, none⟩ (.int .i64 16)).setCell ⟨n0, 1, none⟩ (.int .i64 n)).setCell ⟨n0, 2, none⟩ (.slice va vm vc)).setCell ⟨n0, 3, none⟩ (.int .i64 0)).setCell ⟨n0, 4, none⟩ (.int .i64 0)).setCell ⟨n0, 5, none⟩ (.slice none 0 0)).setCell ⟨n0, 6, none⟩ (.slice none 0 0) = w4 at *
    have hR6 : w4.drew.heap[n0]? = some (.cells #[.int .i64 16, .int .i64 n, .slice va vm vc, .int .i64 0, .int .i64 0, .slice none 0 0, .slice none 0 0] 29 (0, 0)) := hR5
    refine ret_cell2 (U := n0) (T := 29) Tryz.results29 rfl rfl rfl hR6 Tryz.underlying29 ival_size ?_
    refine ⟨_, n, va, vm, vc, 0, 0, none, 0, 0, none, 0, 0, ev, rfl, Rp.through h hk0 HP.out hkW (fun i hi => by omega), fun hz => ?_⟩
    obtain ⟨e1, e2⟩ := HRES.out hz
    subst e1
    exact ⟨_, _, _, rfl, (e2.keep hkW (fun i hi e => by have := hi.1; omega)).weak (fun i _ hi => ⟨by have := hi.1; omega, fun x => hi.2 (Rp.through_M h hk0 HP.out hkW (fun i hi => by omega) i x)⟩), .inl ⟨rfl, _, _, rfl⟩, .inl ⟨rfl, _, _, rfl⟩⟩
end Go.Proofs.YthehmlbolajljaaGreatDoor

namespace Go.Proofs.YthehmlbolajljaaGreatDoor
open Go Go.RowKit
abbrev ctpO (MB : Nat) (a : Option Addr) : Obj := .cells (cmpC MB a (.slice none 0 0) 0 false false (List.replicate 64 0)).toArray 223 (0, 0)
set_option maxRecDepth 100000 in
set_option maxHeartbeats 2000000 in
theorem ctpConf_at {M : Nat → Prop} {w : World} {a : Option Addr} {c : Cfg} (h : CfgAt M w a c) (MB : Nat) :
    Calls Tryz.prog 54 #[memV MB, .pointer a] w fun e w' => e = .returned (.pointer (some ⟨w.heap.size, 0, none⟩)) ∧ w'.heap[w.heap.size]? = some (ctpO MB a) ∧ Keep (fun _ => False) w w' := by
  have hta := ta_mem_rich
  go_enter Tryz.func54, Tryz.ntmps54
  go_wp2_with fail
  refine (propagate_at h _).mono ?_
  rintro e w1 ⟨rfl, rfl⟩
  go_wp2_with fail
  go_ret
  refine ⟨rfl, ?_, ?_⟩
  · exact (heap_alloc_new w _).trans rfl
  · exact (Keep.refl _ w).alloc _
set_option maxRecDepth 100000 in
set_option maxHeartbeats 2000000 in
theorem protocol_ctp (c : Cfg) (MB : Nat) (w : World) :
    Calls Tryz.prog 27 #[confV 1 c, memV MB] w fun e w' => ∃ P a, e = .returned (.iface 132 (.pointer (some ⟨P, 0, none⟩))) ∧ w.heap.size ≤ P ∧ w'.heap[P]? = some (ctpO MB a) ∧ CfgAt (fun i => i < w.heap.size ∨ P ≤ i) w' a c ∧ Keep (fun _ => False) w w' := by
  go_enter Tryz.func27, Tryz.ntmps27
  go_wp2_with fail
  generalize hw1 : w.alloc (.cells _ 23) = w1
  have hk1 : Keep (fun _ => False) w w1 := hw1 ▸ (Keep.refl _ w).alloc _
  have hs1 : w.heap.size ≤ w1.heap.size := hk1.size
  clear hw1
  refine (config_at 1 c w1).mono ?_
  rintro e w2 ⟨a, rfl, hc2, hk2⟩
  go_wp2_with fail
  refine (ctpConf_at hc2 MB).mono ?_
  rintro e w3 ⟨rfl, hP, hk3⟩
  have HP := Lib.hid hP
  clear hP
  go_wp2_with fail
  go_ret
  refine ⟨_, a, rfl, Nat.le_trans hs1 hk2.size, HP.out, ?_, hk1.then (hk2.then hk3)⟩
  refine (CfgAt.weak (N := fun i => i < w.heap.size ∨ w2.heap.size ≤ i) hc2 (fun i hi h => ?_)).keep hk3 (fun _ x => x.elim)
  rcases h with h | h
  · exact .inl (by omega)
  · exact .inr h
end Go.Proofs.YthehmlbolajljaaGreatDoor
